import Derived.Test.Qxb6632328aBase
namespace Go.Proofs.Qxb6632328a
open Go.RowKit
set_option linter.unusedVariables false
set_option linter.unusedSimpArgs false
attribute [local go_sem] q22 q23 q31 q44 q44n

/-! ### Present -/
theorem present_any (w : World) (a : Option Addr) (l c : Nat) (t : Int) :
    Calls Try.prog 20 #[.agg #[.slice a l c, .int .u64 t]] w fun e w' => e = .returned (.bool a.isSome) ∧ Below w.heap.size w w' := by
  go_enter Try.func20, Try.ntmps20
  go_wp2
  go_ret
  exact ⟨rfl, below_one _ _⟩

/-! ### pruneSameBytes at one slice twice -/
theorem sameb_zero (w : World) (a : Option Addr) (c : Nat) :
    Calls Try.prog 21 #[.slice a 0 c, .slice a 0 c] w fun e w' => e = .returned (.bool true) ∧ Below w.heap.size w w' := by
  cases a
  all_goals
    go_enter Try.func21, Try.ntmps21
    go_wp2
    refine wp_loop_rounds 1 ?_
    rw [rounds_succ]
    go_wp2
    go_ret
    exact ⟨rfl, Below.refl _ _⟩
theorem sameb_some (w : World) (b o l c : Nat) (Z : Nat → Int) (hl : l ≤ 9223372036854775807) (hc : ∀ i, i < l → w.cell? ⟨b, o + i, none⟩ = some (.int .u8 (Z i))) :
    Calls Try.prog 21 #[.slice (some ⟨b, o, none⟩) l c, .slice (some ⟨b, o, none⟩) l c] w fun e w' => e = .returned (.bool true) ∧ Below w.heap.size w w' := by
  have HC := hid hc
  clear hc
  go_enter Try.func21, Try.ntmps21
  go_wp2
  go_loopw [5] (fun j wr => ∃ k : Nat, k ≤ l ∧ j = .int .i64 k ∧ Below w.heap.size w wr) (fun j _ => l - (intOf j).toNat)
  case atStart => exact ⟨0, Nat.zero_le _, rfl, Below.refl _ _⟩
  case round =>
    obtain ⟨k, hk, rfl, hb⟩ := hrel
    have Hb := hid hb
    clear hb
    by_cases hlt : k < l
    · have f := below_cell Hb.out (HC.out k hlt)
      have hlt' : (k : Int) < (l : Int) := by omega
      generalize Z k = z at f
      go_wp2
      go_quiet (fail)
      go_wp2
      go_roundw
      case rel => exact ⟨k + 1, by omega, by go_num, below_drewN Hb.out _⟩
      case measure => simp [intOf]; omega
    · go_wp2
      go_ret
      exact ⟨rfl, Hb.out⟩
theorem sameb_any (w : World) (a : Option Addr) (l c : Nat) (h : BytesOk w a l) :
    Calls Try.prog 21 #[.slice a l c, .slice a l c] w fun e w' => e = .returned (.bool true) ∧ Below w.heap.size w w' := by
  obtain ⟨hl, h⟩ := h
  rcases h with rfl | ⟨b, o, Z, rfl, hc⟩
  · exact sameb_zero w a c
  · exact sameb_some w b o l c Z hl hc

/-! ### pruneSameVersion, pruneSameKv at one version twice -/
theorem samev_any (w : World) (a : Option Addr) (l c : Nat) (t : Int) (h : BytesOk w a l) :
    Calls Try.prog 13 #[.agg #[.slice a l c, .int .u64 t], .agg #[.slice a l c, .int .u64 t]] w fun e w' => e = .returned (.bool true) ∧ Below w.heap.size w w' := by
  have H := hid (h.later (below_two w (.cells #[.slice a l c, .int .u64 t] 46) (.cells #[.slice a l c, .int .u64 t] 33)))
  clear h
  go_enter Try.func13, Try.ntmps13
  go_wp2_with fail
  refine (sameb_any _ _ _ _ H.out).mono ?_
  rintro e w1 ⟨rfl, hb⟩
  have HB := hid ((below_two _ _ _).trans (hb.mono (by simp; omega)))
  clear hb
  go_wp2
  go_ret
  exact ⟨rfl, HB.out⟩
theorem samek_any (w : World) (a : Option Addr) (l c : Nat) (t : Int) (h : BytesOk w a l) :
    Calls Try.prog 18 #[.agg #[.slice a l c, .int .u64 t], .agg #[.slice a l c, .int .u64 t]] w fun e w' => e = .returned (.bool true) ∧ Below w.heap.size w w' := by
  have H := hid (h.later (below_two w (.cells #[.slice a l c, .int .u64 t] 46) (.cells #[.slice a l c, .int .u64 t] 46)))
  clear h
  go_enter Try.func18, Try.ntmps18
  go_wp2_with fail
  refine (sameb_any _ _ _ _ H.out).mono ?_
  rintro e w1 ⟨rfl, hb⟩
  have HB := hid ((below_two _ _ _).trans (hb.mono (by simp; omega)))
  clear hb
  go_wp2
  go_ret
  exact ⟨rfl, HB.out⟩
end Go.Proofs.Qxb6632328a
