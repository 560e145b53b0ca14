import Derived.Test.Qxb6632227aBase
namespace Go.Proofs.Qxb6632227a
open Go.RowKit
set_option linter.unusedSimpArgs false
set_option linter.unusedVariables false

def SameOut (w : World) (zs ys : List Int) (e : Ending) (w' : World) : Prop := e = .returned (.bool (zs == ys)) ∧ Below w.heap.size w w'

theorem same_len (w : World) (a a' : Option Addr) (c c' : Nat) (zs ys : List Int) (h : zs.length ≠ ys.length) :
    Calls Try.prog 8 #[.slice a zs.length c, .slice a' ys.length c'] w fun e w' => SameOut w zs ys e w' := by
  have he : (zs == ys) = false := by
    rw [beq_eq_false_iff_ne]
    rintro rfl
    exact h rfl
  have HE := hid he
  generalize zs.length = n at *
  generalize ys.length = m at *
  clear he
  rcases Nat.lt_or_gt_of_ne h with g | g
  all_goals
    go_enter Try.func8, Try.ntmps8
    go_wp2
    go_ret
    exact ⟨by rw [HE.out]; rfl, Below.refl _ _⟩

theorem same_nil (w : World) (a a' : Option Addr) (c c' : Nat) :
    Calls Try.prog 8 #[.slice a 0 c, .slice a' 0 c'] w fun e w' => SameOut w [] [] e w' := by
  go_enter Try.func8, Try.ntmps8
  go_wp2
  refine wp_loop_rounds 1 ?_
  rw [rounds_succ]
  go_wp2
  go_ret
  exact ⟨rfl, Below.refl _ _⟩

theorem list_eq_of {zs ys : List Int} (hl : zs.length = ys.length) (h : ∀ i, i < zs.length → zs.getD i 0 = ys.getD i 0) : zs = ys := by
  apply List.ext_getElem hl
  intro i h1 h2
  have := h i h1
  simpa [List.getD, h1, h2] using this

theorem same_pos (w : World) (b o b' o' c c' : Nat) (zs ys : List Int) (hl : zs.length = ys.length) (hm : zs.length ≤ 9223372036854775807)
    (hz : ∀ i, i < zs.length → w.cell? ⟨b, o + i, none⟩ = some (.int .u8 (zs.getD i 0))) (hy : ∀ i, i < ys.length → w.cell? ⟨b', o' + i, none⟩ = some (.int .u8 (ys.getD i 0))) :
    Calls Try.prog 8 #[.slice (some ⟨b, o, none⟩) zs.length c, .slice (some ⟨b', o', none⟩) ys.length c'] w fun e w' => SameOut w zs ys e w' := by
  have HZ := hid hz
  have HY := hid hy
  have HE : Hid ((∀ i, i < zs.length → zs.getD i 0 = ys.getD i 0) → (zs == ys) = true) := hid fun h => by rw [beq_iff_eq]; exact list_eq_of hl h
  have HF : Hid (∀ i, zs.getD i 0 ≠ ys.getD i 0 → (zs == ys) = false) := hid fun i h => by
    rw [beq_eq_false_iff_ne]
    rintro rfl
    exact h rfl
  clear hz hy
  rw [← hl] at HY ⊢
  clear hl
  generalize zs.length = n at *
  go_enter Try.func8, Try.ntmps8
  go_wp2
  go_loopw [5] (fun i wr => ∃ k : Nat, k ≤ n ∧ i = .int .i64 k ∧ Below w.heap.size w wr ∧ ∀ i, i < k → zs.getD i 0 = ys.getD i 0) (fun i _ => n - (intOf i).toNat)
  case atStart => exact ⟨0, Nat.zero_le _, rfl, Below.refl _ _, fun i hi => absurd hi (Nat.not_lt_zero i)⟩
  case round =>
    obtain ⟨k, hk, rfl, hb, heq⟩ := hrel
    have Heq := hid heq
    clear heq
    by_cases hlt : k < n
    · have f0 := below_cell hb (HZ.out k hlt)
      have f1 := below_cell hb (HY.out k hlt)
      have Hb := hid hb
      clear hb
      obtain ⟨x, hx⟩ : ∃ x, zs.getD k 0 = x := ⟨_, rfl⟩
      obtain ⟨y, hy⟩ : ∃ y, ys.getD k 0 = y := ⟨_, rfl⟩
      rw [hx] at f0
      rw [hy] at f1
      have Hx := hid hx
      have Hy := hid hy
      clear hx hy
      have hlt' : (k : Int) < (n : Int) := by omega
      by_cases hxy : x = y
      · subst hxy
        go_wp2
        go_quiet (fail)
        go_wp2
        go_roundw
        case rel =>
          refine ⟨k + 1, by omega, by go_num, below_drewN Hb.out _, fun i hi => ?_⟩
          by_cases hik : i < k
          · exact Heq.out i hik
          · obtain rfl : i = k := by omega
            rw [Hx.out, Hy.out]
        case measure => simp [intOf]; omega
      · have hne : (x != y) = true := by rw [bne_iff_ne]; exact hxy
        go_wp2
        go_quiet (fail)
        go_wp2
        go_ret
        exact ⟨by rw [HF.out k (by rw [Hx.out, Hy.out]; exact hxy)]; rfl, below_drewN Hb.out _⟩
    · obtain rfl : n = k := by omega
      have Hb := hid hb
      clear hb
      go_wp2
      go_ret
      exact ⟨by rw [HE.out Heq.out]; rfl, Hb.out⟩

theorem same_any (w : World) (a a' : Option Addr) (c c' : Nat) (zs ys : List Int) (hz : Rd w a zs) (hy : Rd w a' ys) (hm : zs.length ≤ 9223372036854775807) :
    Calls Try.prog 8 #[.slice a zs.length c, .slice a' ys.length c'] w fun e w' => SameOut w zs ys e w' := by
  by_cases hl : zs.length = ys.length
  · rcases hz with rfl | ⟨b, o, rfl, hc⟩
    · obtain rfl : ys = [] := List.eq_nil_of_length_eq_zero hl.symm
      exact same_nil w a a' c c'
    · rcases hy with rfl | ⟨b', o', rfl, hc'⟩
      · obtain rfl : zs = [] := List.eq_nil_of_length_eq_zero hl
        exact same_nil w _ a' c c'
      · exact same_pos w b o b' o' c c' zs ys hl hm hc hc'
  · exact same_len w a a' c c' zs ys hl
end Go.Proofs.Qxb6632227a
