import Derived.Test.Qxb6631315aBase
namespace Go.Proofs.Qxb6631315a
open Go.RowKit
set_option linter.unusedSimpArgs false
attribute [local go_sem] q38 q39

/-! ### lawIsZero at the zero client -/
theorem zero_any (w : World) :
    Calls Try.prog 10 #[.agg #[.string ⟨#[]⟩, .slice none 0 0, .pointer none]] w fun e w' => e = .returned (.bool true) ∧ Below w.heap.size w w' := by
  go_enter Try.func10, Try.ntmps10
  go_wp2
  go_ret
  exact ⟨rfl, (Below.refl _ _).alloc (Nat.le_refl _) _⟩

/-! ### lawSame at one client twice -/
theorem same_zero (w : World) (s : ByteArray) (a : Option Addr) (c : Nat) (p : Option Addr) :
    Calls Try.prog 9 #[.agg #[.string s, .slice a 0 c, .pointer p], .agg #[.string s, .slice a 0 c, .pointer p]] w fun e w' => e = .returned (.bool true) ∧ Below w.heap.size w w' := by
  go_enter Try.func9, Try.ntmps9
  go_wp2
  refine wp_loop_rounds 1 ?_
  rw [rounds_succ]
  go_wp2
  go_ret
  exact ⟨rfl, ((Below.refl _ _).alloc (Nat.le_refl _) _).alloc (by simp) _⟩

theorem same_some (w : World) (s : ByteArray) (b o l c : Nat) (S : Nat → ByteArray) (p : Option Addr) (hl : l ≤ 9223372036854775807) (hc : ∀ i, i < l → w.cell? ⟨b, o + i, none⟩ = some (.string (S i))) :
    Calls Try.prog 9 #[.agg #[.string s, .slice (some ⟨b, o, none⟩) l c, .pointer p], .agg #[.string s, .slice (some ⟨b, o, none⟩) l c, .pointer p]] w fun e w' => e = .returned (.bool true) ∧ Below w.heap.size w w' := by
  have HC : Hid (∀ i, i < l → w.cell? ⟨b, o + i, none⟩ = some (.string (S i))) := hc
  clear hc
  go_enter Try.func9, Try.ntmps9
  go_wp2
  go_loopw [5] (fun j wr => ∃ k : Nat, k ≤ l ∧ j = .int .i64 k ∧ Below (w.heap.size + 2) ((w.alloc (.cells #[.string s, .slice (some ⟨b, o, none⟩) l c, .pointer p] 41)).alloc (.cells #[.string s, .slice (some ⟨b, o, none⟩) l c, .pointer p] 41)) wr) (fun j _ => l - (intOf j).toNat)
  case atStart => exact ⟨0, Nat.zero_le _, rfl, Below.refl _ _⟩
  case round =>
    obtain ⟨k, hk, rfl, hb⟩ := hrel
    have f1 : wr.cell? ⟨w.heap.size, 1, none⟩ = some (.slice (some ⟨b, o, none⟩) l c) := by
      rw [hb.cell (p := ⟨w.heap.size, 1, none⟩) (by simp)]; simp [go_sem, World.cell?_alloc_past]
    have f2 : wr.cell? ⟨w.heap.size + 1, 1, none⟩ = some (.slice (some ⟨b, o, none⟩) l c) := by
      rw [hb.cell (p := ⟨w.heap.size + 1, 1, none⟩) (by simp)]; simp [go_sem, World.cell?_alloc_past]
    have f3 : wr.cell? ⟨w.heap.size, 2, none⟩ = some (.pointer p) := by
      rw [hb.cell (p := ⟨w.heap.size, 2, none⟩) (by simp)]; simp [go_sem, World.cell?_alloc_past]
    have f4 : wr.cell? ⟨w.heap.size + 1, 2, none⟩ = some (.pointer p) := by
      rw [hb.cell (p := ⟨w.heap.size + 1, 2, none⟩) (by simp)]; simp [go_sem, World.cell?_alloc_past]
    have HB : Hid (Below w.heap.size w wr) := (below_two w _ _).trans (hb.mono (by omega))
    have Hb := (show Hid _ from hb)
    clear hb
    by_cases hlt : k < l
    · have f5 : wr.cell? ⟨b, o + k, none⟩ = some (.string (S k)) := below_cell HB.out (HC.out k hlt)
      go_wp2
      go_quiet (fail)
      go_wp2
      go_roundw
      case rel => exact ⟨k + 1, by omega, by go_num, below_drewN Hb.out _⟩
      case measure => simp [intOf]; omega
    · go_wp2
      go_ret
      exact ⟨rfl, HB.out⟩

theorem same_any (w : World) (s : ByteArray) (a : Option Addr) (l c : Nat) (p : Option Addr) (h : RolesOk w a l) :
    Calls Try.prog 9 #[.agg #[.string s, .slice a l c, .pointer p], .agg #[.string s, .slice a l c, .pointer p]] w fun e w' => e = .returned (.bool true) ∧ Below w.heap.size w w' := by
  obtain ⟨hl, h⟩ := h
  rcases h with rfl | ⟨b, o, S, rfl, hc⟩
  · exact same_zero w s a c p
  · exact same_some w s b o l c S p hl fun i hi => (hc i hi).1

/-! ### (*Config).Client: the first client with that ID, or the zero client -/

theorem client_any (w : World) (cb B o n c : Nat) (ID : Nat → ByteArray) (A : Nat → Option Addr) (L C : Nat → Nat) (R : Nat → Option Addr) (id : ByteArray) (hn : n ≤ 9223372036854775807)
    (hs : w.cell? ⟨cb, 14, none⟩ = some (.slice (some ⟨B, o, none⟩) n c))
    (h0 : ∀ i, i < n → w.cell? ⟨B, o + i * 3, none⟩ = some (.string (ID i)) ∧ w.cell? ⟨B, o + i * 3 + 1, none⟩ = some (.slice (A i) (L i) (C i)) ∧ w.cell? ⟨B, o + i * 3 + 2, none⟩ = some (.pointer (R i))) :
    Calls Try.prog 8 #[.pointer (some ⟨cb, 0, none⟩), .string id] w fun e w' =>
      ((∃ k, k < n ∧ ((ID k).toList == id.toList) = true ∧ (∀ i, i < k → ((ID i).toList == id.toList) = false) ∧ e = .returned (.tuple #[.agg #[.string (ID k), .slice (A k) (L k) (C k), .pointer (R k)], .bool true])) ∨
        ((∀ i, i < n → ((ID i).toList == id.toList) = false) ∧ e = .returned (.tuple #[.agg #[.string ⟨#[]⟩, .slice none 0 0, .pointer none], .bool false]))) ∧ Below w.heap.size w w' := by
  have h0' : ∀ o1, (w.alloc o1).cell? ⟨cb, 14, none⟩ = some (.slice (some ⟨B, o, none⟩) n c) := fun o1 => by rw [World.cell?_alloc_lt _ _ _ (cell_lt hs)]; exact hs
  have H0 := (show Hid _ from h0)
  clear h0 hs
  go_enter Try.func8, Try.ntmps8
  go_wp2
  clear h0'
  go_loopw [13] (fun j wr => ∃ k : Nat, k ≤ n ∧ j = .int .i64 k ∧ Below (w.heap.size + 1) (w.alloc (.cells #[.string ⟨#[]⟩, .slice none 0 0, .pointer none] 41)) wr ∧ ∀ i, i < k → ((ID i).toList == id.toList) = false) (fun j _ => n - (intOf j).toNat)
  case atStart => exact ⟨0, Nat.zero_le _, rfl, Below.refl _ _, fun i hi => absurd hi (Nat.not_lt_zero i)⟩
  case round =>
    obtain ⟨k, hk, rfl, hb, hne⟩ := hrel
    have g0 : wr.cell? ⟨w.heap.size, 0, none⟩ = some (.string ⟨#[]⟩) := by
      rw [hb.cell (p := ⟨w.heap.size, 0, none⟩) (by simp)]; simp [go_sem]
    have g1 : wr.cell? ⟨w.heap.size, 1, none⟩ = some (.slice none 0 0) := by
      rw [hb.cell (p := ⟨w.heap.size, 1, none⟩) (by simp)]; simp [go_sem]
    have g2 : wr.cell? ⟨w.heap.size, 2, none⟩ = some (.pointer none) := by
      rw [hb.cell (p := ⟨w.heap.size, 2, none⟩) (by simp)]; simp [go_sem]
    have gf : ∀ j, wr.frozen? ⟨w.heap.size, j, none⟩ = false := fun j => by
      rw [hb.frozen (p := ⟨w.heap.size, j, none⟩) (by simp)]; simp [go_sem]
    have gz : w.heap.size < wr.heap.size := by have := hb.size; simp at this; omega
    have HB : Hid (Below w.heap.size w wr) := ((Below.refl _ _).alloc (Nat.le_refl _) _).trans (hb.mono (by omega))
    have Hb := (show Hid _ from hb)
    have Hne := (show Hid _ from hne)
    clear hb hne
    by_cases hlt : k < n
    · obtain ⟨c0, c1, c2⟩ := H0.out k hlt
      have f0 := below_cell HB.out c0
      have f1 := below_cell HB.out c1
      have f2 := below_cell HB.out c2
      clear c0 c1 c2
      go_wp2
      · exact bodyPost_ret (v := .tuple #[.agg #[.string (ID k), .slice (A k) (L k) (C k), .pointer (R k)], .bool true]) (by simp [results, Try.results8, go_sem, gz, g0, g1, g2]) rfl
          ⟨.inl ⟨k, hlt, by assumption, Hne.out, rfl⟩, ((((HB.out).setCell (Nat.le_refl _) _).setCell (Nat.le_refl _) _).setCell (Nat.le_refl _) _).alloc (by simp; omega) _⟩
      · have hk0 : ((ID k).toList == id.toList) = false := by assumption
        go_roundw
        case rel =>
          refine ⟨k + 1, by omega, by go_num, Hb.out.alloc (by omega) _, fun i hi => ?_⟩
          by_cases hik : i < k
          · exact Hne.out i hik
          · obtain rfl : i = k := by omega
            exact hk0
        case measure => simp [intOf]; omega
    · go_wp2
      exact bodyPost_ret (v := .tuple #[.agg #[.string ⟨#[]⟩, .slice none 0 0, .pointer none], .bool false]) (by simp [results, Try.results8, go_sem, g0, g1, g2]) rfl
          ⟨.inr ⟨fun i hi => Hne.out i (by omega), rfl⟩, (((HB.out).setCell (Nat.le_refl _) _).setCell (Nat.le_refl _) _).setCell (Nat.le_refl _) _⟩
end Go.Proofs.Qxb6631315a
