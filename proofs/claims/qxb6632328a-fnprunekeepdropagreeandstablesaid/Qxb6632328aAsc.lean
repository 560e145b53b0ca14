import Derived.Test.Qxb6632328aBase
namespace Go.Proofs.Qxb6632328a
open Go.RowKit
set_option linter.unusedVariables false
set_option linter.unusedSimpArgs false
attribute [local go_sem] q22 q23 q31 q44 q44n

/-! ### Ascending or not -/
def ChainOut (n : Nat) (V : Nat → Ver) (e : Ending) : Prop := ∃ t : Bool, e = .returned (.bool t) ∧ (t = true → ∀ i, i + 1 < n → (V i).t < (V (i + 1)).t)
def OpenOut (m : Nat) (U : Nat → Nat) (e : Ending) : Prop := ∃ t : Bool, e = .returned (.bool t) ∧ (t = true → ∀ i, i + 1 < m → U i ≤ U (i + 1))

theorem chain_few (w : World) (a : Option Addr) (n c : Nat) (V : Nat → Ver) (hn : n ≤ 1) :
    Calls Try.prog 7 #[.slice a n c] w fun e w' => ChainOut n V e ∧ Below w.heap.size w w' := by
  go_enter Try.func7, Try.ntmps7
  go_wp2
  refine wp_loop_rounds 1 ?_
  rw [rounds_succ]
  go_wp2
  go_ret
  exact ⟨⟨_, rfl, fun _ i hi => by omega⟩, Below.refl _ _⟩
theorem chain_some (w : World) (b o n c : Nat) (V : Nat → Ver) (hn : n ≤ 9223372036854775807) (h : RowV w b o n V) (hn1 : 1 ≤ n) :
    Calls Try.prog 7 #[.slice (some ⟨b, o, none⟩) n c] w fun e w' => ChainOut n V e ∧ Below w.heap.size w w' := by
  have HV := hid h
  clear h
  go_enter Try.func7, Try.ntmps7
  go_wp2
  go_loopw [3] (fun i wr => ∃ k : Nat, 1 ≤ k ∧ k ≤ n ∧ i = .int .i64 k ∧ (∀ i, i + 1 < k → (V i).t < (V (i + 1)).t) ∧ Below w.heap.size w wr) (fun i _ => n - (intOf i).toNat)
  case atStart => exact ⟨1, Nat.le_refl _, hn1, rfl, fun i hi => by omega, Below.refl _ _⟩
  case round =>
    obtain ⟨k, hk1, hk, rfl, hasc, hb⟩ := hrel
    have Hb := hid hb
    have HA := hid hasc
    clear hb hasc
    by_cases hlt : k < n
    · obtain ⟨k, rfl⟩ : ∃ k', k = k' + 1 := ⟨k - 1, by omega⟩
      have f1 := below_cell Hb.out (HV.out k (by omega)).2
      have f2 := below_cell Hb.out (HV.out (k + 1) hlt).2
      have e1 : (((k + 1 : Nat) : Int) - 1) = ((k : Nat) : Int) := by omega
      have HT : Hid (∀ s t : Nat, s = (V k).t → t = (V (k + 1)).t → s < t → ∀ i, i + 1 < k + 1 + 1 → (V i).t < (V (i + 1)).t) := by
        refine hid fun s t hs ht hst i hi => ?_
        by_cases hik : i = k
        · subst hik; subst hs; subst ht; exact hst
        · exact HA.out i (by omega)
      generalize hs : (V k).t = s at f1
      generalize ht : (V (k + 1)).t = t at f2
      have HT2 := hid (HT.out s t hs.symm ht.symm)
      clear hs ht HT HA
      have hlt' : (k : Int) + 1 < (n : Int) := by omega
      by_cases hst : s < t
      · have hst' : (s : Int) < (t : Int) := by omega
        go_wp2
        go_quiet (fail)
        go_wp2
        go_roundw
        case rel => exact ⟨k + 1 + 1, by omega, by omega, by go_num, HT2.out hst, below_drewN Hb.out _⟩
        case measure => simp [intOf]; omega
      · have hst' : (t : Int) ≤ (s : Int) := by omega
        go_wp2
        go_quiet (fail)
        go_wp2
        go_ret
        exact ⟨⟨_, rfl, fun h => by cases h⟩, below_drewN Hb.out _⟩
    · obtain rfl : n = k := by omega
      go_wp2
      go_ret
      exact ⟨⟨_, rfl, fun _ => HA.out⟩, Hb.out⟩
theorem chain_any (w : World) (a : Option Addr) (n c : Nat) (V : Nat → Ver) (h : VsOk w a n V) :
    Calls Try.prog 7 #[.slice a n c] w fun e w' => ChainOut n V e ∧ Below w.heap.size w w' := by
  obtain ⟨hn, h, hb, _⟩ := h
  by_cases h1 : n ≤ 1
  · exact chain_few w a n c V h1
  rcases h with rfl | ⟨b, o, rfl, hr⟩
  · exact absurd (by omega) h1
  · exact chain_some w b o n c V hn hr (by omega)

theorem open_few (w : World) (a : Option Addr) (n c : Nat) (U : Nat → Nat) (hn : n ≤ 1) :
    Calls Try.prog 8 #[.slice a n c] w fun e w' => OpenOut n U e ∧ Below w.heap.size w w' := by
  go_enter Try.func8, Try.ntmps8
  go_wp2
  refine wp_loop_rounds 1 ?_
  rw [rounds_succ]
  go_wp2
  go_ret
  exact ⟨⟨_, rfl, fun _ i hi => by omega⟩, Below.refl _ _⟩
theorem open_some (w : World) (b o n c : Nat) (U : Nat → Nat) (hn : n ≤ 9223372036854775807) (h : RowU w b o n U) (hn1 : 1 ≤ n) :
    Calls Try.prog 8 #[.slice (some ⟨b, o, none⟩) n c] w fun e w' => OpenOut n U e ∧ Below w.heap.size w w' := by
  have HV := hid h
  clear h
  go_enter Try.func8, Try.ntmps8
  go_wp2
  go_loopw [3] (fun i wr => ∃ k : Nat, 1 ≤ k ∧ k ≤ n ∧ i = .int .i64 k ∧ (∀ i, i + 1 < k → U i ≤ U (i + 1)) ∧ Below w.heap.size w wr) (fun i _ => n - (intOf i).toNat)
  case atStart => exact ⟨1, Nat.le_refl _, hn1, rfl, fun i hi => by omega, Below.refl _ _⟩
  case round =>
    obtain ⟨k, hk1, hk, rfl, hasc, hb⟩ := hrel
    have Hb := hid hb
    have HA := hid hasc
    clear hb hasc
    by_cases hlt : k < n
    · obtain ⟨k, rfl⟩ : ∃ k', k = k' + 1 := ⟨k - 1, by omega⟩
      have f1 := below_cell Hb.out (HV.out k (by omega))
      have f2 := below_cell Hb.out (HV.out (k + 1) hlt)
      have e1 : (((k + 1 : Nat) : Int) - 1) = ((k : Nat) : Int) := by omega
      have HT : Hid (∀ s t : Nat, s = U k → t = U (k + 1) → s ≤ t → ∀ i, i + 1 < k + 1 + 1 → U i ≤ U (i + 1)) := by
        refine hid fun s t hs ht hst i hi => ?_
        by_cases hik : i = k
        · subst hik; subst hs; subst ht; exact hst
        · exact HA.out i (by omega)
      generalize hs : U k = s at f1
      generalize ht : U (k + 1) = t at f2
      have HT2 := hid (HT.out s t hs.symm ht.symm)
      clear hs ht HT HA
      have hlt' : (k : Int) + 1 < (n : Int) := by omega
      by_cases hst : s ≤ t
      · have hst' : (s : Int) ≤ (t : Int) := by omega
        go_wp2
        go_quiet (fail)
        go_wp2
        go_roundw
        case rel => exact ⟨k + 1 + 1, by omega, by omega, by go_num, HT2.out hst, below_drewN Hb.out _⟩
        case measure => simp [intOf]; omega
      · have hst' : (t : Int) < (s : Int) := by omega
        go_wp2
        go_quiet (fail)
        go_wp2
        go_ret
        exact ⟨⟨_, rfl, fun h => by cases h⟩, below_drewN Hb.out _⟩
    · obtain rfl : n = k := by omega
      go_wp2
      go_ret
      exact ⟨⟨_, rfl, fun _ => HA.out⟩, Hb.out⟩
theorem open_any (w : World) (a : Option Addr) (n c : Nat) (U : Nat → Nat) (h : UsOk w a n U) :
    Calls Try.prog 8 #[.slice a n c] w fun e w' => OpenOut n U e ∧ Below w.heap.size w w' := by
  obtain ⟨hn, h, _⟩ := h
  by_cases h1 : n ≤ 1
  · exact open_few w a n c U h1
  rcases h with rfl | ⟨b, o, rfl, hr⟩
  · exact absurd (by omega) h1
  · exact open_some w b o n c U hn hr (by omega)

/-! ### Where a read finds a version -/
def ReadOut (n : Nat) (V : Nat → Ver) (t : Nat) (e : Ending) : Prop := ∃ r : Nat, e = .returned (.int .i64 ((r : Int) - 1)) ∧ r ≤ n ∧ ∀ i, i < n → (i < r ↔ (V i).t ≤ t)
theorem read_zero (w : World) (a : Option Addr) (c : Nat) (V : Nat → Ver) (t : Nat) :
    Calls Try.prog 9 #[.slice a 0 c, .int .u64 (t : Int)] w fun e w' => ReadOut 0 V t e ∧ w' = w := by
  go_enter Try.func9, Try.ntmps9
  go_wp2
  refine wp_loop_rounds 1 ?_
  rw [rounds_succ]
  go_wp2
  go_ret
  exact ⟨⟨0, rfl, Nat.le_refl _, fun i hi => by omega⟩, rfl⟩
theorem asc_le {n : Nat} {V : Nat → Ver} (ha : ∀ i, i + 1 < n → (V i).t < (V (i + 1)).t) : ∀ j i, i ≤ j → j < n → (V i).t ≤ (V j).t := by
  intro j
  induction j with
  | zero => intro i hi _; obtain rfl : i = 0 := by omega
            exact Nat.le_refl _
  | succ j ih =>
    intro i hi hj
    by_cases h : i = j + 1
    · subst h; exact Nat.le_refl _
    · exact Nat.le_trans (ih i (by omega) (by omega)) (Nat.le_of_lt (ha j hj))
theorem read_some (w : World) (b o n c : Nat) (V : Nat → Ver) (t : Nat) (hn : n ≤ 9223372036854775807) (h : RowV w b o n V) (ha : ∀ i, i + 1 < n → (V i).t < (V (i + 1)).t) :
    Calls Try.prog 9 #[.slice (some ⟨b, o, none⟩) n c, .int .u64 (t : Int)] w fun e w' => ReadOut n V t e ∧ w' = w := by
  have HV := hid h
  have HA := hid (asc_le ha)
  clear h ha
  go_enter Try.func9, Try.ntmps9
  go_wp2
  go_loop [5, 6] (fun x y => ∃ lo hi : Nat, x = .int .i64 lo ∧ y = .int .i64 hi ∧ lo ≤ hi ∧ hi ≤ n ∧ (∀ i, i < lo → (V i).t ≤ t) ∧ ∀ i, hi ≤ i → i < n → t < (V i).t) (fun x y => (intOf y).toNat - (intOf x).toNat)
  case atStart => exact ⟨0, n, rfl, rfl, Nat.zero_le _, Nat.le_refl _, fun i hi => by omega, fun i h1 h2 => by omega⟩
  case round =>
    obtain ⟨lo, hi, rfl, rfl, hlh, hhn, hL, hR⟩ := hrel
    have HL := hid hL
    have HR := hid hR
    clear hL hR
    by_cases hlt : lo < hi
    · have em : ∃ mid : Nat, (lo : Int) + ((hi : Int) - (lo : Int)).tdiv 2 = (mid : Int) ∧ lo ≤ mid ∧ mid < hi := by
        refine ⟨lo + (hi - lo) / 2, ?_, by omega, by omega⟩
        have : ((hi : Int) - (lo : Int)) = ((hi - lo : Nat) : Int) := by omega
        rw [this]
        rw [Int.tdiv_eq_ediv_of_nonneg (by omega)]
        omega
      obtain ⟨mid, em, hm1, hm2⟩ := em
      have f := (HV.out mid (by omega)).2
      generalize hs : (V mid).t = s at f
      have hm3 : (mid : Int) < (n : Int) := by omega
      by_cases hst : s ≤ t
      · have hst' : (s : Int) ≤ (t : Int) := by omega
        have HS : Hid ((V mid).t ≤ t) := hid (by omega)
        clear hs
        go_wp2
        refine ⟨⟨mid + 1, hi, by go_num, rfl, by omega, hhn, fun i hi' => Nat.le_trans (HA.out mid i (by omega) (by omega)) HS.out, HR.out⟩, ?_⟩
        simp [intOf]; omega
      · have hst' : (t : Int) < (s : Int) := by omega
        have HS : Hid (t < (V mid).t) := hid (by omega)
        clear hs
        go_wp2
        refine ⟨⟨lo, mid, rfl, rfl, hm1, by omega, HL.out, fun i h1 h2 => Nat.lt_of_lt_of_le HS.out (HA.out i mid h1 h2)⟩, ?_⟩
        simp [intOf]; omega
    · obtain rfl : hi = lo := by omega
      go_wp2
      go_ret
      exact ⟨⟨hi, rfl, hhn, fun i hi' => ⟨HL.out i, fun h => by
        by_cases hc : i < hi
        · exact hc
        · have := HR.out i (by omega) hi'
          omega⟩⟩, rfl⟩
theorem read_any (w : World) (a : Option Addr) (n c : Nat) (V : Nat → Ver) (t : Nat) (h : VsOk w a n V) (ha : ∀ i, i + 1 < n → (V i).t < (V (i + 1)).t) :
    Calls Try.prog 9 #[.slice a n c, .int .u64 (t : Int)] w fun e w' => ReadOut n V t e ∧ w' = w := by
  obtain ⟨hn, h, _⟩ := h
  rcases h with rfl | ⟨b, o, rfl, hr⟩
  · exact read_zero w a c V t
  · exact read_some w b o n c V t hn hr ha
end Go.Proofs.Qxb6632328a
