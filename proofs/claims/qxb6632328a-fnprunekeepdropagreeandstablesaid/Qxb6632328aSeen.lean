import Derived.Test.Qxb6632328aBase
namespace Go.Proofs.Qxb6632328a
open Go.RowKit
set_option linter.unusedVariables false
set_option linter.unusedSimpArgs false

theorem nan24 (w : World) (s : Int) : Calls Try.prog 24 #[.int .u64 s] w fun e w' => e = .returned (.bool false) ∧ w' = w := by
  go_enter Try.func24, Try.ntmps24
  go_wp2
  go_ret
  exact ⟨by simp, rfl⟩
theorem nan25 (w : World) (s : Int) : Calls Try.prog 25 #[.int .u64 s] w fun e w' => e = .returned (.bool false) ∧ w' = w := by
  go_enter Try.func25, Try.ntmps25
  go_wp2
  go_ret
  exact ⟨by simp, rfl⟩
theorem less_any (w : World) (s t : Int) : Calls Try.prog 23 #[.int .u64 s, .int .u64 t] w fun e w' => e = .returned (.bool (decide (s < t))) ∧ w' = w := by
  go_enter Try.func23, Try.ntmps23
  go_wp2_with fail
  refine (nan25 _ _).mono ?_
  rintro e w1 ⟨rfl, hw1⟩; have hw1' := hw1.symm; subst hw1'
  go_wp2
  go_ret
  exact ⟨rfl, rfl⟩

/-- Where the search ends: at the first open stamp that is not below t. -/
def BsOut (n : Nat) (U : Nat → Nat) (t : Nat) (e : Ending) : Prop := ∃ (r : Nat) (x : Bool), e = .returned (.tuple #[.int .i64 (r : Int), .bool x]) ∧ r ≤ n ∧ (∀ i, i < r → U i < t) ∧ ∀ i, r ≤ i → i < n → t ≤ U i
theorem bs_zero (w : World) (a : Option Addr) (c : Nat) (U : Nat → Nat) (t : Nat) :
    Calls Try.prog 22 #[.slice a 0 c, .int .u64 (t : Int)] w fun e w' => BsOut 0 U t e ∧ w' = w := by
  go_enter Try.func22, Try.ntmps22
  go_wp2
  refine wp_loop_rounds 1 ?_
  rw [rounds_succ]
  go_wp2
  go_ret2
  exact ⟨⟨0, _, rfl, Nat.le_refl _, fun i hi => by omega, fun i _ hi => by omega⟩, rfl⟩
theorem bs_some (w : World) (b o n c : Nat) (U : Nat → Nat) (t : Nat) (hn : n ≤ 131072) (h : RowU w b o n U) (ha : ∀ j i, i ≤ j → j < n → U i ≤ U j) :
    Calls Try.prog 22 #[.slice (some ⟨b, o, none⟩) n c, .int .u64 (t : Int)] w fun e w' => BsOut n U t e ∧ w' = w := by
  have HV := hid h
  have HA := hid ha
  clear h ha
  go_enter Try.func22, Try.ntmps22
  go_wp2
  go_loop [7, 8] (fun x y => ∃ lo hi : Nat, x = .int .i64 lo ∧ y = .int .i64 hi ∧ lo ≤ hi ∧ hi ≤ n ∧ (∀ i, i < lo → U i < t) ∧ ∀ i, hi ≤ i → i < n → t ≤ U i) (fun x y => (intOf y).toNat - (intOf x).toNat)
  case atStart => exact ⟨0, n, rfl, rfl, Nat.zero_le _, Nat.le_refl _, fun i hi => by omega, fun i h1 h2 => by omega⟩
  case round =>
    obtain ⟨lo, hi, rfl, rfl, hlh, hhn, hL, hR⟩ := hrel
    have HL := hid hL
    have HR := hid hR
    clear hL hR
    by_cases hlt : lo < hi
    · obtain ⟨mid, em, hm1, hm2⟩ : ∃ mid : Nat, ((lo : Int) + (hi : Int)) / 2 = (mid : Int) ∧ lo ≤ mid ∧ mid < hi := ⟨(lo + hi) / 2, by omega, by omega, by omega⟩
      have f := HV.out mid (by omega)
      generalize hs : U mid = s at f
      have hm3 : (mid : Int) < (n : Int) := by omega
      go_wp2_with fail
      refine (less_any _ _ _).mono ?_
      rintro e w1 ⟨rfl, hw1⟩; have hw1' := hw1.symm; subst hw1'
      by_cases hst : s < t
      · have hst' : (s : Int) < (t : Int) := by omega
        have HS : Hid (U mid < t) := hid (by omega)
        clear hs
        go_wp2
        refine ⟨⟨mid + 1, hi, by go_num, rfl, by omega, hhn, fun i hi' => Nat.lt_of_le_of_lt (HA.out mid i (by omega) (by omega)) HS.out, HR.out⟩, ?_⟩
        simp [intOf]; omega
      · have hst' : (t : Int) ≤ (s : Int) := by omega
        have HS : Hid (t ≤ U mid) := hid (by omega)
        clear hs
        go_wp2
        refine ⟨⟨lo, mid, rfl, rfl, hm1, by omega, HL.out, fun i h1 h2 => Nat.le_trans HS.out (HA.out i mid h1 h2)⟩, ?_⟩
        simp [intOf]; omega
    · obtain rfl : hi = lo := by omega
      have H0 : Hid (∀ x : Bool, BsOut n U t (.returned (.tuple #[.int .i64 (hi : Int), .bool x]))) := hid fun x => ⟨hi, x, rfl, hhn, HL.out, HR.out⟩
      by_cases hlt : hi < n
      · have f := HV.out hi hlt
        have hlt' : (hi : Int) < (n : Int) := by omega
        clear HL HR
        generalize U hi = s at f
        by_cases heq : s = t
        · subst heq
          go_wp2
          go_ret2
          exact ⟨H0.out _, rfl⟩
        · have hne : ((s : Int) == (t : Int)) = false := by simp; omega
          go_wp2_with fail
          refine (nan24 _ _).mono ?_
          rintro e w1 ⟨rfl, hw1⟩; have hw1' := hw1.symm; subst hw1'
          go_wp2
          go_ret2
          exact ⟨H0.out _, rfl⟩
      · go_wp2
        go_ret2
        exact ⟨H0.out _, rfl⟩
/-- Is one of the open stamps in [s, t)? -/
def seenB (m : Nat) (U : Nat → Nat) (s t : Nat) : Bool := (List.range m).any fun i => decide (s ≤ U i) && decide (U i < t)
theorem seenB_iff (m : Nat) (U : Nat → Nat) (s t : Nat) : seenB m U s t = true ↔ ∃ i, i < m ∧ s ≤ U i ∧ U i < t := by
  simp [seenB]
theorem seen_zero (w : World) (a : Option Addr) (c : Nat) (U : Nat → Nat) (s t : Nat) :
    Calls Try.prog 19 #[.slice a 0 c, .int .u64 (s : Int), .int .u64 (t : Int)] w fun e w' => e = .returned (.bool (seenB 0 U s t)) ∧ w' = w := by
  go_enter Try.func19, Try.ntmps19
  go_wp2_with fail
  refine (bs_zero _ _ _ U _).mono ?_
  rintro e w1 ⟨⟨r, x, rfl, hr, _, _⟩, hw1⟩; have hw1' := hw1.symm; subst hw1'
  obtain rfl : r = 0 := by omega
  go_wp2
  go_ret
  exact ⟨rfl, rfl⟩
theorem seen_some (w : World) (b o n c : Nat) (U : Nat → Nat) (s t : Nat) (hn : n ≤ 131072) (h : RowU w b o n U) (ha : ∀ j i, i ≤ j → j < n → U i ≤ U j) :
    Calls Try.prog 19 #[.slice (some ⟨b, o, none⟩) n c, .int .u64 (s : Int), .int .u64 (t : Int)] w fun e w' => e = .returned (.bool (seenB n U s t)) ∧ w' = w := by
  have HV := hid h
  have HA := hid ha
  clear h ha
  go_enter Try.func19, Try.ntmps19
  go_wp2_with fail
  refine (bs_some _ _ _ _ _ U _ hn HV.out HA.out).mono ?_
  rintro e w1 ⟨⟨r, x, rfl, hr, hL, hR⟩, hw1⟩; have hw1' := hw1.symm; subst hw1'
  by_cases hlt : r < n
  · have f := HV.out r hlt
    have E : Hid (seenB n U s t = decide (U r < t)) := by
      refine hid (Bool.eq_iff_iff.2 ?_)
      rw [seenB_iff]
      simp only [decide_eq_true_eq]
      constructor
      · rintro ⟨i, hi, h1, h2⟩
        by_cases hir : i < r
        · have := hL i hir; omega
        · have := HA.out i r (by omega) hi; omega
      · intro h; exact ⟨r, hlt, hR r (Nat.le_refl _) hlt, by omega⟩
    have hlt' : (r : Int) < (n : Int) := by omega
    clear hL hR
    generalize U r = z at f E
    go_wp2
    go_ret
    exact ⟨by rw [E.out]; rfl, rfl⟩
  · have E : Hid (seenB n U s t = false) := by
      refine hid (Bool.eq_false_iff.2 ?_)
      rw [Ne, seenB_iff]
      rintro ⟨i, hi, h1, h2⟩
      have := hL i (by omega); omega
    clear hL hR
    have hlt' : (n : Int) ≤ (r : Int) := by omega
    go_wp2
    go_ret
    exact ⟨by rw [E.out]; rfl, rfl⟩
theorem asc_u {n : Nat} {U : Nat → Nat} (ha : ∀ i, i + 1 < n → U i ≤ U (i + 1)) : ∀ j i, i ≤ j → j < n → U i ≤ U j := by
  intro j
  induction j with
  | zero => intro i hi _; obtain rfl : i = 0 := by omega
            exact Nat.le_refl _
  | succ j ih =>
    intro i hi hj
    by_cases h : i = j + 1
    · subst h; exact Nat.le_refl _
    · exact Nat.le_trans (ih i (by omega) (by omega)) (ha j hj)
theorem seen_any (w : World) (a : Option Addr) (n c : Nat) (U : Nat → Nat) (s t : Nat) (hn : n ≤ 131072) (h : UsOk w a n U) (ha : ∀ i, i + 1 < n → U i ≤ U (i + 1)) :
    Calls Try.prog 19 #[.slice a n c, .int .u64 (s : Int), .int .u64 (t : Int)] w fun e w' => e = .returned (.bool (seenB n U s t)) ∧ w' = w := by
  obtain ⟨_, h, _⟩ := h
  rcases h with rfl | ⟨b, o, rfl, hr⟩
  · exact seen_zero w a c U s t
  · exact seen_some w b o n c U s t hn hr (asc_u ha)
end Go.Proofs.Qxb6632328a
