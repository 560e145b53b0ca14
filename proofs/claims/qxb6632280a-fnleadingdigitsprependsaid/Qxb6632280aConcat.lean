import Derived.Test.Qxb6632280aLead
namespace Go.Proofs.Qxb6632280a
open Go.RowKit
set_option linter.unusedVariables false

def IsB (e : Ending) : Prop := ∃ t : Bool, e = .returned (.bool t)
theorem zz5 (a b : ByteArray) (w : World) (ha : a.size ≤ 9223372036854775807) (hb : b.size ≤ 9223372036854775807) : Calls Try.prog 5 #[.string a, .string b] w fun e w' => IsB e ∧ w' = w := by
  go_enter Try.func5, Try.ntmps5
  go_wp2
  all_goals (go_ret; exact ⟨⟨_, rfl⟩, rfl⟩)
theorem zz8 (c : Int) (b : ByteArray) (w : World) (hb : b.size ≤ 9223372036854775807) : Calls Try.prog 8 #[.int .u8 c, .string b] w fun e w' => IsB e ∧ w' = w := by
  go_enter Try.func8, Try.ntmps8
  go_wp2
  all_goals (go_ret; exact ⟨⟨_, rfl⟩, rfl⟩)
theorem dig_any (c : Int) (w : World) : Calls Try.prog 7 #[.int .u8 c] w fun e w' => e = .returned (.bool (decide (48 ≤ c) && decide (c ≤ 57))) ∧ w' = w := by
  rcases (show c < 48 ∨ 57 < c ∨ (48 ≤ c ∧ c ≤ 57) by omega) with h | h | ⟨h, h'⟩
  · have e : (decide (48 ≤ c) && decide (c ≤ 57)) = false := by simp; omega
    rw [e]
    clear e
    go_enter Try.func7, Try.ntmps7
    go_wp2
    go_ret
    exact ⟨rfl, rfl⟩
  · have e : (decide (48 ≤ c) && decide (c ≤ 57)) = false := by simp; omega
    rw [e]
    clear e
    have h2 : 48 ≤ c := by omega
    have h3 : decide (c ≤ 57) = false := decide_eq_false (by omega)
    go_enter Try.func7, Try.ntmps7
    go_wp2
    go_ret
    exact ⟨rfl, rfl⟩
  · have e : (decide (48 ≤ c) && decide (c ≤ 57)) = true := by simp; omega
    rw [e]
    clear e
    go_enter Try.func7, Try.ntmps7
    go_wp2
    go_ret
    exact ⟨rfl, rfl⟩

theorem concat_out (a b : ByteArray) (w : World) (ha : a.size ≤ 9223372036854775807) (hb : b.size ≤ 9223372036854775807) (h : 1048576 < a.size ∨ (a.size ≤ 1048576 ∧ 1048576 < a.size + b.size)) :
    Calls Try.prog 3 #[.string a, .string b] w fun e w' => e = .returned (.bool true) ∧ w' = w := by
  rcases h with h | ⟨h, h'⟩
  all_goals
    go_enter Try.func3, Try.ntmps3
    go_wp2_with fail
    refine (zz5 _ _ _ ha hb).mono ?_
    rintro e w1 ⟨⟨t, rfl⟩, hw1⟩
    have hw1' := hw1.symm
    subst hw1'
    go_wp2
    all_goals go_ret
    all_goals exact ⟨rfl, rfl⟩

theorem concat_in (a b : ByteArray) (w : World) (h : a.size + b.size ≤ 1048576) :
    Calls Try.prog 3 #[.string a, .string b] w fun e w' => e = .returned (.bool true) ∧ w' = w := by
  have d1 : decide (1048576 < (a.size : Int)) = false := decide_eq_false (by omega)
  have d2 : decide (1048576 - (a.size : Int) < (b.size : Int)) = false := decide_eq_false (by omega)
  go_enter Try.func3, Try.ntmps3
  go_wp2_with fail
  refine (zz5 _ _ _ (by omega) (by omega)).mono ?_
  rintro e w1 ⟨⟨t, rfl⟩, hw1⟩
  have hw1' := hw1.symm
  subst hw1'
  cases t
  · go_wp2
    go_ret
    exact ⟨rfl, rfl⟩
  clear hw1
  go_wp2_with fail
  obtain ⟨s, hs⟩ : ∃ s, a ++ b = s := ⟨_, rfl⟩
  have hl : s.data.toList = a.data.toList ++ b.data.toList := by rw [← hs]; simp
  have hsz : s.size = a.size + b.size := by rw [← hs]; simp
  have hr := ld_append a.data.toList b.data.toList
  rw [← hl] at hr
  have ea : a.data.toList.length = a.size := by simp
  rw [ea] at hr
  have l1 := ld_le s.data.toList
  have l2 := ld_le a.data.toList
  have l3 := ld_le b.data.toList
  rw [show s.data.toList.length = s.size by simp] at l1
  rw [ea] at l2
  rw [show b.data.toList.length = b.size by simp] at l3
  have Hdig : Hid (∀ i, i < ld s.data.toList → digB (s.data.toList.getD i 0) = true) := hid (ld_dig _)
  have Hstop : Hid (ld s.data.toList < s.size → digB (s.data.toList.getD (ld s.data.toList) 0) = false) := hid fun h => ld_stop _ (by simpa using h)
  have HG := hid (getD_byte s)
  rw [hs]
  have hs2 : s.size ≤ 1048576 := by omega
  have Hr := hid hr
  clear hs hl ea hr
  refine (lead_any s _ (by omega)).mono ?_
  rintro e w1 ⟨rfl, hw1⟩
  have hw1' := hw1.symm
  subst hw1'
  clear hw1
  go_wp2_with fail
  refine (lead_any a _ (by omega)).mono ?_
  rintro e w1 ⟨rfl, hw1⟩
  have hw1' := hw1.symm
  subst hw1'
  clear hw1
  go_wp2_with fail
  refine (lead_any b _ (by omega)).mono ?_
  rintro e w1 ⟨rfl, hw1⟩
  have hw1' := hw1.symm
  subst hw1'
  clear hw1
  generalize ld s.data.toList = r at *
  generalize ld a.data.toList = ra at *
  generalize ld b.data.toList = rb at *
  have hr0 : decide ((r : Int) < 0) = false := decide_eq_false (by omega)
  have hr1 : decide ((s.size : Int) < (r : Int)) = false := decide_eq_false (by omega)
  have hsz' := hid hsz
  clear hsz
  by_cases hra : ra = a.size
  · have hrr := Hr.out
    rw [if_pos hra] at hrr
    subst hra
    subst hrr
    clear Hr
    go_wp2_with fail
    go_loop [10] (fun i => ∃ k : Nat, k ≤ a.size + rb ∧ i = .int .i64 k) (fun i => a.size + rb - (intOf i).toNat)
    case atStart => exact ⟨0, Nat.zero_le _, rfl⟩
    case round =>
      obtain ⟨k, hk, rfl⟩ := hrel
      by_cases hlt : k < a.size + rb
      · have hks : k < s.size := by omega
        have hlt' : (k : Int) < (a.size : Int) + (rb : Int) := by omega
        have hd := Hdig.out k hlt
        rw [HG.out k hks] at hd
        simp only [digB, Bool.and_eq_true, decide_eq_true_eq] at hd
        obtain ⟨hd1, hd2⟩ := hd
        go_wp2_with fail
        refine (dig_any _ _).mono ?_
        rintro e w1 ⟨rfl, hw1⟩
        have hw1' := hw1.symm
        subst hw1'
        clear hw1
        go_wp2
        go_round
        case rel => exact ⟨k + 1, by omega, by go_num⟩
        case measure => simp [intOf]; omega
      · obtain rfl : k = a.size + rb := by omega
        clear hlt hk
        by_cases hend : a.size + rb < s.size
        · have hd := Hstop.out hend
          rw [HG.out _ hend] at hd
          have hend' : (a.size : Int) + (rb : Int) < (s.size : Int) := by omega
          go_wp2_with fail
          refine (dig_any _ _).mono ?_
          rintro e w1 ⟨rfl, hw1⟩
          have hw1' := hw1.symm
          subst hw1'
          clear hw1
          have hd' : (decide (48 ≤ ((s[a.size + rb]'hend).toNat : Int)) && decide (((s[a.size + rb]'hend).toNat : Int) ≤ 57)) = false := hd
          rw [hd']
          clear hd hd'
          go_wp2
          go_ret
          exact ⟨rfl, rfl⟩
        · have hend' : decide ((a.size : Int) + (rb : Int) < (s.size : Int)) = false := decide_eq_false (by omega)
          go_wp2
          go_ret
          exact ⟨rfl, rfl⟩
  · have hrr := Hr.out
    rw [if_neg hra] at hrr
    subst hrr
    clear Hr
    have hrb : ((r : Int) == (a.size : Int)) = false := beq_eq_false_iff_ne.2 (by omega)
    have hr2 : decide (s.size < r) = false := decide_eq_false (by omega)
    have hlt2 : (r : Int) < (a.size : Int) := by omega
    clear hra
    go_wp2_with fail
    go_loop [10] (fun i => ∃ k : Nat, k ≤ r ∧ i = .int .i64 k) (fun i => r - (intOf i).toNat)
    case atStart => exact ⟨0, Nat.zero_le _, rfl⟩
    case round =>
      obtain ⟨k, hk, rfl⟩ := hrel
      by_cases hlt : k < r
      · have hks : k < s.size := by omega
        have hlt' : (k : Int) < (r : Int) := by omega
        have hd := Hdig.out k hlt
        rw [HG.out k hks] at hd
        simp only [digB, Bool.and_eq_true, decide_eq_true_eq] at hd
        obtain ⟨hd1, hd2⟩ := hd
        go_wp2_with fail
        refine (dig_any _ _).mono ?_
        rintro e w1 ⟨rfl, hw1⟩
        have hw1' := hw1.symm
        subst hw1'
        clear hw1
        go_wp2
        go_round
        case rel => exact ⟨k + 1, by omega, by go_num⟩
        case measure => simp [intOf]; omega
      · obtain rfl : r = k := by omega
        clear hlt hk
        by_cases hend : r < s.size
        · have hd := Hstop.out hend
          rw [HG.out _ hend] at hd
          have hend' : (r : Int) < (s.size : Int) := by omega
          go_wp2_with fail
          refine (dig_any _ _).mono ?_
          rintro e w1 ⟨rfl, hw1⟩
          have hw1' := hw1.symm
          subst hw1'
          clear hw1
          have hd' : (decide (48 ≤ ((s[r]'hend).toNat : Int)) && decide (((s[r]'hend).toNat : Int) ≤ 57)) = false := hd
          rw [hd']
          clear hd hd'
          go_wp2
          go_ret
          exact ⟨rfl, rfl⟩
        · have hend' : decide ((r : Int) < (s.size : Int)) = false := decide_eq_false (by omega)
          go_wp2
          go_ret
          exact ⟨rfl, rfl⟩

theorem concat_any (a b : ByteArray) (w : World) (ha : a.size ≤ 9223372036854775807) (hb : b.size ≤ 9223372036854775807) :
    Calls Try.prog 3 #[.string a, .string b] w fun e w' => e = .returned (.bool true) ∧ w' = w := by
  by_cases h : a.size + b.size ≤ 1048576
  · exact concat_in a b w h
  · exact concat_out a b w ha hb (by omega)
end Go.Proofs.Qxb6632280a
