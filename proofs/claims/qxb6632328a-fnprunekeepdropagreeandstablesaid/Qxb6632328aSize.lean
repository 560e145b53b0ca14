import Derived.Test.Qxb6632328aBase
namespace Go.Proofs.Qxb6632328a
open Go.RowKit
set_option linter.unusedVariables false
set_option linter.unusedSimpArgs false
attribute [local go_sem] q22 q23 q31 q44 q44n

/-! ### The bounds laid by program: they answer -/
theorem zz5_zero (w : World) (a : Option Addr) (c : Nat) (a' : Option Addr) (m c' : Nat) (fl dl : Int) (hm : m ≤ 9223372036854775807) :
    Calls Try.prog 5 #[.slice a 0 c, .slice a' m c', .int .u64 fl, .int .i64 dl] w fun e w' => IsB e ∧ w' = w := by
  go_enter Try.func5, Try.ntmps5
  go_wp2
  refine wp_loop_rounds 1 ?_
  rw [rounds_succ]
  go_wp2
  all_goals (go_ret; exact ⟨⟨_, rfl⟩, rfl⟩)
theorem zz14_zero (w : World) (a : Option Addr) (c : Nat) (a' : Option Addr) (m c' : Nat) (fl : Int) (hm : m ≤ 9223372036854775807) :
    Calls Try.prog 14 #[.slice a 0 c, .slice a' m c', .int .u64 fl] w fun e w' => IsB e ∧ w' = w := by
  go_enter Try.func14, Try.ntmps14
  go_wp2
  refine wp_loop_rounds 1 ?_
  rw [rounds_succ]
  go_wp2
  all_goals (go_ret; exact ⟨⟨_, rfl⟩, rfl⟩)

theorem zz5_some (w : World) (b o n c : Nat) (V : Nat → Ver) (a' : Option Addr) (m c' : Nat) (fl dl : Int) (hm : m ≤ 9223372036854775807) (hn : n ≤ 9223372036854775807) (h : RowV w b o n V) (hl : ∀ i, i < n → (V i).l ≤ 9223372036854775807) :
    Calls Try.prog 5 #[.slice (some ⟨b, o, none⟩) n c, .slice a' m c', .int .u64 fl, .int .i64 dl] w fun e w' => IsB e ∧ w' = w := by
  by_cases hn1 : 1048576 < n
  · go_enter Try.func5, Try.ntmps5
    go_wp2
    all_goals (go_ret; exact ⟨⟨_, rfl⟩, rfl⟩)
  have hn2 : (n : Int) ≤ 1048576 := by omega
  have HL := hid hl
  clear hn1 hl
  go_enter Try.func5, Try.ntmps5
  go_wp2
  go_loop [9, 10] (fun tot i => ∃ k : Nat, k ≤ n ∧ i = .int .i64 k ∧ ∃ t : Int, 0 ≤ t ∧ t ≤ 1048576 ∧ tot = .int .i64 t) (fun _ i => n - (intOf i).toNat)
  case atStart => exact ⟨0, Nat.zero_le _, rfl, _, by omega, by omega, rfl⟩
  case round =>
    obtain ⟨k, hk, rfl, t, ht1, ht2, rfl⟩ := hrel
    by_cases hlt : k < n
    · obtain ⟨c0, _⟩ := h k hlt
      have hl := HL.out k hlt
      generalize (V k).a = va at c0
      generalize (V k).l = vl at c0 hl
      generalize (V k).c = vc at c0
      go_wp2
      all_goals try (go_ret; exact ⟨⟨_, rfl⟩, rfl⟩)
      go_round
      case rel => exact ⟨k + 1, by omega, by go_num, _, by omega, by omega, rfl⟩
      case measure => simp [intOf]; omega
    · go_wp2
      all_goals (go_ret; exact ⟨⟨_, rfl⟩, rfl⟩)
theorem zz14_some (w : World) (b o n c : Nat) (V : Nat → Ver) (a' : Option Addr) (m c' : Nat) (fl : Int) (hm : m ≤ 9223372036854775807) (hn : n ≤ 9223372036854775807) (h : RowV w b o n V) (hl : ∀ i, i < n → (V i).l ≤ 9223372036854775807) :
    Calls Try.prog 14 #[.slice (some ⟨b, o, none⟩) n c, .slice a' m c', .int .u64 fl] w fun e w' => IsB e ∧ w' = w := by
  by_cases hn1 : 1048576 < n
  · go_enter Try.func14, Try.ntmps14
    go_wp2
    all_goals (go_ret; exact ⟨⟨_, rfl⟩, rfl⟩)
  have hn2 : (n : Int) ≤ 1048576 := by omega
  have HL := hid hl
  clear hn1 hl
  go_enter Try.func14, Try.ntmps14
  go_wp2
  go_loop [7, 8] (fun tot i => ∃ k : Nat, k ≤ n ∧ i = .int .i64 k ∧ ∃ t : Int, 0 ≤ t ∧ t ≤ 1048576 ∧ tot = .int .i64 t) (fun _ i => n - (intOf i).toNat)
  case atStart => exact ⟨0, Nat.zero_le _, rfl, _, by omega, by omega, rfl⟩
  case round =>
    obtain ⟨k, hk, rfl, t, ht1, ht2, rfl⟩ := hrel
    by_cases hlt : k < n
    · obtain ⟨c0, _⟩ := h k hlt
      have hl := HL.out k hlt
      generalize (V k).a = va at c0
      generalize (V k).l = vl at c0 hl
      generalize (V k).c = vc at c0
      go_wp2
      all_goals try (go_ret; exact ⟨⟨_, rfl⟩, rfl⟩)
      go_round
      case rel => exact ⟨k + 1, by omega, by go_num, _, by omega, by omega, rfl⟩
      case measure => simp [intOf]; omega
    · go_wp2
      all_goals (go_ret; exact ⟨⟨_, rfl⟩, rfl⟩)

theorem zz5 (w : World) (a : Option Addr) (n c : Nat) (V : Nat → Ver) (a' : Option Addr) (m c' : Nat) (fl dl : Int) (hm : m ≤ 9223372036854775807) (h : VsOk w a n V) :
    Calls Try.prog 5 #[.slice a n c, .slice a' m c', .int .u64 fl, .int .i64 dl] w fun e w' => IsB e ∧ w' = w := by
  obtain ⟨hn, h, hb, _⟩ := h
  rcases h with rfl | ⟨b, o, rfl, hr⟩
  · exact zz5_zero w a c a' m c' fl dl hm
  · exact zz5_some w b o n c V a' m c' fl dl hm hn hr fun i hi => (hb i hi).1
theorem zz14 (w : World) (a : Option Addr) (n c : Nat) (V : Nat → Ver) (a' : Option Addr) (m c' : Nat) (fl : Int) (hm : m ≤ 9223372036854775807) (h : VsOk w a n V) :
    Calls Try.prog 14 #[.slice a n c, .slice a' m c', .int .u64 fl] w fun e w' => IsB e ∧ w' = w := by
  obtain ⟨hn, h, hb, _⟩ := h
  rcases h with rfl | ⟨b, o, rfl, hr⟩
  · exact zz14_zero w a c a' m c' fl hm
  · exact zz14_some w b o n c V a' m c' fl hm hn hr fun i hi => (hb i hi).1

/-! ### pruneSizeOK: where it says yes, both lengths are small -/
def SizeOut (n m : Nat) (e : Ending) : Prop := ∃ t : Bool, e = .returned (.bool t) ∧ (t = true → n ≤ 32768 ∧ m ≤ 131072)
theorem size_zero (w : World) (a : Option Addr) (c : Nat) (a' : Option Addr) (m c' : Nat) (hm : m ≤ 9223372036854775807) :
    Calls Try.prog 6 #[.slice a 0 c, .slice a' m c'] w fun e w' => SizeOut 0 m e ∧ w' = w := by
  by_cases hm1 : 131072 < m
  · go_enter Try.func6, Try.ntmps6
    go_wp2
    go_ret
    exact ⟨⟨_, rfl, fun h => by cases h⟩, rfl⟩
  have hm2 : (m : Int) ≤ 131072 := by omega
  go_enter Try.func6, Try.ntmps6
  go_wp2
  refine wp_loop_rounds 1 ?_
  rw [rounds_succ]
  go_wp2
  all_goals (go_ret; exact ⟨⟨_, rfl, fun _ => by omega⟩, rfl⟩)
theorem size_some (w : World) (b o n c : Nat) (V : Nat → Ver) (a' : Option Addr) (m c' : Nat) (hm : m ≤ 9223372036854775807) (hn : n ≤ 9223372036854775807) (h : RowV w b o n V) (hl : ∀ i, i < n → (V i).l ≤ 9223372036854775807) :
    Calls Try.prog 6 #[.slice (some ⟨b, o, none⟩) n c, .slice a' m c'] w fun e w' => SizeOut n m e ∧ w' = w := by
  by_cases hn1 : 32768 < n
  · go_enter Try.func6, Try.ntmps6
    go_wp2
    go_ret
    exact ⟨⟨_, rfl, fun h => by cases h⟩, rfl⟩
  have hn2 : (n : Int) ≤ 32768 := by omega
  by_cases hm1 : 131072 < m
  · go_enter Try.func6, Try.ntmps6
    go_wp2
    go_ret
    exact ⟨⟨_, rfl, fun h => by cases h⟩, rfl⟩
  have hm2 : (m : Int) ≤ 131072 := by omega
  have HL := hid hl
  clear hn1 hl hm1
  by_cases hs : (n : Int) * 32 + (m : Int) * 8 ≤ 1048576
  · go_enter Try.func6, Try.ntmps6
    go_wp2
    go_loop [5, 6] (fun tot i => ∃ k : Nat, k ≤ n ∧ i = .int .i64 k ∧ ∃ t : Int, tot = .int .i64 t) (fun _ i => n - (intOf i).toNat)
    case atStart => exact ⟨0, Nat.zero_le _, rfl, _, rfl⟩
    case round =>
      obtain ⟨k, hk, rfl, t, rfl⟩ := hrel
      by_cases hlt : k < n
      · obtain ⟨c0, _⟩ := h k hlt
        have hl := HL.out k hlt
        generalize (V k).a = va at c0
        generalize (V k).l = vl at c0 hl
        generalize (V k).c = vc at c0
        go_wp2
        all_goals try (go_ret; exact ⟨⟨_, rfl, fun h => by cases h⟩, rfl⟩)
        go_round
        case rel => exact ⟨k + 1, by omega, by go_num, _, rfl⟩
        case measure => simp [intOf]; omega
      · go_wp2
        go_ret
        exact ⟨⟨_, rfl, fun _ => by omega⟩, rfl⟩
  · go_enter Try.func6, Try.ntmps6
    go_wp2
    go_ret
    exact ⟨⟨_, rfl, fun h => by cases h⟩, rfl⟩
theorem size_any (w : World) (a : Option Addr) (n c : Nat) (V : Nat → Ver) (a' : Option Addr) (m c' : Nat) (hm : m ≤ 9223372036854775807) (h : VsOk w a n V) :
    Calls Try.prog 6 #[.slice a n c, .slice a' m c'] w fun e w' => SizeOut n m e ∧ w' = w := by
  obtain ⟨hn, h, hb, _⟩ := h
  rcases h with rfl | ⟨b, o, rfl, hr⟩
  · exact size_zero w a c a' m c' hm
  · exact size_some w b o n c V a' m c' hm hn hr fun i hi => (hb i hi).1
end Go.Proofs.Qxb6632328a
