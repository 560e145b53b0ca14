import Derived.Test.Qxb6631315aBase
namespace Go.Proofs.Qxb6631315a
open Go.RowKit
set_option linter.unusedSimpArgs false
set_option linter.unusedVariables false
attribute [local go_sem] q38 q39

theorem next_le {L : Nat → Nat} {k l : Nat} (hl : l ≤ 1048576) (h : L k = l) (hle : ∀ i, i < k → L i ≤ 1048576) : ∀ i, i < k + 1 → L i ≤ 1048576 := by
  intro i hi
  by_cases hik : i < k
  · exact hle i hik
  · obtain rfl : i = k := by omega
    omega

/-! ### lawBytes: what it answers is no matter; where it is not below nought, each client has at most 2^20 roles -/
theorem bytes_zero (w : World) (a : Option Addr) (c : Nat) (L : Nat → Nat) (st : Int) (hw1 : 0 ≤ st) (hw2 : st ≤ 1048576) :
    Calls Try.prog 6 #[.slice a 0 c, .int .i64 st, .int .i64 1048576] w fun e w' => (∃ t : Int, e = .returned (.int .i64 t) ∧ t ≤ 1048576 ∧ (0 ≤ t → ∀ i, i < 0 → L i ≤ 1048576)) ∧ w' = w := by
  go_enter Try.func6, Try.ntmps6
  go_wp2
  refine wp_loop_rounds 1 ?_
  rw [rounds_succ]
  go_wp2
  go_ret
  exact ⟨⟨st, rfl, hw2, fun _ i hi => absurd hi (Nat.not_lt_zero i)⟩, rfl⟩

set_option maxRecDepth 100000 in
set_option maxHeartbeats 2000000 in
theorem bytes_some (w : World) (b o n c : Nat) (ID : Nat → ByteArray) (A : Nat → Option Addr) (L C : Nat → Nat) (R : Nat → Option Addr) (st : Int) (hn : n ≤ 9223372036854775807) (hw1 : 0 ≤ st) (hw2 : st ≤ 1048576) (h0 : CellsOk w b o n ID A L C R) :
    Calls Try.prog 6 #[.slice (some ⟨b, o, none⟩) n c, .int .i64 st, .int .i64 1048576] w fun e w' => (∃ t : Int, e = .returned (.int .i64 t) ∧ t ≤ 1048576 ∧ (0 ≤ t → ∀ i, i < n → L i ≤ 1048576)) ∧ w' = w := by
  go_enter Try.func6, Try.ntmps6
  go_wp2
  go_loop [7, 8] (fun tot i => ∃ k : Nat, k ≤ n ∧ i = .int .i64 k ∧ ∃ t : Int, 0 ≤ t ∧ t ≤ 1048576 ∧ tot = .int .i64 t ∧ ∀ i, i < k → L i ≤ 1048576) (fun _ i => n - (intOf i).toNat)
  case atStart => exact ⟨0, Nat.zero_le _, rfl, st, hw1, hw2, rfl, fun i hi => absurd hi (Nat.not_lt_zero i)⟩
  case round =>
    obtain ⟨k, hk, rfl, t, ht1, ht2, rfl, hle⟩ := hrel
    have Hle := (show Hid _ from hle)
    clear hle
    by_cases hlt : k < n
    · obtain ⟨c0, c1, c2, hs, ⟨hl, hr⟩, hg⟩ := h0 k hlt
      have b1 := cell_lt c0
      generalize ID k = s at c0 hs
      generalize hLk : L k = l at c1 hl hr
      generalize A k = ra at c1 hr
      generalize R k = rp at c2 hg
      have HLk := (show Hid _ from hLk)
      clear hLk
      rcases hg with rfl | ⟨rb, ro, re, rr, rfl, r0, r1, r2⟩
      · rcases hr with rfl | ⟨sb, so, S, rfl, hc⟩
        · go_wp2
          all_goals try (go_ret; exact ⟨⟨-1, rfl, by decide, fun h => absurd h (by decide)⟩, rfl⟩)
          have hll : 0 ≤ 1048576 := by omega
          refine wp_loop_rounds 1 ?_
          rw [rounds_succ]
          go_wp2
          all_goals try (go_ret; exact ⟨⟨-1, rfl, by decide, fun h => absurd h (by decide)⟩, rfl⟩)
          go_round
          case rel => exact ⟨k + 1, by omega, by go_num, _, by omega, by omega, rfl, next_le hll HLk.out Hle.out⟩
          case measure => simp [intOf]; omega
        · have HC := (show Hid _ from hc)
          clear hc
          go_wp2
          all_goals try (go_ret; exact ⟨⟨-1, rfl, by decide, fun h => absurd h (by decide)⟩, rfl⟩)
          have hll : l ≤ 1048576 := by omega
          go_loop [7, 9] (fun tot j => ∃ q : Nat, q ≤ l ∧ j = .int .i64 q ∧ ∃ u : Int, 0 ≤ u ∧ u ≤ 1048576 ∧ tot = .int .i64 u) (fun _ j => l - (intOf j).toNat)
          case atStart => exact ⟨0, Nat.zero_le _, rfl, _, by omega, by omega, rfl⟩
          case round =>
            obtain ⟨q, hq, rfl, u, hu1, hu2, rfl⟩ := hrel
            by_cases hqt : q < l
            · obtain ⟨e0, e1⟩ := HC.out q hqt
              have b3 := cell_lt e0
              go_wp2
              all_goals try (go_ret; exact ⟨⟨-1, rfl, by decide, fun h => absurd h (by decide)⟩, rfl⟩)
              go_round
              case rel => exact ⟨q + 1, by omega, by go_num, _, by omega, by omega, rfl⟩
              case measure => simp [intOf]; omega
            · go_wp2
              all_goals try (go_ret; exact ⟨⟨-1, rfl, by decide, fun h => absurd h (by decide)⟩, rfl⟩)
              go_round
              case rel => exact ⟨k + 1, by omega, by go_num, _, by omega, by omega, rfl, next_le hll HLk.out Hle.out⟩
              case measure => simp [intOf]; omega
      · have b2 := cell_lt r0
        rcases hr with rfl | ⟨sb, so, S, rfl, hc⟩
        · go_wp2
          all_goals try (go_ret; exact ⟨⟨-1, rfl, by decide, fun h => absurd h (by decide)⟩, rfl⟩)
          have hll : 0 ≤ 1048576 := by omega
          refine wp_loop_rounds 1 ?_
          rw [rounds_succ]
          go_wp2
          all_goals try (go_ret; exact ⟨⟨-1, rfl, by decide, fun h => absurd h (by decide)⟩, rfl⟩)
          go_round
          case rel => exact ⟨k + 1, by omega, by go_num, _, by omega, by omega, rfl, next_le hll HLk.out Hle.out⟩
          case measure => simp [intOf]; omega
        · have HC := (show Hid _ from hc)
          clear hc
          go_wp2
          all_goals try (go_ret; exact ⟨⟨-1, rfl, by decide, fun h => absurd h (by decide)⟩, rfl⟩)
          have hll : l ≤ 1048576 := by omega
          go_loop [7, 9] (fun tot j => ∃ q : Nat, q ≤ l ∧ j = .int .i64 q ∧ ∃ u : Int, 0 ≤ u ∧ u ≤ 1048576 ∧ tot = .int .i64 u) (fun _ j => l - (intOf j).toNat)
          case atStart => exact ⟨0, Nat.zero_le _, rfl, _, by omega, by omega, rfl⟩
          case round =>
            obtain ⟨q, hq, rfl, u, hu1, hu2, rfl⟩ := hrel
            by_cases hqt : q < l
            · obtain ⟨e0, e1⟩ := HC.out q hqt
              have b3 := cell_lt e0
              go_wp2
              all_goals try (go_ret; exact ⟨⟨-1, rfl, by decide, fun h => absurd h (by decide)⟩, rfl⟩)
              go_round
              case rel => exact ⟨q + 1, by omega, by go_num, _, by omega, by omega, rfl⟩
              case measure => simp [intOf]; omega
            · go_wp2
              all_goals try (go_ret; exact ⟨⟨-1, rfl, by decide, fun h => absurd h (by decide)⟩, rfl⟩)
              go_round
              case rel => exact ⟨k + 1, by omega, by go_num, _, by omega, by omega, rfl, next_le hll HLk.out Hle.out⟩
              case measure => simp [intOf]; omega
    · go_wp2
      go_ret
      exact ⟨⟨t, rfl, ht2, fun _ i hi => Hle.out i (by omega)⟩, rfl⟩

theorem bytes_any (w : World) (a : Option Addr) (n c : Nat) (ID : Nat → ByteArray) (A : Nat → Option Addr) (L C : Nat → Nat) (R : Nat → Option Addr) (st : Int) (hw1 : 0 ≤ st) (hw2 : st ≤ 1048576) (h : ClientsOk w a n ID A L C R) :
    Calls Try.prog 6 #[.slice a n c, .int .i64 st, .int .i64 1048576] w fun e w' => (∃ t : Int, e = .returned (.int .i64 t) ∧ t ≤ 1048576 ∧ (0 ≤ t → ∀ i, i < n → L i ≤ 1048576)) ∧ w' = w := by
  obtain ⟨hn, h⟩ := h
  rcases h with rfl | ⟨b, o, rfl, h0⟩
  · exact bytes_zero w a c L st hw1 hw2
  · exact bytes_some w b o n c ID A L C R st hn hw1 hw2 h0
end Go.Proofs.Qxb6631315a
