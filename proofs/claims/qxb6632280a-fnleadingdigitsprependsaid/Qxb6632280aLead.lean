import Derived.Test.Qxb6632280aPlain
namespace Go.Proofs.Qxb6632280a
open Go.RowKit
set_option linter.unusedVariables false
theorem lead_any (s : ByteArray) (w : World) (hs : s.size ≤ 9223372036854775807) :
    Calls Try.prog 6 #[.string s] w fun e w' => e = .returned (.int .i64 (ld s.data.toList)) ∧ w' = w := by
  have HL : Hid (∀ k, k ≤ s.size → (∀ i, i < k → digB (s.data.toList.getD i 0) = true) → (k < s.size → digB (s.data.toList.getD k 0) = false) → ld s.data.toList = k) := hid fun k h1 h2 h3 => ld_of _ k (by simpa using h1) h2 (by simpa using h3)
  have HG := hid (getD_byte s)
  go_enter Try.func6, Try.ntmps6
  go_wp2
  go_loop [3] (fun i => ∃ k : Nat, k ≤ s.size ∧ i = .int .i64 k ∧ ∀ j, j < k → digB (s.data.toList.getD j 0) = true) (fun i => s.size - (intOf i).toNat)
  case atStart => exact ⟨0, Nat.zero_le _, rfl, fun j hj => absurd hj (Nat.not_lt_zero j)⟩
  case round =>
    obtain ⟨k, hk, rfl, hd⟩ := hrel
    have Hd := hid hd
    clear hd
    by_cases hlt : k < s.size
    · have Hk := hid (HG.out k hlt)
      rcases (show (s[k].toNat : Int) < 48 ∨ 57 < (s[k].toNat : Int) ∨ (48 ≤ (s[k].toNat : Int) ∧ (s[k].toNat : Int) ≤ 57) by omega) with h | h | ⟨h, h'⟩
      · have HE := hid (HL.out k hk Hd.out (fun _ => by rw [Hk.out]; exact dig_low h))
        go_wp2
        go_ret
        exact ⟨by rw [HE.out]; rfl, rfl⟩
      · have HE := hid (HL.out k hk Hd.out (fun _ => by rw [Hk.out]; exact dig_high h))
        go_wp2
        go_ret
        exact ⟨by rw [HE.out]; rfl, rfl⟩
      · have HD := hid (dig_true h h')
        go_wp2
        go_round
        case rel =>
          refine ⟨k + 1, by omega, by go_num, fun j hj => ?_⟩
          by_cases hjk : j < k
          · exact Hd.out j hjk
          · obtain rfl : j = k := by omega
            rw [Hk.out]; exact HD.out
        case measure => simp [intOf]; omega
    · obtain rfl : k = s.size := by omega
      have HE := hid (HL.out s.size (Nat.le_refl _) Hd.out (fun h => absurd h (Nat.lt_irrefl _)))
      go_wp2
      go_ret
      exact ⟨by rw [HE.out]; rfl, rfl⟩
end Go.Proofs.Qxb6632280a
