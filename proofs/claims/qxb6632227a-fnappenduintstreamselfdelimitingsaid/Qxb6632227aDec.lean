import Derived.Test.Qxb6632227aPush
namespace Go.Proofs.Qxb6632227a
open Go.RowKit Plain
set_option linter.unusedSimpArgs false
set_option linter.unusedVariables false

theorem U_bound1 (v : Nat) (h : v < 18446744073709551616) (i : Nat) : U v (i + 1) < 9007199254740992 := by
  have := U_bound v h i
  show nxt (U v i) < _
  unfold nxt
  omega
theorem U_bound0 (v : Nat) (h : v < 18446744073709551616) : U v 0 ≤ 1152921504606846960 := by
  show (v - 240) / 16 ≤ _
  omega

theorem dec_small (w : World) (b o c v : Nat) (hv : v < 240) (hc : w.cell? ⟨b, o, none⟩ = some (.int .u8 (v : Int))) :
    Calls Try.prog 9 #[.slice (some ⟨b, o, none⟩) 1 c] w fun e w' => e = .returned (.tuple #[.int .u64 (v : Int), .bool true]) ∧ w' = w := by
  have hv' : (v : Int) < 240 := by omega
  go_enter Try.func9, Try.ntmps9
  go_wp2
  go_ret2
  exact ⟨rfl, rfl⟩

set_option maxRecDepth 100000 in
theorem dec_large (w : World) (b o c v : Nat) (hv : 240 ≤ v) (hv2 : v < 18446744073709551616) (hc : ∀ i, i < M v + 2 → w.cell? ⟨b, o + i, none⟩ = some (.int .u8 (byteAt v i))) :
    Calls Try.prog 9 #[.slice (some ⟨b, o, none⟩) (M v + 2) c] w fun e w' => e = .returned (.tuple #[.int .u64 (v : Int), .bool true]) ∧ w' = w := by
  have HM := hid (M_le v hv2)
  have HC := hid hc
  have hM : M v ≤ 8 := HM.out
  have HV := hid hv
  have HV2 := hid hv2
  have c0 : w.cell? ⟨b, o, none⟩ = some (.int .u8 (byteAt v 0)) := hc 0 (by omega)
  have cl : w.cell? ⟨b, o + (M v + 1), none⟩ = some (.int .u8 (byteAt v (M v + 1))) := hc (M v + 1) (by omega)
  rw [byteAt_last] at cl
  have hl := M_lt v hv2
  have hz : (240 : Int) ≤ byteAt v 0 := by rw [byteAt_zero v hv]; omega
  have hz2 : byteAt v 0 ≤ 255 := by rw [byteAt_zero v hv]; omega
  have Hz : Hid (bits BinOp.and IntKind.u8 (byteAt v 0) 15 = ((v % 16 : Nat) : Int)) := by
    refine hid ?_
    rw [byteAt_zero v hv, and15 _ (by omega)]
    omega
  have HU0 := hid (U_bound0 v hv2)
  have Hmid : Hid (∀ j, j < M v → (128 : Int) ≤ byteAt v (j + 1) ∧ byteAt v (j + 1) ≤ 255 ∧ bits BinOp.and IntKind.u8 (byteAt v (j + 1)) 127 = ((U v j % 128 : Nat) : Int)) := hid fun j hj => by
    rw [byteAt_mid v j hj, and127 _ (by omega)]
    omega
  have Hback : Hid (∀ j, j < M v → U v j % 128 + 128 + 128 * U v (j + 1) = U v j) := hid fun j hj => back (U v j) (M_ge v j hj)
  have Hb1 : Hid (∀ j, U v (j + 1) < 9007199254740992) := hid (U_bound1 v hv2)
  have Hv0 := hid (back0 v hv)
  obtain ⟨z, ez⟩ : ∃ z, byteAt v 0 = z := ⟨_, rfl⟩
  rw [ez] at c0 hz hz2 Hz
  obtain ⟨m, em⟩ : ∃ m, M v = m := ⟨_, rfl⟩
  have Em := hid em
  have Ez := hid ez
  rw [em] at cl hl hM Hmid Hback HC ⊢
  obtain ⟨ul, eul⟩ : ∃ ul, U v m = ul := ⟨_, rfl⟩
  have Eul := hid eul
  rw [eul] at cl hl
  have hl' : (ul : Int) < 128 := by omega
  have hd0 : ((m : Int) + 2 == 0) = false := beq_eq_false_iff_ne.2 (by omega)
  have hd1 : decide (z < 240) = false := decide_eq_false (by omega)
  have hd2 : decide ((m : Int) + 2 < 2) = false := decide_eq_false (by omega)
  have hd3 : decide ((128 : Int) ≤ (ul : Int)) = false := decide_eq_false (by omega)
  clear hc em ez eul hv hv2 HM
  go_enter Try.func9, Try.ntmps9
  go_wp2
  clear hd0 hd2 hd3
  go_loop [5] (fun i => ∃ j : Nat, j ≤ m ∧ i = .int .i64 ((j : Int) + 1)) (fun i => m + 1 - (intOf i).toNat)
  case atStart => exact ⟨0, Nat.zero_le _, rfl⟩
  case round =>
    obtain ⟨j, hj, rfl⟩ := hrel
    by_cases hlt : j < m
    · have cj := HC.out (j + 1) (by omega)
      obtain ⟨h1, h2, _⟩ := Hmid.out j hlt
      generalize byteAt v (j + 1) = x at cj h1 h2
      go_wp2
      go_round
      case rel => exact ⟨j + 1, by omega, by go_num⟩
      case measure => simp [intOf]; omega
    · obtain rfl : m = j := by omega
      clear hlt hj
      go_wp2
      go_loop [6, 7] (fun r i => ∃ j : Nat, j ≤ m ∧ i = .int .i64 (j : Int) ∧ r = .int .u64 (U v j : Int)) (fun _ i => (intOf i).toNat)
      case atStart => exact ⟨m, Nat.le_refl _, by go_num, by rw [Eul.out]⟩
      case round =>
        obtain ⟨j, hj, rfl, rfl⟩ := hrel
        cases j with
        | succ j =>
          have ej : ((j + 1 : Nat) : Int) = (j : Int) + 1 := by omega
          rw [ej]
          clear ej
          have cj := HC.out (j + 1) (by omega)
          obtain ⟨h1, h2, h3⟩ := Hmid.out j (by omega)
          have hbk := Hback.out j (by omega)
          have hb1 := Hb1.out j
          generalize byteAt v (j + 1) = x at cj h1 h2 h3
          obtain ⟨y, ey⟩ : ∃ y, bits BinOp.and IntKind.u8 x 127 = y := ⟨_, rfl⟩
          have hy : y = ((U v j % 128 : Nat) : Int) := ey.symm.trans h3
          have hy1 : 0 ≤ y := by omega
          have hy2 : y ≤ 127 := by omega
          have Hy := hid hy
          have Hbk := hid hbk
          clear h3 hy hbk
          obtain ⟨r, hr⟩ : ∃ r : Int, (U v (j + 1) : Int) = r := ⟨_, rfl⟩
          rw [hr]
          have hr0 : 0 ≤ r := by omega
          have hr1 : r ≤ 9007199254740992 := by omega
          have Hr := hid hr
          clear hr hb1
          go_wp2
          go_round
          case rel =>
            refine ⟨j, by omega, by go_num, ?_⟩
            have e1 := Hy.out
            have e2 := Hbk.out
            have e3 := Hr.out
            rw [show (y + 128 + 128 * r : Int) = (U v j : Int) by omega]
          case measure => simp [intOf]
        | zero =>
          have hu0 := HU0.out
          obtain ⟨r, hr⟩ : ∃ r : Int, (U v 0 : Int) = r := ⟨_, rfl⟩
          rw [hr]
          have hr0 : 0 ≤ r := by omega
          have hr1 : r ≤ 1152921504606846960 := by omega
          have Hr := hid hr
          obtain ⟨y, ey⟩ : ∃ y, bits BinOp.and IntKind.u8 z 15 = y := ⟨_, rfl⟩
          have hy : y = ((v % 16 : Nat) : Int) := ey.symm.trans Hz.out
          have hy1 : 0 ≤ y := by omega
          have hy2 : y ≤ 15 := by omega
          have hsum : 240 + y + 16 * r ≤ 18446744073709551615 := by have := Hv0.out; have := HV2.out; omega
          have Hy := hid hy
          clear hr hu0 hy
          go_wp2
          go_ret2
          have e1 := Hy.out
          have e2 := Hv0.out
          have e3 := Hr.out
          refine ⟨?_, rfl⟩
          rw [show (v : Int) = 240 + y + 16 * r by omega]
          rfl

theorem dec_any (w : World) (a : Option Addr) (c v : Nat) (hv2 : v < 18446744073709551616) (h : Rd w a (enc v)) :
    Calls Try.prog 9 #[.slice a (enc v).length c] w fun e w' => e = .returned (.tuple #[.int .u64 (v : Int), .bool true]) ∧ w' = w := by
  have hl := enc_length v
  rcases h with h | ⟨b, o, rfl, hc⟩
  · rw [h] at hl
    split at hl <;> simp at hl
  · have hb : ∀ i, i < (enc v).length → w.cell? ⟨b, o + i, none⟩ = some (.int .u8 (byteAt v i)) := fun i hi => by
      rw [hc i hi]
      have := enc_get v i hi
      simp [List.getD, this]
    rw [hl] at hb ⊢
    by_cases hv : v < 240
    · rw [if_pos hv] at hb ⊢
      have := hb 0 (by omega)
      rw [byteAt_small v hv] at this
      exact dec_small w b o c v hv this
    · rw [if_neg hv] at hb ⊢
      exact dec_large w b o c v (by omega) hv2 hb
end Go.Proofs.Qxb6632227a
