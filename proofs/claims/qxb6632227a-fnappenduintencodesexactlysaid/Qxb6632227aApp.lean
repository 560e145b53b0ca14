import Derived.Test.Qxb6632227aPush
namespace Go.Proofs.Qxb6632227a
open Go.RowKit Plain
set_option linter.unusedSimpArgs false
set_option linter.unusedVariables false

theorem U0_int (v : Nat) (hv : 240 ≤ v) : (U v 0 : Int) = ((v : Int) - 240) / 16 := by
  show (((v - 240) / 16 : Nat) : Int) = _
  omega
theorem U_succ_int (v k : Nat) (h : 128 ≤ U v k) : (U v (k + 1) : Int) = ((U v k : Int) - 128) / 128 := by
  show ((nxt (U v k) : Nat) : Int) = _
  unfold nxt
  omega
theorem U_less (v k : Nat) (h : 128 ≤ U v k) : U v (k + 1) < U v k := by
  show nxt (U v k) < _
  unfold nxt
  omega
/-- The first byte and k further ones. -/
def pre (v k : Nat) : List Int := ((240 + v % 16 : Nat) : Int) :: (List.range k).map (fun i => ((128 + U v i % 128 : Nat) : Int))
theorem pre_zero (v : Nat) : pre v 0 = [((240 + v % 16 : Nat) : Int)] := rfl
theorem pre_length (v k : Nat) : (pre v k).length = k + 1 := by simp [pre]
theorem pre_succ (v k : Nat) : pre v (k + 1) = pre v k ++ [((128 + U v k % 128 : Nat) : Int)] := by simp [pre, List.range_succ]
theorem enc_pre (v : Nat) (hv : 240 ≤ v) : enc v = pre v (M v) ++ [(U v (M v) : Int)] := by simp [enc, pre, show ¬ v < 240 by omega]

set_option maxRecDepth 100000 in
theorem app_large (w : World) (base : Nat) (sv : Value) (zs : List Int) (v : Nat) (hv : 240 ≤ v) (hv2 : v < 18446744073709551616) (hb : base ≤ w.heap.size) (hn : zs.length ≤ 1900000) (h : Pushable w base sv zs) :
    Calls Try.prog 7 #[sv, .int .u64 (v : Int)] w fun e w' => AppOut w base (zs ++ enc v) e w' := by
  have hv' : (240 : Int) ≤ (v : Int) := by omega
  have hv3 : (v : Int) ≤ 18446744073709551615 := by omega
  have hd : decide ((v : Int) < 240) = false := decide_eq_false (by omega)
  have H := hid h
  have HV2 := hid hv2
  obtain ⟨b0, hb0⟩ : ∃ b0, bits BinOp.or IntKind.u8 ((v : Int) % 256) 240 = b0 := ⟨_, rfl⟩
  have Hb0 : Hid (b0 = ((240 + v % 16 : Nat) : Int)) := hb0.symm.trans (or240 v)
  clear h hv2
  go_enter Try.func7, Try.ntmps7
  go_wp2_with (at_builtin; refine wpList_push rfl _ _ rfl base sv zs rfl b0 rfl H.out (by omega) hb ?_; intro v' w1 hown hbel; have Hown := hid hown; have Hbel := hid hbel; clear hown hbel)
  clear hb0 hd
  go_loopw [0, 1] (fun b x wr => ∃ k : Nat, k ≤ M v ∧ x = .int .u64 (U v k : Int) ∧ Own wr base b (zs ++ pre v k) ∧ Below base w wr) (fun _ x _ => (intOf x).toNat)
  case atStart =>
    refine ⟨0, Nat.zero_le _, ?_, ?_, Hbel.out⟩
    · rw [U0_int v hv]
    · rw [pre_zero, ← Hb0.out]; exact Hown.out
  case round =>
    obtain ⟨k, hk, rfl, hown, hbel⟩ := hrel
    have hbs : base ≤ wr.heap.size := Nat.le_trans hb hbel.size
    have hlen : (zs ++ pre v k).length ≤ 2000000 := by have := M_le v HV2.out; rw [List.length_append, pre_length]; omega
    have hub := U_bound v HV2.out k
    have hlen' := hid hlen
    have HOw := hid hown
    have HBe := hid hbel
    clear hown hbel hlen
    by_cases hlt : k < M v
    · have hge := M_ge v k hlt
      have hge' : (128 : Int) ≤ (U v k : Int) := by omega
      obtain ⟨bk, hbk⟩ : ∃ bk, bits BinOp.or IntKind.u8 ((U v k : Int) % 256) 128 = bk := ⟨_, rfl⟩
      have Hbk : Hid (bk = ((128 + U v k % 128 : Nat) : Int)) := hbk.symm.trans (or128 (U v k))
      have HU := hid (U_succ_int v k hge)
      have HUlt := hid (U_less v k hge)
      have HP := hid (pre_succ v k)
      have hub' : (U v k : Int) < 1152921504606846976 := by omega
      generalize U v k = uk at *
      go_wp2_with (at_builtin; refine wpList_push rfl _ _ rfl base u0 (zs ++ pre v k) rfl bk rfl (.inl HOw.out) hlen'.out hbs ?_; intro v'' w2 hown hbel; have Hown2 := hid hown; have Hbel2 := hid hbel; clear hown hbel)
      go_roundw
      case rel =>
        refine ⟨k + 1, by omega, ?_, ?_, HBe.out.trans Hbel2.out⟩
        · rw [HU.out]
        · rw [HP.out, ← Hbk.out, ← List.append_assoc]; exact Hown2.out
      case measure => simp [intOf]; omega
    · obtain rfl : k = M v := by omega
      have hlast := M_lt v HV2.out
      have hl' : (U v (M v) : Int) < 128 := by omega
      have HE := hid (enc_pre v hv)
      generalize U v (M v) = ul at *
      go_wp2_with (at_builtin; refine wpList_push rfl _ _ rfl base u0 (zs ++ pre v (M v)) rfl (ul : Int) rfl (.inl HOw.out) hlen'.out hbs ?_; intro v'' w2 hown hbel; have Hown2 := hid hown; have Hbel2 := hid hbel; clear hown hbel)
      go_ret
      exact ⟨v'', rfl, by rw [HE.out, ← List.append_assoc]; exact Hown2.out, HBe.out.trans Hbel2.out⟩

theorem app_any (w : World) (base : Nat) (sv : Value) (zs : List Int) (v : Nat) (hv2 : v < 18446744073709551616) (hb : base ≤ w.heap.size) (hn : zs.length ≤ 1900000) (h : Pushable w base sv zs) :
    Calls Try.prog 7 #[sv, .int .u64 (v : Int)] w fun e w' => AppOut w base (zs ++ enc v) e w' := by
  by_cases hv : v < 240
  · exact app_small w base sv zs v hv hb (by omega) h
  · exact app_large w base sv zs v (by omega) hv2 hb hn h
end Go.Proofs.Qxb6632227a
