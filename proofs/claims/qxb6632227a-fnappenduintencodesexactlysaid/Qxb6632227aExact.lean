import Derived.Test.Qxb6632227aSub
namespace Go.Proofs.Qxb6632227a
open Go.RowKit Plain
set_option linter.unusedSimpArgs false
set_option linter.unusedVariables false
attribute [local go_sem] q22

theorem exact_out (w : World) (a : Option Addr) (n c : Nat) (v : Int) (hm : n ≤ 9223372036854775807) (hn : 1048576 < n) :
    Calls Try.prog 3 #[.slice a n c, .int .u64 v] w fun e w' => e = .returned (.bool true) ∧ Below w.heap.size w w' := by
  go_enter Try.func3, Try.ntmps3
  go_wp2_with fail
  refine (zz5 _ _ _ _ _ hm).mono ?_
  rintro e w1 ⟨⟨t, rfl⟩, hw1⟩
  have hw1' := hw1.symm
  subst hw1'
  go_wp2
  all_goals go_ret
  all_goals exact ⟨rfl, Below.refl _ _⟩

set_option maxRecDepth 100000 in
set_option maxHeartbeats 2000000 in
theorem exact_in (w : World) (a : Option Addr) (c v : Nat) (zs : List Int) (hv : v < 18446744073709551616) (hm : zs.length ≤ 1048576) (h0 : a = none → zs = []) (h : Rd w a zs) :
    Calls Try.prog 3 #[.slice a zs.length c, .int .u64 (v : Int)] w fun e w' => e = .returned (.bool true) ∧ Below w.heap.size w w' := by
  obtain ⟨n, hn⟩ : ∃ n, zs.length = n := ⟨_, rfl⟩
  have HN := hid hn
  rw [hn] at hm ⊢
  have d1 : decide (1048576 < (n : Int)) = false := decide_eq_false (by omega)
  have H0 := hid h0
  have H := hid h
  have HV := hid hv
  clear h0 h hn hv
  go_enter Try.func3, Try.ntmps3
  go_wp2_with fail
  refine (zz5 _ _ _ _ _ (by omega)).mono ?_
  rintro e w1 ⟨⟨t, rfl⟩, hw1⟩
  have hw1' := hw1.symm
  subst hw1'
  cases t
  · go_wp2
    go_ret
    exact ⟨rfl, Below.refl _ _⟩
  go_wp2_with fail
  refine (clone_at _ _ _ _ zs HN.out H0.out hm H.out).mono ?_
  rintro e w1 ⟨a1, rfl, h1n, h1r, hb1⟩
  rw [HN.out]
  have H1n := hid h1n
  have H1r := hid h1r
  have HB1 := hid hb1
  clear h1n h1r hb1
  go_wp2_with fail
  refine (clone_at _ _ _ _ zs HN.out H1n.out hm H1r.out).mono ?_
  rintro e w2 ⟨a2, rfl, h2n, h2r, hb2⟩
  rw [HN.out]
  have H2r := hid h2r
  have H1r2 := hid (H1r.out.later hb2)
  have HB2 := hid (HB1.out.trans (hb2.mono HB1.out.size))
  clear h2n h2r hb2 H1r
  go_wp2_with fail
  refine (app_any w2 w2.heap.size (.slice a1 n n) zs v HV.out (Nat.le_refl _) (by rw [HN.out]; omega) (.inr ⟨a1, by rw [HN.out], H1n.out, H1r2.out⟩)).mono ?_
  rintro e w3 ⟨v3, rfl, ho3, hb3⟩
  have H2r3 := hid (H2r.out.later hb3)
  have HB3 := hid (HB2.out.trans (hb3.mono HB2.out.size))
  have hlv := enc_length v
  have hMv := M_le v HV.out
  have hl2 : 1 ≤ (enc v).length ∧ (enc v).length ≤ 10 := by rw [hlv]; split <;> omega
  obtain ⟨g, cap, e3, hcap, hcm, hcell⟩ := ho3.row (by simp; omega)
  subst e3
  have HCell := hid hcell
  obtain ⟨lv, elv⟩ : ∃ l, (enc v).length = l := ⟨_, rfl⟩
  have hlen : (zs ++ enc v).length = n + lv := by simp [HN.out, elv]
  rw [hlen] at hcap
  rw [hlen]
  rw [elv] at hl2
  have Elv := hid elv
  clear hlen elv hcell ho3 hb3 H1r2 H2r HB1 HB2 H H0 H1n hlv hMv
  obtain ⟨hl2a, hl2b⟩ := hl2
  have hcn : ¬ cap = n := by omega
  have t1 : decide ((n : Int) + (lv : Int) < (n : Int) + 1) = false := decide_eq_false (by omega)
  have t2 : decide ((n : Int) + 10 < (n : Int) + (lv : Int)) = false := decide_eq_false (by omega)
  go_wp2_with fail
  refine (same_at _ _ _ _ _ _ _ zs zs HN.out HN.out (rd_part (xs := []) HCell.out rfl) H2r3.out (by omega)).mono ?_
  rintro e w4 ⟨rfl, hb4⟩
  rw [beq_self_eq_true]
  have Hv4 : Hid (Rd w4 (some ⟨g, n, none⟩) (enc v)) := hid ((rd_part (xs := zs) (ys := []) (by simpa using HCell.out) HN.out).later hb4)
  have HB4 := hid (HB3.out.trans (hb4.mono HB3.out.size))
  clear hb4 HCell H2r3 HB3
  go_wp2_with fail
  refine (dec_at _ _ _ _ v HV.out (by have := Elv.out; omega) Hv4.out).mono ?_
  rintro e w5 ⟨rfl, hw5⟩
  have hw5' := hw5.symm
  subst hw5'
  clear hw5
  go_wp2
  go_ret
  exact ⟨rfl, HB4.out⟩
end Go.Proofs.Qxb6632227a
