import Derived.Test.Qxb6632227aSub
namespace Go.Proofs.Qxb6632227a
open Go.RowKit Plain
set_option linter.unusedSimpArgs false
set_option linter.unusedVariables false
attribute [local go_sem] q22

theorem stream_out (w : World) (a : Option Addr) (n c : Nat) (u v : Int) (hm : n ≤ 9223372036854775807) (hn : 1048576 < n) :
    Calls Try.prog 4 #[.slice a n c, .int .u64 u, .int .u64 v] w fun e w' => e = .returned (.bool true) ∧ Below w.heap.size w w' := by
  go_enter Try.func4, Try.ntmps4
  go_wp2_with fail
  refine (zz10 _ _ _ _ _ _ hm).mono ?_
  rintro e w1 ⟨⟨t, rfl⟩, hw1⟩
  have hw1' := hw1.symm
  subst hw1'
  go_wp2
  all_goals go_ret
  all_goals exact ⟨rfl, Below.refl _ _⟩

theorem rd_addr {w : World} {g o o' : Nat} {zs : List Int} (h : Rd w (some ⟨g, o, none⟩) zs) (e : o = o') : Rd w (some ⟨g, o', none⟩) zs := by
  subst e; exact h
theorem rd_last {w : World} {g : Nat} {zs xs ys : List Int} (hc : ∀ i, i < (zs ++ (xs ++ ys)).length → w.cell? ⟨g, i, none⟩ = some (.int .u8 ((zs ++ (xs ++ ys)).getD i 0))) : Rd w (some ⟨g, zs.length + xs.length, none⟩) ys := by
  refine .inr ⟨g, _, rfl, fun i hi => ?_⟩
  rw [hc (zs.length + xs.length + i) (by simp; omega)]
  congr 2
  simp only [List.getD]
  rw [List.getElem?_append_right (by omega), List.getElem?_append_right (by omega)]
  congr 2
  omega

set_option maxRecDepth 100000 in
set_option maxHeartbeats 2000000 in
theorem stream_in (w : World) (a : Option Addr) (c u v : Nat) (zs : List Int) (hu : u < 18446744073709551616) (hv : v < 18446744073709551616) (hm : zs.length ≤ 1048576) (h0 : a = none → zs = []) (h : Rd w a zs) :
    Calls Try.prog 4 #[.slice a zs.length c, .int .u64 (u : Int), .int .u64 (v : Int)] w fun e w' => e = .returned (.bool true) ∧ Below w.heap.size w w' := by
  obtain ⟨n, hn⟩ : ∃ n, zs.length = n := ⟨_, rfl⟩
  have HN := hid hn
  rw [hn] at hm ⊢
  have d1 : decide (1048576 < (n : Int)) = false := decide_eq_false (by omega)
  have H0 := hid h0
  have H := hid h
  have HU := hid hu
  have HV := hid hv
  clear h0 h hn hu hv
  go_enter Try.func4, Try.ntmps4
  go_wp2_with fail
  refine (zz10 _ _ _ _ _ _ (by omega)).mono ?_
  rintro e w1 ⟨⟨t, rfl⟩, hw1⟩
  have hw1' := hw1.symm
  subst hw1'
  cases t
  · go_wp2
    go_ret
    exact ⟨rfl, Below.refl _ _⟩
  go_wp2_with fail
  refine (clone_at _ _ _ _ zs HN.out H0.out hm H.out).mono ?_
  rintro e w1 ⟨a1, rfl, h1n, h1r, hb1⟩
  rw [HN.out]
  have H1n := hid h1n
  have H1r := hid h1r
  have HB1 := hid hb1
  clear h1n h1r hb1
  go_wp2_with fail
  refine (clone_at _ _ _ _ zs HN.out H1n.out hm H1r.out).mono ?_
  rintro e w2 ⟨a2, rfl, h2n, h2r, hb2⟩
  rw [HN.out]
  have H2r := hid h2r
  have H1r2 := hid (H1r.out.later hb2)
  have HB2 := hid (HB1.out.trans (hb2.mono HB1.out.size))
  clear h2n h2r hb2 H1r
  go_wp2_with fail
  refine (app_any w2 w2.heap.size (.slice none 0 0) [] u HU.out (Nat.le_refl _) (by simp) (nil_push _)).mono ?_
  rintro e w3 ⟨v3, rfl, ho3, hb3⟩
  rw [List.nil_append] at ho3
  have Ho3 := hid ho3
  have H1r3 := hid (H1r2.out.later hb3)
  have H2r3 := hid (H2r.out.later hb3)
  have HB3 := hid (HB2.out.trans (hb3.mono HB2.out.size))
  clear ho3 hb3 H1r2 H2r
  go_wp2_with fail
  refine (app_any w3 w3.heap.size (.slice none 0 0) [] v HV.out (Nat.le_refl _) (by simp) (nil_push _)).mono ?_
  rintro e w4 ⟨v4, rfl, ho4, hb4⟩
  rw [List.nil_append] at ho4
  have Ho4 := hid ho4
  have Ho34 := hid (Ho3.out.later hb4)
  have H1r4 := hid (H1r3.out.later hb4)
  have H2r4 := hid (H2r3.out.later hb4)
  have HB4 := hid (HB3.out.trans (hb4.mono HB3.out.size))
  clear ho4 hb4 H1r3 H2r3 Ho3
  go_wp2_with fail
  refine (app_any w4 w4.heap.size (.slice a1 n n) zs u HU.out (Nat.le_refl _) (by rw [HN.out]; omega) (.inr ⟨a1, by rw [HN.out], H1n.out, H1r4.out⟩)).mono ?_
  rintro e w5 ⟨v5, rfl, ho5, hb5⟩
  have Ho5 := hid ho5
  have Hb5 := hid hb5
  clear ho5 hb5
  have hlu := enc_length u
  have hlv := enc_length v
  have hMu := M_le u HU.out
  have hMv := M_le v HV.out
  have HMu := hid hMu
  have hl1 : 1 ≤ (enc u).length ∧ (enc u).length ≤ 10 := by rw [hlu]; split <;> omega
  have hl2 : 1 ≤ (enc v).length ∧ (enc v).length ≤ 10 := by rw [hlv]; split <;> omega
  have Hlu := hid hlu
  have Hlv := hid hlv
  clear hlu hlv hMu hMv
  go_wp2_with fail
  refine (app_any w5 w4.heap.size v5 (zs ++ enc u) v HV.out Hb5.out.size (by rw [List.length_append, HN.out]; omega) (.inl Ho5.out)).mono ?_
  rintro e w6 ⟨v6, rfl, ho6, hb6⟩
  have hb46 : Below w4.heap.size w4 w6 := Hb5.out.trans hb6
  have HB6 := hid (HB4.out.trans (hb46.mono HB4.out.size))
  have H2r6 := hid (H2r4.out.later hb46)
  obtain ⟨ea, ec, e3, hea, _⟩ := (Ho34.out.later hb46).shape
  obtain ⟨fa, fc, e4, hfa, _⟩ := (Ho4.out.later hb46).shape
  obtain ⟨g, cap, e6, hcap, hcm, hcell⟩ := ho6.row (by simp; omega)
  subst e3 e4 e6
  have Hea := hid hea
  have Hfa := hid hfa
  rw [List.append_assoc] at hcell hcap ⊢
  have HCell := hid hcell
  obtain ⟨lu, elu⟩ : ∃ l, (enc u).length = l := ⟨_, rfl⟩
  obtain ⟨lv, elv⟩ : ∃ l, (enc v).length = l := ⟨_, rfl⟩
  have hlen : (zs ++ (enc u ++ enc v)).length = n + (lu + lv) := by simp [HN.out, elu, elv]
  rw [hlen] at hcap
  rw [hlen, elu, elv]
  rw [elu] at hl1 Hlu
  rw [elv] at hl2 Hlv
  have Elu := hid elu
  have Elv := hid elv
  have Hlen := hid hlen
  clear hlen elu elv hcell hea hfa ho6 hb6 hb46 Ho5 Hb5 Ho4 Ho34 H1r4 H2r4 HB1 HB2 HB3 HB4 H H0 H1n
  obtain ⟨hl1a, hl1b⟩ := hl1
  obtain ⟨hl2a, hl2b⟩ := hl2
  have hcn : ¬ cap = n := by omega
  have hcl : ¬ cap = n + lu := by omega
  have t1 : decide ((lu : Int) < 1) = false := decide_eq_false (by omega)
  have t2 : decide ((lv : Int) < 1) = false := decide_eq_false (by omega)
  have t3 : ((n : Int) + ((lu : Int) + (lv : Int)) != (n : Int) + (lu : Int) + (lv : Int)) = false := by rw [bne_eq_false_iff_eq]; omega
  have t4 : decide ((n : Int) + ((lu : Int) + (lv : Int)) ≤ (n : Int)) = false := decide_eq_false (by omega)
  go_wp2_with fail
  refine (same_at _ _ _ _ _ _ _ zs zs HN.out HN.out (rd_part (xs := []) HCell.out rfl) H2r6.out (by omega)).mono ?_
  rintro e w7 ⟨rfl, hb7⟩
  rw [beq_self_eq_true]
  have HCell7 : Hid (∀ i, i < (zs ++ (enc u ++ enc v)).length → w7.cell? ⟨g, i, none⟩ = some (.int .u8 ((zs ++ (enc u ++ enc v)).getD i 0))) := hid fun i hi => below_cell hb7 (HCell.out i hi)
  have Hu7 : Hid (∀ i, i < lu → w7.cell? ⟨g, n + i, none⟩ = some (.int .u8 (byteAt u i))) := hid fun i hi => by
    rw [HCell7.out (n + i) (by rw [Hlen.out]; omega), ← HN.out]
    simp only [List.getD]
    rw [List.getElem?_append_right (by omega), Nat.add_sub_cancel_left, List.getElem?_append_left (by rw [Elu.out]; exact hi), enc_get u i (by rw [Elu.out]; exact hi)]
    rfl
  have Hea7 := hid (Hea.out.later hb7)
  have Hfa7 := hid (Hfa.out.later hb7)
  have HB7 := hid (HB6.out.trans (hb7.mono HB6.out.size))
  clear hb7 HCell H2r6 Hea Hfa HB6
  have c0 : w7.cell? ⟨g, n, none⟩ = some (.int .u8 (byteAt u 0)) := Hu7.out 0 (by omega)
  obtain ⟨z, hz⟩ : ∃ z, byteAt u 0 = z := ⟨_, rfl⟩
  rw [hz] at c0
  by_cases hu240 : u < 240
  · have hlu1 := Hlu.out
    rw [if_pos hu240] at hlu1
    rw [byteAt_small u hu240] at hz
    have hz1 : decide ((240 : Int) ≤ z) = false := decide_eq_false (by omega)
    have Hlu1 := hid hlu1
    clear hz hlu1 hu240
    have hce : ¬ cap = n + 1 := by have := Hlu1.out; omega
    go_wp2_with fail
    refine (same_at _ _ _ _ _ _ _ (enc u) (enc u) (by have := Elu.out; have := Hlu1.out; omega) Elu.out (rd_part (xs := zs) HCell7.out HN.out) Hea7.out (by omega)).mono ?_
    rintro e w8 ⟨rfl, hb8⟩
    rw [beq_self_eq_true]
    have Hv8 := hid ((rd_last HCell7.out).later hb8)
    have Hea8 := hid (Hea7.out.later hb8)
    have Hfa8 := hid (Hfa7.out.later hb8)
    have HB8 := hid (HB7.out.trans (hb8.mono HB7.out.size))
    clear hb8 HCell7 Hu7 c0 Hea7 Hfa7 HB7
    go_wp2_with fail
    refine (same_at _ _ _ _ _ _ _ (enc v) (enc v) (by have := Elv.out; have := Hlu1.out; omega) Elv.out (rd_addr Hv8.out (by have := HN.out; have := Elu.out; have := Hlu1.out; omega)) Hfa8.out (by omega)).mono ?_
    rintro e w9 ⟨rfl, hb9⟩
    rw [beq_self_eq_true]
    have Hea9 := hid (Hea8.out.later hb9)
    have Hfa9 := hid (Hfa8.out.later hb9)
    have HB9 := hid (HB8.out.trans (hb9.mono HB8.out.size))
    clear hb9 Hv8 Hea8 Hfa8 HB8
    go_wp2_with fail
    refine (same_at _ _ _ _ _ _ _ (enc u) (enc v) Elu.out Elv.out Hea9.out Hfa9.out (by omega)).mono ?_
    rintro e w10 ⟨rfl, hb10⟩
    have HB10 := hid (HB9.out.trans (hb10.mono HB9.out.size))
    clear hb10 Hea9 Hfa9 HB9
    by_cases huv : u = v
    · subst huv
      rw [beq_self_eq_true]
      have hll : ¬ (lv : Int) < (lu : Int) := by have := Elu.out; have := Elv.out; omega
      go_wp2
      go_ret
      exact ⟨rfl, HB10.out⟩
    · have hE : (enc u == enc v) = false := by
        rw [beq_eq_false_iff_ne]
        intro e
        exact huv (enc_inj HU.out HV.out e)
      rw [hE]
      clear hE
      by_cases hle : u ≤ v
      · have hle' : (u : Int) < (v : Int) := by omega
        have hll : (lu : Int) ≤ (lv : Int) := by have := enc_mono hle; have := Elu.out; have := Elv.out; omega
        clear huv hle
        go_wp2
        go_ret
        exact ⟨rfl, HB10.out⟩
      · have hle' : (v : Int) < (u : Int) := by omega
        clear huv hle
        go_wp2
        go_ret
        exact ⟨rfl, HB10.out⟩
  · have hlu1 := Hlu.out
    rw [if_neg hu240] at hlu1
    have hz' : 240 ≤ z := by rw [byteAt_zero u (by omega)] at hz; omega
    have hz1 : decide ((240 : Int) ≤ z) = true := decide_eq_true hz'
    have Hmid : Hid (∀ j, j < M u → (128 : Int) ≤ byteAt u (j + 1)) := hid fun j hj => by rw [byteAt_mid u j hj]; omega
    have Hlast : Hid (byteAt u (M u + 1) < 128) := hid (by have := M_lt u HU.out; rw [byteAt_last]; omega)
    obtain ⟨m, em⟩ : ∃ m, M u = m := ⟨_, rfl⟩
    have hm8 : m ≤ 8 := by have := HMu.out; omega
    rw [em] at Hmid Hlast hlu1
    have Hlu1 := hid hlu1
    have Em := hid em
    clear hz em hlu1 hu240 hz'
    have hce : ¬ cap = n + 1 + m + 1 := by have := Hlu1.out; omega
    have hsum : (n : Int) + 1 + (m : Int) < (n : Int) + ((lu : Int) + (lv : Int)) := by have := Hlu1.out; omega
    go_wp2_with fail
    go_loop [13] (fun q => ∃ i : Nat, i ≤ m ∧ q = .int .i64 ((n : Int) + 1 + (i : Int))) (fun q => n + 1 + m - (intOf q).toNat)
    case atStart => exact ⟨0, Nat.zero_le _, by go_num⟩
    case round =>
      obtain ⟨i, hi, rfl⟩ := hrel
      have ci := Hu7.out (i + 1) (by have := Hlu1.out; omega)
      rw [show n + (i + 1) = n + 1 + i by omega] at ci
      have hin : (n : Int) + 1 + (i : Int) < (n : Int) + ((lu : Int) + (lv : Int)) := by omega
      by_cases hlt : i < m
      · have hx := Hmid.out i hlt
        generalize byteAt u (i + 1) = x at ci hx
        go_wp2
        go_round
        case rel => exact ⟨i + 1, by omega, by go_num⟩
        case measure => simp [intOf]; omega
      · obtain rfl : m = i := by omega
        have hx := Hlast.out
        generalize byteAt u (m + 1) = x at ci hx
        clear hlt hi
        go_wp2_with fail
        refine (same_at _ _ _ _ _ _ _ (enc u) (enc u) (by have := Elu.out; have := Hlu1.out; omega) Elu.out (rd_part (xs := zs) HCell7.out HN.out) Hea7.out (by omega)).mono ?_
        rintro e w8 ⟨rfl, hb8⟩
        rw [beq_self_eq_true]
        have Hv8 := hid ((rd_last HCell7.out).later hb8)
        have Hea8 := hid (Hea7.out.later hb8)
        have Hfa8 := hid (Hfa7.out.later hb8)
        have HB8 := hid (HB7.out.trans (hb8.mono HB7.out.size))
        clear hb8 HCell7 Hu7 c0 Hea7 Hfa7 HB7
        go_wp2_with fail
        refine (same_at _ _ _ _ _ _ _ (enc v) (enc v) (by have := Elv.out; have := Hlu1.out; omega) Elv.out (rd_addr Hv8.out (by have := HN.out; have := Elu.out; have := Hlu1.out; omega)) Hfa8.out (by omega)).mono ?_
        rintro e w9 ⟨rfl, hb9⟩
        rw [beq_self_eq_true]
        have Hea9 := hid (Hea8.out.later hb9)
        have Hfa9 := hid (Hfa8.out.later hb9)
        have HB9 := hid (HB8.out.trans (hb9.mono HB8.out.size))
        clear hb9 Hv8 Hea8 Hfa8 HB8
        go_wp2_with fail
        refine (same_at _ _ _ _ _ _ _ (enc u) (enc v) Elu.out Elv.out Hea9.out Hfa9.out (by omega)).mono ?_
        rintro e w10 ⟨rfl, hb10⟩
        have HB10 := hid (HB9.out.trans (hb10.mono HB9.out.size))
        clear hb10 Hea9 Hfa9 HB9
        by_cases huv : u = v
        · subst huv
          rw [beq_self_eq_true]
          have hll : ¬ (lv : Int) < (lu : Int) := by have := Elu.out; have := Elv.out; omega
          go_wp2
          go_ret
          exact ⟨rfl, HB10.out⟩
        · have hE : (enc u == enc v) = false := by
            rw [beq_eq_false_iff_ne]
            intro e
            exact huv (enc_inj HU.out HV.out e)
          rw [hE]
          clear hE
          by_cases hle : u ≤ v
          · have hle' : (u : Int) < (v : Int) := by omega
            have hll : (lu : Int) ≤ (lv : Int) := by have := enc_mono hle; have := Elu.out; have := Elv.out; omega
            clear huv hle
            go_wp2
            go_ret
            exact ⟨rfl, HB10.out⟩
          · have hle' : (v : Int) < (u : Int) := by omega
            clear huv hle
            go_wp2
            go_ret
            exact ⟨rfl, HB10.out⟩
end Go.Proofs.Qxb6632227a
