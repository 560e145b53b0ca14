import Derived.Test.Qxb6631315aCut
import Derived.Test.Qxb6631315aBytes
import Derived.Test.Qxb6631315aZza
import Derived.Deep.RegionWith
namespace Go.Proofs.Qxb6631315a
open Go.RowKit
set_option linter.unusedSimpArgs false
set_option linter.unusedVariables false
attribute [local go_sem] q35 q38 q39

set_option maxRecDepth 100000 in
set_option maxHeartbeats 4000000 in
theorem cut_some (w : World) (b0 o0 : Nat) (n c p : Nat) (ID : Nat → ByteArray) (A : Nat → Option Addr) (L C : Nat → Nat) (R : Nat → Option Addr) (id : ByteArray) (h0 : CellsOk w b0 o0 n ID A L C R)
    (g1 : n ≤ 65536) (g2 : id.size ≤ 1048576) (hp1 : p ≤ n) :
    Calls Try.prog 3 #[.slice (some ⟨b0, o0, none⟩) n c, .int .i64 (p : Int), .string id] w fun e w' => e = .returned (.bool true) ∧ Below w.heap.size w w' := by
  have h : ClientsOk w (some ⟨b0, o0, none⟩) n ID A L C R := ⟨by omega, .inr ⟨_, _, rfl, h0⟩⟩
  clear h0
  have d1 : decide (65536 < (n : Int)) = false := decide_eq_false (by omega)
  have d2 : decide (1048576 < (id.size : Int)) = false := decide_eq_false (by omega)
  go_enter Try.func3, Try.ntmps3
  go_wp2_with fail
  refine (zza_any _ _ _ _ _ _ _ _ _ _ _ (by omega) h).mono ?_
  rintro e w1 ⟨⟨t, rfl⟩, hw1⟩
  have hw1' := hw1.symm
  subst hw1'
  cases t
  · go_wp2
    go_ret
    exact ⟨rfl, Below.refl _ _⟩
  go_wp2_with fail
  refine (bytes_any _ _ _ _ ID A L C R _ (by omega) (by omega) h).mono ?_
  rintro e w1 ⟨⟨t2, rfl, ht3, ht4⟩, hw1⟩
  have hw1' := hw1.symm
  subst hw1'
  by_cases ht5 : t2 < 0
  · go_wp2
    go_ret
    exact ⟨rfl, Below.refl _ _⟩
  have hLL := ht4 (by omega)
  have HLL := hid hLL
  have hdt : decide (t2 < 0) = false := decide_eq_false (by omega)
  have hdp : decide ((p : Int) < 0) = false := decide_eq_false (by omega)
  have hdn : decide ((n : Int) < (p : Int)) = false := decide_eq_false (by omega)
  clear ht4 hLL
  go_wp2_with fail
  refine (all_any _ _ _ _ _ _ _ _ _ g1 h HLL.out).mono ?_
  rintro e w4 ⟨⟨B, A', C', R', rfl, hB, hbt⟩, hb4⟩
  have Hbt := hid hbt
  have HB4 := hid hb4
  have Hrow4 : Hid (RowAt w4 B 0 n ID A' L C' R') := hid hbt.rowAt
  have Hroles4 : Hid (∀ i, i < n → RolesOk w4 (A' i) (L i)) := hid fun i hi => (hbt.cells hi).2.2.2
  have HC4 := hid (h.later hb4)
  clear hbt hb4
  obtain ⟨q, Hq, hcut⟩ := cut_tail B n p hp1
  go_wp2_with fail
  clear hcut
  have hb5 := hid (below_three w4 (.cells #[.string ⟨#[]⟩, .string ⟨#[]⟩, .string ⟨#[]⟩, .int .i64 0, .int .i64 0, .int .i64 0, .int .i64 0, .int .i64 0, .int .i64 0, .int .i64 0, .int .i64 0, .pointer none, .int .i64 0, .slice none 0 0, (.slice (some ⟨B, 0, none⟩) n n)] 37) (.cells #[.string ⟨#[]⟩, .string ⟨#[]⟩, .string ⟨#[]⟩, .int .i64 0, .int .i64 0, .int .i64 0, .int .i64 0, .int .i64 0, .int .i64 0, .int .i64 0, .int .i64 0, .pointer none, .int .i64 0, .slice none 0 0, (.slice (some ⟨B, 0, none⟩) p n)] 37) (.cells #[.string ⟨#[]⟩, .string ⟨#[]⟩, .string ⟨#[]⟩, .int .i64 0, .int .i64 0, .int .i64 0, .int .i64 0, .int .i64 0, .int .i64 0, .int .i64 0, .int .i64 0, .pointer none, .int .i64 0, .slice none 0 0, (.slice (some ⟨B, q, none⟩) (n - p) (n - p))] 37))
  have f1 : Hid ((((w4.alloc (.cells #[.string ⟨#[]⟩, .string ⟨#[]⟩, .string ⟨#[]⟩, .int .i64 0, .int .i64 0, .int .i64 0, .int .i64 0, .int .i64 0, .int .i64 0, .int .i64 0, .int .i64 0, .pointer none, .int .i64 0, .slice none 0 0, (.slice (some ⟨B, 0, none⟩) n n)] 37)).alloc (.cells #[.string ⟨#[]⟩, .string ⟨#[]⟩, .string ⟨#[]⟩, .int .i64 0, .int .i64 0, .int .i64 0, .int .i64 0, .int .i64 0, .int .i64 0, .int .i64 0, .int .i64 0, .pointer none, .int .i64 0, .slice none 0 0, (.slice (some ⟨B, 0, none⟩) p n)] 37)).alloc (.cells #[.string ⟨#[]⟩, .string ⟨#[]⟩, .string ⟨#[]⟩, .int .i64 0, .int .i64 0, .int .i64 0, .int .i64 0, .int .i64 0, .int .i64 0, .int .i64 0, .int .i64 0, .pointer none, .int .i64 0, .slice none 0 0, (.slice (some ⟨B, q, none⟩) (n - p) (n - p))] 37)).cell? ⟨w4.heap.size, 14, none⟩ = some (.slice (some ⟨B, 0, none⟩) n n)) := by
    refine hid ?_; simp [go_sem]
  have f2 : Hid ((((w4.alloc (.cells #[.string ⟨#[]⟩, .string ⟨#[]⟩, .string ⟨#[]⟩, .int .i64 0, .int .i64 0, .int .i64 0, .int .i64 0, .int .i64 0, .int .i64 0, .int .i64 0, .int .i64 0, .pointer none, .int .i64 0, .slice none 0 0, (.slice (some ⟨B, 0, none⟩) n n)] 37)).alloc (.cells #[.string ⟨#[]⟩, .string ⟨#[]⟩, .string ⟨#[]⟩, .int .i64 0, .int .i64 0, .int .i64 0, .int .i64 0, .int .i64 0, .int .i64 0, .int .i64 0, .int .i64 0, .pointer none, .int .i64 0, .slice none 0 0, (.slice (some ⟨B, 0, none⟩) p n)] 37)).alloc (.cells #[.string ⟨#[]⟩, .string ⟨#[]⟩, .string ⟨#[]⟩, .int .i64 0, .int .i64 0, .int .i64 0, .int .i64 0, .int .i64 0, .int .i64 0, .int .i64 0, .int .i64 0, .pointer none, .int .i64 0, .slice none 0 0, (.slice (some ⟨B, q, none⟩) (n - p) (n - p))] 37)).cell? ⟨w4.heap.size + 1, 14, none⟩ = some (.slice (some ⟨B, 0, none⟩) p n)) := by
    refine hid ?_; simp [go_sem]
  have f3 : Hid ((((w4.alloc (.cells #[.string ⟨#[]⟩, .string ⟨#[]⟩, .string ⟨#[]⟩, .int .i64 0, .int .i64 0, .int .i64 0, .int .i64 0, .int .i64 0, .int .i64 0, .int .i64 0, .int .i64 0, .pointer none, .int .i64 0, .slice none 0 0, (.slice (some ⟨B, 0, none⟩) n n)] 37)).alloc (.cells #[.string ⟨#[]⟩, .string ⟨#[]⟩, .string ⟨#[]⟩, .int .i64 0, .int .i64 0, .int .i64 0, .int .i64 0, .int .i64 0, .int .i64 0, .int .i64 0, .int .i64 0, .pointer none, .int .i64 0, .slice none 0 0, (.slice (some ⟨B, 0, none⟩) p n)] 37)).alloc (.cells #[.string ⟨#[]⟩, .string ⟨#[]⟩, .string ⟨#[]⟩, .int .i64 0, .int .i64 0, .int .i64 0, .int .i64 0, .int .i64 0, .int .i64 0, .int .i64 0, .int .i64 0, .pointer none, .int .i64 0, .slice none 0 0, (.slice (some ⟨B, q, none⟩) (n - p) (n - p))] 37)).cell? ⟨w4.heap.size + 1 + 1, 14, none⟩ = some (.slice (some ⟨B, q, none⟩) (n - p) (n - p))) := by
    refine hid ?_; simp [go_sem]
  refine (client_at _ w4.heap.size B 0 n n ID A' L C' R' id (by omega) f1.out (Hrow4.out.later hb5.out)).mono ?_
  rintro e w5 ⟨⟨sw, aw, lw, cw, pw, wok, rfl, hfw⟩, hb6⟩
  have Hfw := hid hfw
  have H5 : Hid (Below w4.heap.size w4 w5) := hb5.out.trans (hb6.mono (by simp; omega))
  have Hf2 := hid (below_cell hb6 f2.out)
  have Hf3 := hid (below_cell hb6 f3.out)
  clear hfw hb6 f1 f2 f3 hb5
  go_wp2_with fail
  have hb7 : Below w5.heap.size w5 (w5.alloc (.cells #[.string sw, .slice aw lw cw, .pointer pw] 41)) := (Below.refl _ _).alloc (Nat.le_refl _) _
  refine (client_at _ (w4.heap.size + 1) B 0 p n ID A' L C' R' id (by omega) (below_cell hb7 Hf2.out) (((Hrow4.out.later H5.out).later hb7).short hp1)).mono ?_
  rintro e w6 ⟨⟨sp, ap, lp, cp, pp, pok, rfl, hfp⟩, hb8⟩
  have Hfp := hid hfp
  have Hwc6 := hid (box_later (cells_box41 w5 sw aw lw cw pw) hb8)
  have H56 : Hid (Below w5.heap.size w5 w6) := hb7.trans (hb8.mono (by simp))
  have Hf3' := hid (below_cell H56.out Hf3.out)
  have H6 : Hid (Below w4.heap.size w4 w6) := H5.out.trans (H56.out.mono H5.out.size)
  clear hfp hb7 hb8 Hf2 Hf3 H56 H5
  go_wp2_with fail
  have hb9 : Below w6.heap.size w6 (w6.alloc (.cells #[.string sp, .slice ap lp cp, .pointer pp] 41)) := (Below.refl _ _).alloc (Nat.le_refl _) _
  refine (client_at _ (w4.heap.size + 1 + 1) B q (n - p) (n - p) (fun i => ID (p + i)) (fun i => A' (p + i)) (fun i => L (p + i)) (fun i => C' (p + i)) (fun i => R' (p + i)) id (by omega) (below_cell hb9 Hf3'.out) (((Hrow4.out.later H6.out).later hb9).tail hp1 Hq.out)).mono ?_
  rintro e w7 ⟨⟨ss, as', ls, cs, ps, sok, rfl, hfs⟩, hb10⟩
  have Hcut := hid (found_cut hp1 Hfw.out Hfp.out hfs)
  have Hpc7 := box_later (cells_box41 w6 sp ap lp cp pp) hb10
  have H67 : Below w6.heap.size w6 w7 := hb9.trans (hb10.mono (by simp))
  have Hwc7 := box_later Hwc6.out H67
  have H7 : Hid (Below w4.heap.size w4 w7) := H6.out.trans (H67.mono H6.out.size)
  have HN7 : Hid (Below w.heap.size w w7) := HB4.out.trans (H7.out.mono HB4.out.size)
  have Hro7 : Hid (RolesOk w7 aw lw) := Hfw.out.roles fun i hi => (Hroles4.out i hi).later H7.out
  have Hrow7 : Hid (RowAt w7 B 0 n ID A' L C' R') := Hrow4.out.later H7.out
  obtain ⟨wc0, wc1, wc2⟩ := Hwc7
  obtain ⟨pc0, pc1, pc2⟩ := Hpc7
  have s1 : w5.heap.size < w7.heap.size := cell_lt wc0
  have s2 : w6.heap.size < w7.heap.size := cell_lt pc0
  have hB7 : B < w7.heap.size := Nat.lt_of_lt_of_le Hbt.out.lt H7.out.size
  have HC7 := hid (HC4.out.later H7.out)
  clear hfs hb9 hb10 H67 Hwc6 Hf3' Hfw Hfp H6 H7 HC4 Hrow4 Hroles4 Hbt HB4 Hq HLL
  go_wp2_with fail
  go_loop [17, 18] (fun kv i => ∃ (j : Nat) (kz : Int), j ≤ n ∧ i = .int .i64 ((j : Int) - 1) ∧ kv = .int .i64 kz ∧ Scan (hitOf ID id) n j kz) (fun _ i => ((intOf i) + 1).toNat)
  case atStart => exact ⟨n, -1, Nat.le_refl _, rfl, rfl, Scan.start _ _⟩
  case round =>
    obtain ⟨j, kz, hj, rfl, rfl, hscan⟩ := hrel
    have Hscan := hid hscan
    clear hscan
    cases j with
    | succ j =>
      have c0 := HC7.out.idCell (show j < n by omega)
      have b1 := cell_lt c0
      have ej : ((j + 1 : Nat) : Int) - 1 = (j : Int) := by omega
      rw [ej]
      have hjn : (j : Int) < (n : Int) := by omega
      clear ej
      cases hh : ((ID j).toList == id.toList)
      · go_wp2
        go_round
        case rel => exact ⟨j, kz, by omega, rfl, rfl, Hscan.out.miss hh⟩
        case measure => simp [intOf]
      · go_wp2
        go_round
        case rel => exact ⟨j, j, by omega, rfl, rfl, Hscan.out.hit (by omega) hh⟩
        case measure => simp [intOf]
    | zero =>
      have ej : ((0 : Nat) : Int) - 1 = -1 := rfl
      rw [ej]
      clear ej hj
      rcases Hcut.out with ⟨k0, hk0, ⟨rfl, rfl, rfl, rfl, rfl⟩, rfl, hpar⟩ | ⟨hno, rfl, ⟨rfl, rfl, rfl, rfl, rfl⟩, rfl, rfl, rfl, rfl, rfl, rfl, rfl⟩
      · obtain rfl := Hscan.out.first hk0
        have hkn : (k0 : Int) < (n : Int) := by have := hk0.1; omega
        obtain ⟨bb0, bb1, bb2⟩ := Hrow7.out k0 hk0.1
        simp only [Nat.zero_add] at bb0 bb1 bb2
        have HPAR := hid hpar
        have dk : decide ((0 : Int) ≤ (k0 : Int)) = true := decide_eq_true (by omega)
        have dk2 : decide ((k0 : Int) < 0) = false := decide_eq_false (by omega)
        clear hpar hk0 Hscan Hcut
        go_wp2_with fail
        have hb8 : Below w7.heap.size w7 (w7.alloc (.cells #[.string ss, .slice as' ls cs, .pointer ps] 41)).drew := ((Below.refl _ _).alloc (Nat.le_refl _) _).drew
        have HPwc := hid (box_later ⟨wc0, wc1, wc2⟩ hb8)
        have HPpc := hid (box_later ⟨pc0, pc1, pc2⟩ hb8)
        have HPsc := hid (cells_box41d w7 ss as' ls cs ps)
        have Hro8 := hid (Hro7.out.later hb8)
        have HN8 : Hid (Below w.heap.size w (w7.alloc (.cells #[.string ss, .slice as' ls cs, .pointer ps] 41)).drew) := HN7.out.trans (hb8.mono HN7.out.size)
        clear hb8
        go_region_with (go_at_call 9; refine (same_any _ _ _ _ _ _ Hro8.out).mono ?_; rintro e w13 ⟨rfl, hb13⟩; obtain ⟨rw0, rw1, rw2⟩ := box_later HPwc.out hb13; obtain ⟨rp0, rp1, rp2⟩ := box_later HPpc.out hb13; obtain ⟨rs0, rs1, rs2⟩ := box_later HPsc.out hb13; have HR13 := hid (Hro8.out.later hb13); have HN13 := hid (HN8.out.trans (hb13.mono HN8.out.size)); clear hb13)
        all_goals
          clear wc0 wc1 wc2 pc0 pc1 pc2 bb0 bb1 bb2 HPwc HPpc HPsc Hro8 HN8
          rcases HPAR.out with ⟨rfl, rfl, rfl, rfl, rfl, rfl⟩ | ⟨rfl, rfl, rfl, rfl, rfl, rfl, rfl⟩
          all_goals
            clear HPAR
            go_wp2_with fail
            refine (same_any _ _ _ _ _ _ HR13.out).mono ?_
            rintro e w14 ⟨rfl, hb14⟩
            have HL14 := hid (HN13.out.trans (hb14.mono HN13.out.size))
            clear hb14
            go_wp2
            go_ret
            exact ⟨rfl, HL14.out⟩
      · obtain rfl := Hscan.out.none hno
        clear hno Hscan Hcut
        go_wp2_with fail
        go_quiet (fail)
        go_wp2_with fail
        refine (zero_any _).mono ?_
        rintro e w13 ⟨rfl, hb13⟩
        have hb8 : Below w7.heap.size w7 (w7.alloc (.cells #[.string ⟨#[]⟩, .slice none 0 0, .pointer none] 41)) := ((Below.refl _ _).alloc (Nat.le_refl _) _)
        have hb8' := below_drewN hb8 nq
        obtain ⟨rw0, rw1, rw2⟩ := box_later (box_later ⟨wc0, wc1, wc2⟩ hb8') hb13
        obtain ⟨rs0, rs1, rs2⟩ := box_later (cells_box41n w7 ⟨#[]⟩ none 0 0 none nq) hb13
        have HN13 := hid ((HN7.out.trans (hb8'.mono HN7.out.size)).trans (hb13.mono (Nat.le_trans HN7.out.size hb8'.size)))
        clear hb13 hb8 hb8' wc0 wc1 wc2 pc0 pc1 pc2
        go_wp2_with fail
        refine (same_any _ _ _ _ _ _ (roles_zero _ _)).mono ?_
        rintro e w14 ⟨rfl, hb14⟩
        have HL14 := hid (HN13.out.trans (hb14.mono HN13.out.size))
        clear hb14
        go_wp2
        go_ret
        exact ⟨rfl, HL14.out⟩
end Go.Proofs.Qxb6631315a
