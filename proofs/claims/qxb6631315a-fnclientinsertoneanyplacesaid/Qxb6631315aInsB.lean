import Derived.Test.Qxb6631315aLaws
import Derived.Test.Qxb6631315aBytes
import Derived.Test.Qxb6631315aZzi
namespace Go.Proofs.Qxb6631315a
open Go.RowKit
set_option linter.unusedSimpArgs false
set_option linter.unusedVariables false
attribute [local go_sem] q35 q38 q39 make22

set_option maxRecDepth 100000 in
set_option maxHeartbeats 4000000 in
theorem ins_zero (w : World) (a : Option Addr) (n c p : Nat) (ID : Nat → ByteArray) (A : Nat → Option Addr) (L C : Nat → Nat) (R : Nat → Option Addr) (xs : ByteArray) (xa : Option Addr) (xl xc : Nat) (xp : Option Addr) (id : ByteArray) (hxr : RolesOk w xa xl) (hxg : RegOk w xp) (h0 : n = 0)
    (g1 : n ≤ 65536) (g2 : id.size ≤ 1048576) (g3 : xs.size ≤ 1048576) (hp1 : p ≤ n) :
    Calls Try.prog 4 #[.slice a n c, .int .i64 (p : Int), .agg #[.string xs, .slice xa xl xc, .pointer xp], .string id] w fun e w' => e = .returned (.bool true) ∧ Below w.heap.size w w' := by
  have h : ClientsOk w a n ID A L C R := ⟨by omega, .inl h0⟩
  have HN0 := hid h0
  clear h0
  have hb1 : Below w.heap.size w (w.alloc (.cells #[.string xs, .slice xa xl xc, .pointer xp] 46)) := (Below.refl _ _).alloc (Nat.le_refl _) _
  have h1 := h.later hb1
  have hxr1 := hxr.later hb1
  have hxg1 := hxg.later hb1
  have HB1 := hid hb1
  clear hb1 h hxr hxg
  have d1 : decide (65536 < (n : Int)) = false := decide_eq_false (by omega)
  have d2 : decide (1048576 < (id.size : Int)) = false := decide_eq_false (by omega)
  have d3 : decide (1048576 < (xs.size : Int)) = false := decide_eq_false (by omega)
  have d4 : decide ((n : Int) < (p : Int)) = false := decide_eq_false (by omega)
  go_enter Try.func4, Try.ntmps4
  go_wp2_with fail
  refine (zzi_any _ _ _ _ _ _ _ _ _ _ _ _ _ _ _ _ (by omega) (by omega) hxr1 hxg1 h1).mono ?_
  rintro e w1 ⟨⟨t, rfl⟩, rfl⟩
  cases t
  · go_wp2
    go_ret
    exact ⟨rfl, HB1.out.alloc (by simp) _⟩
  go_wp2_with fail
  have fx := cells_box w xs xa xl xc xp
  generalize hX : (Obj.cells #[.string xs, .slice xa xl xc, .pointer xp] 46 : Obj) = X at *
  have HX := hid hX
  have Hfx := hid fx
  clear hX fx
  refine (bytes_any _ _ _ _ (fun _ => xs) (fun _ => xa) (fun _ => xl) (fun _ => xc) (fun _ => xp) _ (by omega) (by omega) ⟨by omega, .inr ⟨_, _, rfl, ?cells⟩⟩).mono ?_
  case cells =>
    have hb3 := below_two (w.alloc X) X X
    intro i hi
    obtain rfl : i = 0 := by omega
    rw [← HX.out]
    refine ⟨by simp [go_sem], by simp [go_sem], by simp [go_sem], (by show xs.size ≤ _; omega), ?_, ?_⟩
    · rw [HX.out]; exact hxr1.later hb3
    · rw [HX.out]; exact hxg1.later hb3
  rintro e w1 ⟨⟨t, rfl, ht1, ht2⟩, rfl⟩
  by_cases ht0 : t < 0
  · go_wp2
    go_ret
    exact ⟨rfl, (HB1.out.alloc (by simp) _).alloc (by simp; omega) _⟩
  go_wp2_with fail
  refine (bytes_any _ _ _ _ ID A L C R _ (by omega) (by omega) (h1.later (below_two _ _ _))).mono ?_
  rintro e w1 ⟨⟨t2, rfl, ht3, ht4⟩, rfl⟩
  by_cases ht5 : t2 < 0
  · go_wp2
    go_ret
    exact ⟨rfl, (HB1.out.alloc (by simp) _).alloc (by simp; omega) _⟩
  have hxl := ht2 (by omega) 0 (by omega)
  have hLL := ht4 (by omega)
  have HLL := hid hLL
  clear ht2 ht4 hLL
  go_wp2_with fail
  have hb3 := below_two (w.alloc X) X X
  have h3 := h1.later hb3
  have hxr3 := hxr1.later hb3
  have hxg3 := hxg1.later hb3
  have HB3 := hid hb3
  clear h1 hxr1 hxg1 hb3
  generalize hW3 : ((w.alloc X).alloc X).alloc X = w3 at *
  have HW3 := hid hW3
  clear hW3
  refine (all_any _ _ _ _ _ _ _ _ _ g1 h3 HLL.out).mono ?_
  rintro e w4 ⟨⟨B, A', C', R', rfl, hB, hbt⟩, hb4⟩
  have hxr4 := hxr3.later hb4
  have hxg4 := hxg3.later hb4
  have HB4 : Hid (Below (w.alloc X).heap.size (w.alloc X) w4) := HB3.out.trans (hb4.mono HB3.out.size)
  obtain ⟨fx0, fx1, fx2⟩ := box_later Hfx.out HB4.out
  have Hbt := hid hbt
  have HH4 := hid hb4
  clear hbt hb4 hxr3 hxg3
  go_wp2_with fail
  refine (conv_any _ _ _ _ _ _ hxl hxr4 hxg4).mono ?_
  rintro e w5 ⟨⟨xa', xc', xp', rfl, hxro, hxfr⟩, hb5⟩
  have Hxro := hid hxro
  have Hb5 := hid hb5
  clear hxro hxfr hb5
  obtain ⟨i41, hi41, hz41, hs41, hby41⟩ := info_parts info41
  have HI := hid hi41
  have HZ := hid hz41
  have HS := hid hs41
  have HBY := hid hby41
  clear hi41 hz41 hs41 hby41 fx0 fx1 fx2
  have Hrow5 : Hid (RowAt w5 B 0 n ID A' L C' R') := Hbt.out.rowAt.later Hb5.out
  have hB5 : B < w5.heap.size := Nat.lt_of_lt_of_le Hbt.out.lt Hb5.out.size
  obtain ⟨q, Hq, hcut⟩ := cut_tail B n p hp1
  go_wp2_with (first
    | (at_make; refine wpList_make_own _ rfl _ _ 25 rfl w5.heap.size 41 i41 _ 3 Try.underlying25 HI.out HZ.out HS.out .i64 .i64 _ (n + 1) rfl rfl (by omega) (by rw [HBY.out]; omega) (by unfold maxLen; omega) (by simp) ?_; intro w6 hown6 hgr6; simp only [World.size_alloc] at hown6; have Hown6 := hid hown6; have Hgr6 := hid hgr6; clear hown6 hgr6; have Hb6 := hid (after_make Hgr6.out))
    | (at_builtin; refine wpList_append_fits _ rfl (.tmp 73) (.tmp 76) 25 rfl w5.heap.size 41 i41 3 Try.underlying25 HI.out HS.out _ 0 (n + 1) [] rfl Hown6.out ⟨B, 0, none⟩ p n (rows (fun i => trip (ID i) (A' i) (L i) (C' i) (R' i)) p) rfl (rows_length _ (fun i => rfl) p) (by simpa using (Hrow5.out.later (below_of1 Hb6.out)).src 0 p (by omega)) (rows_one _ _ _ _ _ _) (by omega) ?_; intro w7 hown7 hgr7; simp only [Nat.zero_add, List.nil_append] at hown7; have Hown7 := hid hown7; have Hgr7 := hid hgr7; clear hown7 hgr7; have Hb7 := hid (after_app Hb6.out Hgr7.out (by simp)); obtain ⟨fc0, fc1, fc2⟩ := box_later (cells_box41 w5 xs xa' xl xc' xp') Hb7.out)
    | (at_builtin; refine wpList_append_fits _ rfl (.tmp 78) (.tmp 80) 25 rfl w5.heap.size 41 i41 3 Try.underlying25 HI.out HS.out _ p (n + 1) _ rfl (Hown7.out.alloc _) ⟨w7.heap.size, 0, none⟩ 1 1 (trip xs xa' xl xc' xp') rfl rfl (trip_cells _ _ _ _ _ _) (trip_one _ _ _ _ _) (by omega) ?_; intro w8 hown8 hgr8; have Hown8 := hid hown8; have Hgr8 := hid hgr8; clear hown8 hgr8; have Hb8 := hid (after_app (Hb7.out.alloc Hb7.out.size _) Hgr8.out (by simp)))
    | (at_builtin; refine wpList_append_fits_any _ rfl (.tmp 82) (.tmp 85) 25 rfl w5.heap.size 41 i41 3 Try.underlying25 HI.out HS.out _ (p + 1) (n + 1) _ rfl Hown8.out _ (n - p) (n - p) (rows (fun i => trip (ID (p + i)) (A' (p + i)) (L (p + i)) (C' (p + i)) (R' (p + i))) (n - p)) rfl (rows_length _ (fun i => rfl) (n - p)) (by intro h; cases h) (src_from (Hrow5.out.later (below_of1 Hb8.out)) (by omega) (by intro h; rw [Hq.out h])) (rows_one _ _ _ _ _ _) (by omega) ?_; intro w9 hown9 hgr9; rw [rows_put] at hown9; have Hown9 := hid hown9; have Hgr9 := hid hgr9; clear hown9 hgr9; have Hb9 := hid (after_app Hb8.out Hgr9.out (by simp))))
  have hbW := hid (below_two w9 (.cells #[.string ⟨#[]⟩, .string ⟨#[]⟩, .string ⟨#[]⟩, .int .i64 0, .int .i64 0, .int .i64 0, .int .i64 0, .int .i64 0, .int .i64 0, .int .i64 0, .int .i64 0, .pointer none, .int .i64 0, .slice none 0 0, .slice (some ⟨B, 0, none⟩) n n] 37)
    (.cells #[.string ⟨#[]⟩, .string ⟨#[]⟩, .string ⟨#[]⟩, .int .i64 0, .int .i64 0, .int .i64 0, .int .i64 0, .int .i64 0, .int .i64 0, .int .i64 0, .int .i64 0, .pointer none, .int .i64 0, .slice none 0 0, .slice (some ⟨w5.heap.size + 1, 0, none⟩) (p + 1 + (n - p)) (n + 1)] 37))
  have fcb : Hid (((w9.alloc (.cells #[.string ⟨#[]⟩, .string ⟨#[]⟩, .string ⟨#[]⟩, .int .i64 0, .int .i64 0, .int .i64 0, .int .i64 0, .int .i64 0, .int .i64 0, .int .i64 0, .int .i64 0, .pointer none, .int .i64 0, .slice none 0 0, .slice (some ⟨B, 0, none⟩) n n] 37)).alloc
    (.cells #[.string ⟨#[]⟩, .string ⟨#[]⟩, .string ⟨#[]⟩, .int .i64 0, .int .i64 0, .int .i64 0, .int .i64 0, .int .i64 0, .int .i64 0, .int .i64 0, .int .i64 0, .pointer none, .int .i64 0, .slice none 0 0, .slice (some ⟨w5.heap.size + 1, 0, none⟩) (p + 1 + (n - p)) (n + 1)] 37)).cell? ⟨w9.heap.size, 14, none⟩ = some (.slice (some ⟨B, 0, none⟩) n n)) := by
    refine hid ?_; simp [go_sem]
  have fca : Hid (((w9.alloc (.cells #[.string ⟨#[]⟩, .string ⟨#[]⟩, .string ⟨#[]⟩, .int .i64 0, .int .i64 0, .int .i64 0, .int .i64 0, .int .i64 0, .int .i64 0, .int .i64 0, .int .i64 0, .pointer none, .int .i64 0, .slice none 0 0, .slice (some ⟨B, 0, none⟩) n n] 37)).alloc
    (.cells #[.string ⟨#[]⟩, .string ⟨#[]⟩, .string ⟨#[]⟩, .int .i64 0, .int .i64 0, .int .i64 0, .int .i64 0, .int .i64 0, .int .i64 0, .int .i64 0, .int .i64 0, .pointer none, .int .i64 0, .slice none 0 0, .slice (some ⟨w5.heap.size + 1, 0, none⟩) (p + 1 + (n - p)) (n + 1)] 37)).cell? ⟨w9.heap.size + 1, 14, none⟩ = some (.slice (some ⟨w5.heap.size + 1, 0, none⟩) (p + 1 + (n - p)) (n + 1))) := by
    refine hid ?_; simp [go_sem]
  have Hrow9 : Hid (RowAt w9 B 0 n ID A' L C' R') := Hrow5.out.later (below_of1 Hb9.out)
  have Haft9 : Hid (RowAt w9 (w5.heap.size + 1) 0 (p + 1 + (n - p)) (put p xs ID) (put p xa' A') (put p xl L) (put p xc' C') (put p xp' R')) := hid (rowAt_owned (base := w5.heap.size) (cap := n + 1) (by rw [← put_trip_fun]; exact Hown9.out))
  have Hxc9 := hid (box_later (cells_box41 w5 xs xa' xl xc' xp') Hb9.out)
  have Hx9 := hid (box_later Hfx.out (HB4.out.trans ((Hb5.out.trans ((below_of1 Hb9.out).mono (Nat.le_refl _) |>.mono Hb5.out.size)).mono HB4.out.size)))
  have Hroles9 : Hid (∀ i, i < n → RolesOk w9 (A' i) (L i)) := hid fun i hi => ((Hbt.out.cells hi).2.2.2.later Hb5.out).later (below_of1 Hb9.out)
  have Hxro9 : Hid (RolesOk w9 xa' xl) := Hxro.out.later (below_of1 Hb9.out)
  have HN9 : Hid (Below w.heap.size w w9) := HB1.out.trans ((HB4.out.trans ((Hb5.out.trans ((below_of1 Hb9.out).mono Hb5.out.size)).mono HB4.out.size)).mono (by simp))
  have HC9 := hid (h3.later (HH4.out.trans ((Hb5.out.trans ((below_of1 Hb9.out).mono Hb5.out.size)).mono HH4.out.size)))
  clear Hown6 Hown7 Hown8 Hown9 Hgr6 Hgr7 Hgr8 Hgr9 Hb6 Hb7 Hb8 Hb9 fc0 fc1 fc2 Hrow5 HI HZ HS HBY Hxro Hbt hcut Hq HB4 HH4 Hb5 HB3 Hfx HX HW3 hxr4 hxg4 h3 HLL HB1
  refine (client_at _ w9.heap.size B 0 n n ID A' L C' R' id (by omega) fcb.out (Hrow9.out.later hbW.out)).mono ?_
  rintro e w10 ⟨⟨sb, ab, lb, cb, pb, bok, rfl, hfb⟩, hb10⟩
  have Hfb := hid hfb
  have H10 : Hid (Below w9.heap.size w9 w10) := hbW.out.trans (hb10.mono (by simp; omega))
  have fca10 := below_cell hb10 fca.out
  have Hfca10 := hid fca10
  clear hfb hb10 fca10 fcb fca hbW
  go_wp2_with fail
  have hb11 : Below w10.heap.size w10 (w10.alloc (.cells #[.string sb, .slice ab lb cb, .pointer pb] 41)) := (Below.refl _ _).alloc (Nat.le_refl _) _
  refine (client_at _ (w9.heap.size + 1) (w5.heap.size + 1) 0 (p + 1 + (n - p)) (n + 1) (put p xs ID) (put p xa' A') (put p xl L) (put p xc' C') (put p xp' R') id (by omega) (below_cell hb11 Hfca10.out) ((Haft9.out.later H10.out).later hb11)).mono ?_
  rintro e w11 ⟨⟨sa, aa, la, ca, pa, aok, rfl, hfa⟩, hb12⟩
  have hpn : p + 1 + (n - p) = n + 1 := by omega
  rw [hpn] at hfa
  obtain ⟨F1, F2, F3, F4, F5⟩ := found_put hp1 Hfb.out hfa
  have H11 : Hid (Below w9.heap.size w9 w11) := H10.out.trans ((hb11.trans (hb12.mono (by simp))).mono H10.out.size)
  have Hro11 : Hid (RolesOk w11 aa la) := hfa.roles fun i hi => by
    simp only [put]
    split
    · exact (Hroles9.out i (by omega)).later H11.out
    · split
      · exact Hxro9.out.later H11.out
      · exact (Hroles9.out (i - 1) (by omega)).later H11.out
  have e1 := box_later Hxc9.out H11.out
  obtain ⟨xc0, xc1, xc2⟩ := e1
  have e2 := box_later Hx9.out H11.out
  obtain ⟨x0, x1, x2⟩ := e2
  have e3 := box_later (cells_box41 w10 sb ab lb cb pb) hb12
  obtain ⟨bc0, bc1, bc2⟩ := e3
  have s1 : w.heap.size < w11.heap.size := cell_lt x0
  have s2 : w5.heap.size < w11.heap.size := cell_lt xc0
  have s3 : w10.heap.size < w11.heap.size := cell_lt bc0
  have HC11 := hid (HC9.out.later H11.out)
  have HN11 : Hid (Below w.heap.size w w11) := HN9.out.trans (H11.out.mono HN9.out.size)
  have HF1 := hid F1
  have HF2 := hid F2
  have HF3 := hid F3
  have HF4 := hid F4
  have HF5 := hid F5
  clear F1 F2 F3 F4 F5 hfa hb11 hb12 HC9 HN9 H10 H11 Hxro9 Hroles9 Hx9 Hxc9 Haft9 Hrow9 Hfca10 Hfb hpn
  go_wp2_with fail
  have hz0 : (n : Int) ≤ 0 := by have := HN0.out; omega
  have e1 : anyB (hitOf ID id) n = false := by rw [HN0.out]; rfl
  have e2 : anyB (hitOf ID id) p = false := anyB_false fun i hi => by have := HN0.out; omega
  have hbok := HF1.out
  have haok := HF2.out
  rw [e1] at hbok haok
  subst hbok
  refine wp_loop_rounds 1 ?_
  rw [rounds_succ]
  cases hx : (xs.toList == id.toList)
  · obtain ⟨rfl, rfl, rfl, rfl, rfl⟩ := HF5.out hx
    simp only [hx, Bool.or_false, Bool.or_true] at haok
    subst haok
    clear HF1 HF2 HF3 HF4 HF5 e1 e2 HN0
    go_wp2_with fail
    refine (same_any _ _ _ _ _ _ (Hro11.out.later ((Below.refl _ _).alloc (Nat.le_refl _) _))).mono ?_
    rintro e w13 ⟨rfl, hb13⟩
    have HL13 := hid hb13
    clear hb13
    go_wp2
    go_ret
    exact ⟨rfl, HN11.out.trans ((((Below.refl _ _).alloc (Nat.le_refl _) _).trans (HL13.out.mono (by simp))).mono HN11.out.size)⟩
  · obtain ⟨rfl, rfl, rfl, rfl, rfl⟩ := HF3.out hx e2
    simp only [hx, Bool.or_false, Bool.or_true] at haok
    subst haok
    clear HF1 HF2 HF3 HF4 HF5 e1 e2 HN0
    go_wp2_with fail
    refine (same_any _ _ _ _ _ _ (Hro11.out.later ((Below.refl _ _).alloc (Nat.le_refl _) _))).mono ?_
    rintro e w13 ⟨rfl, hb13⟩
    have HL13 := hid hb13
    clear hb13
    go_wp2
    go_ret
    exact ⟨rfl, HN11.out.trans ((((Below.refl _ _).alloc (Nat.le_refl _) _).trans (HL13.out.mono (by simp))).mono HN11.out.size)⟩
end Go.Proofs.Qxb6631315a
