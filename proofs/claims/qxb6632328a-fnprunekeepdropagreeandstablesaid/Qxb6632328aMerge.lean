import Derived.Test.Qxb6632328aMarks
import Derived.Test.Qxb6632328aPlain
namespace Go.Proofs.Qxb6632328a
open Go.RowKit
set_option linter.unusedVariables false
set_option linter.unusedSimpArgs false

/-- A full row of stamps of the call's own. -/
def RowOut (w : World) (n : Nat) (f : Nat → Value) (e : Ending) (w' : World) : Prop := ∃ G, w.heap.size ≤ G ∧ e = .returned (.slice (some ⟨G, 0, none⟩) n n) ∧ w'.rowIs G 24 n f

/-! ### pruneKeptStamps, pruneStamps -/
theorem kst_zero (w : World) (a : Option Addr) (c : Nat) (V : Nat → Ver) :
    Calls Try.prog 15 #[.slice a 0 c] w fun e w' => RowOut w 0 (fun i => .int .u64 ((V i).t : Int)) e w' ∧ Below w.heap.size w w' := by
  have hmk : ∀ w : World, (Instr.makeSlice 23 (.int .i64 0) (.int .i64 0)).run Try.prog w = .ok (.slice (some ⟨w.heap.size, 0, none⟩) 0 0) (w.alloc (.cells (madeCells #[.int .u64 0] 0) 24)) :=
    run_make_row' (P := Try.prog) 23 24 (.int .u64 0) 8 Try.underlying23 info24 rfl .i64 .i64 0 (by omega) (by omega)
  have H0 := hid (World.rowIs_made w (.int .u64 0) 0 24)
  go_enter Try.func15, Try.ntmps15
  go_wp2
  refine wp_loop_rounds 1 ?_
  rw [rounds_succ]
  go_wp2
  go_ret
  exact ⟨⟨_, Nat.le_refl _, rfl, H0.out.congr fun i hi => by omega⟩, below_one _ _⟩
theorem kst_some (w : World) (b o n c : Nat) (V : Nat → Ver) (hn : n ≤ 32768) (h : RowV w b o n V) :
    Calls Try.prog 15 #[.slice (some ⟨b, o, none⟩) n c] w fun e w' => RowOut w n (fun i => .int .u64 ((V i).t : Int)) e w' ∧ Below w.heap.size w w' := by
  have hmk := run_make_row' (P := Try.prog) 23 24 (.int .u64 0) 8 Try.underlying23 info24 rfl .i64 .i64 n (by omega) (by omega)
  have HV := hid h
  clear h
  go_enter Try.func15, Try.ntmps15
  go_wp2
  clear hmk
  go_loopw [4] (fun i wr => ∃ k : Nat, k ≤ n ∧ i = .int .i64 k ∧ Below w.heap.size w wr ∧ wr.rowIs w.heap.size 24 n (fun j => if j < k then .int .u64 ((V j).t : Int) else .int .u64 0)) (fun i _ => n - (intOf i).toNat)
  case atStart => exact ⟨0, Nat.zero_le _, rfl, below_one _ _, by simpa using World.rowIs_made w (.int .u64 0) n 24⟩
  case round =>
    obtain ⟨k, hk, rfl, hb, hrow⟩ := hrel
    by_cases hlt : k < n
    · have f0 := (HV.out k hlt).2
      have f0' := below_cell hb f0
      have g0 := hrow.cell (i := k) hlt
      have g2 := hrow.frozen k
      have hlt' : (k : Int) < (n : Int) := by omega
      have Hb := hid hb
      have Hrow := hid hrow
      clear hb hrow f0
      simp only [Nat.lt_irrefl, if_false] at g0
      go_wp2
      go_roundw
      case rel =>
        refine ⟨k + 1, by omega, by go_num, Hb.out.setCell (Nat.le_refl _) _, (Hrow.out.set k _).congr fun i hi => ?_⟩
        by_cases hik : i = k
        · subst hik; simp
        · simp only [hik, if_false]
          by_cases h2 : i < k
          · simp [h2, show i < k + 1 by omega]
          · simp [h2, show ¬ i < k + 1 by omega]
      case measure => simp [intOf]; omega
    · obtain rfl : k = n := by omega
      have Hb := hid hb
      have Hrow := hid hrow
      clear hb hrow
      go_wp2
      go_ret
      exact ⟨⟨_, Nat.le_refl _, rfl, Hrow.out.congr fun i hi => by simp [hi]⟩, Hb.out⟩
theorem kst_any (w : World) (a : Option Addr) (n c : Nat) (V : Nat → Ver) (hn : n ≤ 32768) (h : VsOk w a n V) :
    Calls Try.prog 15 #[.slice a n c] w fun e w' => RowOut w n (fun i => .int .u64 ((V i).t : Int)) e w' ∧ Below w.heap.size w w' := by
  obtain ⟨_, h, _⟩ := h
  rcases h with rfl | ⟨b, o, rfl, hr⟩
  · exact kst_zero w a c V
  · exact kst_some w b o n c V hn hr

theorem dst_zero (w : World) (a : Option Addr) (c : Nat) (U : Nat → Nat) :
    Calls Try.prog 16 #[.slice a 0 c] w fun e w' => RowOut w 0 (fun i => .int .u64 (U i : Int)) e w' ∧ Below w.heap.size w w' := by
  have hmk : ∀ w : World, (Instr.makeSlice 23 (.int .i64 0) (.int .i64 0)).run Try.prog w = .ok (.slice (some ⟨w.heap.size, 0, none⟩) 0 0) (w.alloc (.cells (madeCells #[.int .u64 0] 0) 24)) :=
    run_make_row' (P := Try.prog) 23 24 (.int .u64 0) 8 Try.underlying23 info24 rfl .i64 .i64 0 (by omega) (by omega)
  have H0 := hid (World.rowIs_made w (.int .u64 0) 0 24)
  go_enter Try.func16, Try.ntmps16
  go_wp2
  refine wp_loop_rounds 1 ?_
  rw [rounds_succ]
  go_wp2
  go_ret
  exact ⟨⟨_, Nat.le_refl _, rfl, H0.out.congr fun i hi => by omega⟩, below_one _ _⟩
theorem dst_some (w : World) (b o n c : Nat) (U : Nat → Nat) (hn : n ≤ 32768) (h : RowU w b o n U) :
    Calls Try.prog 16 #[.slice (some ⟨b, o, none⟩) n c] w fun e w' => RowOut w n (fun i => .int .u64 (U i : Int)) e w' ∧ Below w.heap.size w w' := by
  have hmk := run_make_row' (P := Try.prog) 23 24 (.int .u64 0) 8 Try.underlying23 info24 rfl .i64 .i64 n (by omega) (by omega)
  have HV := hid h
  clear h
  go_enter Try.func16, Try.ntmps16
  go_wp2
  clear hmk
  go_loopw [4] (fun i wr => ∃ k : Nat, k ≤ n ∧ i = .int .i64 k ∧ Below w.heap.size w wr ∧ wr.rowIs w.heap.size 24 n (fun j => if j < k then .int .u64 (U j : Int) else .int .u64 0)) (fun i _ => n - (intOf i).toNat)
  case atStart => exact ⟨0, Nat.zero_le _, rfl, below_one _ _, by simpa using World.rowIs_made w (.int .u64 0) n 24⟩
  case round =>
    obtain ⟨k, hk, rfl, hb, hrow⟩ := hrel
    by_cases hlt : k < n
    · have f0 := HV.out k hlt
      have f0' := below_cell hb f0
      have g0 := hrow.cell (i := k) hlt
      have g2 := hrow.frozen k
      have hlt' : (k : Int) < (n : Int) := by omega
      have Hb := hid hb
      have Hrow := hid hrow
      clear hb hrow f0
      simp only [Nat.lt_irrefl, if_false] at g0
      go_wp2
      go_roundw
      case rel =>
        refine ⟨k + 1, by omega, by go_num, Hb.out.setCell (Nat.le_refl _) _, (Hrow.out.set k _).congr fun i hi => ?_⟩
        by_cases hik : i = k
        · subst hik; simp
        · simp only [hik, if_false]
          by_cases h2 : i < k
          · simp [h2, show i < k + 1 by omega]
          · simp [h2, show ¬ i < k + 1 by omega]
      case measure => simp [intOf]; omega
    · obtain rfl : k = n := by omega
      have Hb := hid hb
      have Hrow := hid hrow
      clear hb hrow
      go_wp2
      go_ret
      exact ⟨⟨_, Nat.le_refl _, rfl, Hrow.out.congr fun i hi => by simp [hi]⟩, Hb.out⟩
theorem dst_any (w : World) (a : Option Addr) (n c : Nat) (U : Nat → Nat) (hn : n ≤ 32768) (h : UsOk w a n U) :
    Calls Try.prog 16 #[.slice a n c] w fun e w' => RowOut w n (fun i => .int .u64 (U i : Int)) e w' ∧ Below w.heap.size w w' := by
  obtain ⟨_, h, _⟩ := h
  rcases h with rfl | ⟨b, o, rfl, hr⟩
  · exact dst_zero w a c U
  · exact dst_some w b o n c U hn hr

/-! ### pruneMerge -/
def lst (n : Nat) (U : Nat → Nat) : List Nat := (List.range n).map U
theorem lst_len (n : Nat) (U : Nat → Nat) : (lst n U).length = n := by simp [lst]
theorem lst_drop (n : Nat) (U : Nat → Nat) (i : Nat) (h : i < n) : (lst n U).drop i = U i :: (lst n U).drop (i + 1) := by
  rw [List.drop_eq_getElem_cons (by rw [lst_len]; exact h)]
  simp [lst]
theorem lst_end (n : Nat) (U : Nat → Nat) : (lst n U).drop n = [] := List.drop_eq_nil_of_le (by rw [lst_len]; exact Nat.le_refl _)
def MergeRel (w : World) (n n' : Nat) (U U' : Nat → Nat) (ov iv jv : Value) (wr : World) : Prop :=
  ∃ (i j : Nat) (os : List Nat), i ≤ n ∧ j ≤ n' ∧ iv = .int .i64 (i : Int) ∧ jv = .int .i64 (j : Int) ∧ ov = .slice (some ⟨w.heap.size, 0, none⟩) os.length (n + n') ∧ os.length = i + j ∧
    os ++ mergeL ((lst n U).drop i) ((lst n' U').drop j) = mergeL (lst n U) (lst n' U') ∧ wr.rowIs w.heap.size 24 (n + n') (rowN .u64 os) ∧ Below w.heap.size w wr
theorem merge_left {w wr w3 : World} {n n' i j nq x : Nat} {U U' : Nat → Nat} {os : List Nat} (hi : i < n) (hj : j ≤ n') (hlen : os.length = i + j) (hos : os ++ mergeL ((lst n U).drop i) ((lst n' U').drop j) = mergeL (lst n U) (lst n' U'))
    (e : mergeL ((lst n U).drop i) ((lst n' U').drop j) = x :: mergeL ((lst n U).drop (i + 1)) ((lst n' U').drop j)) (hb : Below w.heap.size w wr) (hr : w3.rowIs w.heap.size 24 (n + n') (rowN .u64 (os ++ [x]))) (hh : Hole (wr.drewN nq).heap.size w.heap.size (wr.drewN nq) w3) :
    MergeRel w n n' U U' (.slice (some ⟨w.heap.size, 0, none⟩) (os.length + 1) (n + n')) (.int .i64 ((i : Int) + 1)) (.int .i64 (j : Int)) w3 :=
  ⟨i + 1, j, os ++ [x], hi, hj, by simp, rfl, by simp, by simp; omega, by rw [← hos, e]; simp, hr, (below_drewN hb nq).trans (hh.below (below_drewN hb nq).size (Nat.le_refl _))⟩
theorem merge_right {w wr w3 : World} {n n' i j nq x : Nat} {U U' : Nat → Nat} {os : List Nat} (hi : i ≤ n) (hj : j < n') (hlen : os.length = i + j) (hos : os ++ mergeL ((lst n U).drop i) ((lst n' U').drop j) = mergeL (lst n U) (lst n' U'))
    (e : mergeL ((lst n U).drop i) ((lst n' U').drop j) = x :: mergeL ((lst n U).drop i) ((lst n' U').drop (j + 1))) (hb : Below w.heap.size w wr) (hr : w3.rowIs w.heap.size 24 (n + n') (rowN .u64 (os ++ [x]))) (hh : Hole (wr.drewN nq).heap.size w.heap.size (wr.drewN nq) w3) :
    MergeRel w n n' U U' (.slice (some ⟨w.heap.size, 0, none⟩) (os.length + 1) (n + n')) (.int .i64 (i : Int)) (.int .i64 ((j : Int) + 1)) w3 :=
  ⟨i, j + 1, os ++ [x], hi, hj, rfl, by simp, by simp, by simp; omega, by rw [← hos, e]; simp, hr, (below_drewN hb nq).trans (hh.below (below_drewN hb nq).size (Nat.le_refl _))⟩
set_option maxHeartbeats 4000000 in
theorem merge_any (w : World) (a : Option Addr) (n c : Nat) (U : Nat → Nat) (a' : Option Addr) (n' c' : Nat) (U' : Nat → Nat) (hn : n ≤ 131072) (hn' : n' ≤ 131072) (h : UsOk w a n U) (h' : UsOk w a' n' U') :
    Calls Try.prog 17 #[.slice a n c, .slice a' n' c'] w fun e w' => RowOut w (n + n') (rowN .u64 (mergeL (lst n U) (lst n' U'))) e w' ∧ Below w.heap.size w w' := by
  have hmk : ∀ w : World, (Instr.makeSlice 23 (.int .i64 0) (.int .i64 ((n : Int) + (n' : Int)))).run Try.prog w = .ok (.slice (some ⟨w.heap.size, 0, none⟩) 0 (n + n')) (w.alloc (.cells (madeCells #[.int .u64 0] (n + n')) 24)) := by
    intro w
    have := make_room 23 24 .u64 Try.underlying23 info24 (n + n') (by omega) w
    rwa [Int.natCast_add] at this
  have H1 := hid h
  have H2 := hid h'
  clear h h'
  go_enter Try.func17, Try.ntmps17
  go_wp2
  clear hmk
  go_loopw [5, 6, 7] (MergeRel w n n' U U') (fun _ i j _ => (n - (intOf i).toNat) + (n' - (intOf j).toNat))
  case atStart => exact ⟨0, 0, [], Nat.zero_le _, Nat.zero_le _, rfl, rfl, rfl, rfl, rfl, (World.rowIs_made w (.int .u64 0) (n + n') 24).congr fun i hi => by simp [rowN], below_one _ _⟩
  case round =>
    obtain ⟨i, j, os, hi, hj, rfl, rfl, rfl, hlen, hos, hrow, hb⟩ := hrel
    have Hlen := hid hlen
    have Hos := hid hos
    have Hrow := hid hrow
    have Hb := hid hb
    clear hlen hos hrow
    by_cases hli : i < n
    · have hU := H1.out
      obtain ⟨_, hU, _⟩ := hU
      rcases hU with h0 | ⟨b, o, ea, hcells⟩
      · omega
      subst ea
      have f := below_cell hb (hcells i hli)
      clear hcells
      have hli' : (i : Int) < (n : Int) := by omega
      have Hq : Hid (os.length < n + n') := hid (by have := Hlen.out; omega)
      by_cases hlj : j < n'
      · have hU := H2.out
        obtain ⟨_, hU, _⟩ := hU
        rcases hU with h0 | ⟨b', o', ea, hcells⟩
        · omega
        subst ea
        have f' := below_cell hb (hcells j hlj)
        clear hcells hb
        have hlj' : (j : Int) < (n' : Int) := by omega
        have hljd : decide ((n' : Int) ≤ (j : Int)) = false := by simp; omega
        have E : Hid (mergeL ((lst n U).drop i) ((lst n' U').drop j) = if U i ≤ U' j then U i :: mergeL ((lst n U).drop (i + 1)) ((lst n' U').drop j) else U' j :: mergeL ((lst n U).drop i) ((lst n' U').drop (j + 1))) := hid (by
          rw [lst_drop n U i hli, lst_drop n' U' j hlj]; exact mergeL_cons _ _ _ _)
        generalize U i = x at f E
        generalize U' j = y at f' E
        by_cases hxy : x ≤ y
        · have hxy' : (x : Int) ≤ (y : Int) := by omega
          go_wp2
          go_quiet (fail)
          go_wp2_with (at_builtin; refine wpList_fit rfl (.tmp 45) (.tmp 50) 23 24 .u64 Try.underlying23 info24 rfl w.heap.size (n + n') os x rfl _ rfl (by simp) (Hrow.out.of_block rfl) Hq.out ?_; intro w3 hr3 hh3; have Hr3 := hid hr3; have Hh3 := hid hh3; clear hr3 hh3)
          refine ⟨merge_left hli hj Hlen.out Hos.out (by rw [E.out, if_pos hxy]) Hb.out Hr3.out Hh3.out, ?_⟩
          simp [intOf]; omega
        · have hxy' : (y : Int) < (x : Int) := by omega
          go_wp2
          go_quiet (fail)
          go_wp2_with (at_builtin; refine wpList_fit rfl (.tmp 54) (.tmp 59) 23 24 .u64 Try.underlying23 info24 rfl w.heap.size (n + n') os y rfl _ rfl (by simp) (Hrow.out.of_block rfl) Hq.out ?_; intro w3 hr3 hh3; have Hr3 := hid hr3; have Hh3 := hid hh3; clear hr3 hh3)
          refine ⟨merge_right hi hlj Hlen.out Hos.out (by rw [E.out, if_neg hxy]) Hb.out Hr3.out Hh3.out, ?_⟩
          simp [intOf]; omega
      · obtain rfl : n' = j := by omega
        clear hb
        have E : Hid (mergeL ((lst n U).drop i) ((lst n' U').drop n') = U i :: mergeL ((lst n U).drop (i + 1)) ((lst n' U').drop n')) := hid (by
          rw [lst_drop n U i hli, lst_end, mergeL_nil, mergeL_nil])
        generalize U i = x at f E
        have hjd : decide ((n' : Int) ≤ (n' : Int)) = true := by simp
        go_wp2
        go_quiet (fail)
        go_wp2_with (at_builtin; refine wpList_fit rfl (.tmp 45) (.tmp 50) 23 24 .u64 Try.underlying23 info24 rfl w.heap.size (n + n') os x rfl _ rfl (by simp) (Hrow.out.of_block rfl) Hq.out ?_; intro w3 hr3 hh3; have Hr3 := hid hr3; have Hh3 := hid hh3; clear hr3 hh3)
        refine ⟨merge_left hli hj Hlen.out Hos.out E.out Hb.out Hr3.out Hh3.out, ?_⟩
        simp [intOf]; omega
    · have HE : Hid (n = i) := hid (by omega)
      have hni' : (n : Int) ≤ (i : Int) := by omega
      by_cases hlj : j < n'
      · have hU := H2.out
        obtain ⟨_, hU, _⟩ := hU
        rcases hU with h0 | ⟨b', o', ea, hcells⟩
        · omega
        subst ea
        have f' := below_cell hb (hcells j hlj)
        clear hcells hb
        have hlj' : (j : Int) < (n' : Int) := by omega
        have Hq : Hid (os.length < n + n') := hid (by have := Hlen.out; omega)
        have hljd : decide ((n' : Int) ≤ (j : Int)) = false := by simp; omega
        have hid1 : decide ((i : Int) < (n : Int)) = false := by simp; omega
        have E : Hid (mergeL ((lst n U).drop i) ((lst n' U').drop j) = U' j :: mergeL ((lst n U).drop i) ((lst n' U').drop (j + 1))) := hid (by
          rw [← HE.out, lst_drop n' U' j hlj, lst_end, mergeL_nil', mergeL_nil'])
        generalize U' j = y at f' E
        have hN1 : decide (n' ≤ j) = false := by simp; omega
        have hN2 : decide (i < n) = false := by simp; omega
        go_wp2
        go_quiet (fail)
        go_wp2_with (at_builtin; refine wpList_fit rfl (.tmp 54) (.tmp 59) 23 24 .u64 Try.underlying23 info24 rfl w.heap.size (n + n') os y rfl _ rfl (by simp) (Hrow.out.of_block rfl) Hq.out ?_; intro w3 hr3 hh3; have Hr3 := hid hr3; have Hh3 := hid hh3; clear hr3 hh3)
        refine ⟨merge_right hi hlj Hlen.out Hos.out E.out Hb.out Hr3.out Hh3.out, ?_⟩
        simp [intOf]; omega
      · obtain rfl : n = i := HE.out
        obtain rfl : n' = j := by omega
        have E : Hid (os = mergeL (lst n U) (lst n' U')) := hid (by
          rw [← Hos.out, lst_end, lst_end, mergeL_nil, List.append_nil])
        clear hb
        have hl := Hlen.out
        go_wp2
        go_ret
        exact ⟨⟨_, Nat.le_refl _, by rw [← Hlen.out]; rfl, by rw [← E.out]; exact Hrow.out⟩, Hb.out⟩
end Go.Proofs.Qxb6632328a
