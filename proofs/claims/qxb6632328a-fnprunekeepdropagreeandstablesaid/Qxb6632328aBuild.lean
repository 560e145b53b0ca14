import Derived.Test.Qxb6632328aBase
import Derived.Lib.LazyBuf
namespace Go.Proofs.Qxb6632328a
open Go.RowKit
set_option linter.unusedVariables false
set_option linter.unusedSimpArgs false
attribute [local go_sem] q22 q23 q31 q44 q44n

theorem info46 : (Try.prog.info? 46).map (fun i => (i.zero, i.size, i.bytes)) = some (some (.agg #[.slice none 0 0, .int .u64 0]), 2, 32) := by kernel_rfl
theorem info42 : (Try.prog.info? 42).map (fun i => (i.zero, i.size, i.bytes)) = some (some (.int .u64 0), 1, 8) := by kernel_rfl
theorem make36 (n : Nat) (h : n ≤ 1048576) (w : World) : (Instr.makeSlice 36 (.int .i64 (n : Int)) (.int .i64 (n : Int))).run Try.prog w =
    .ok (.slice (some ⟨w.heap.size, 0, none⟩) n n) (w.alloc (.cells (madeCells #[.slice none 0 0, .int .u64 0] (n * 2)) 46)) := by
  obtain ⟨i, hi, hzz⟩ := Option.map_eq_some_iff.1 info46
  simp only [Prod.mk.injEq] at hzz
  obtain ⟨hz, hs, hb⟩ := hzz
  have := run_make (P := Try.prog) w 36 46 i _ Try.underlying36 hi hz .i64 .i64 n n (by omega) (by omega) (by rw [hb]; omega) (by omega)
  simpa [hs, Value.cells] using this

/-- The cells of a row of versions, by their number. -/
def cellV (V : Nat → Ver) (j : Nat) : Value := if j % 2 = 0 then .slice (V (j / 2)).a (V (j / 2)).l (V (j / 2)).c else .int .u64 ((V (j / 2)).t : Int)
theorem cellV_even (V : Nat → Ver) (i : Nat) : cellV V (i * 2) = .slice (V i).a (V i).l (V i).c := by
  have h1 : i * 2 % 2 = 0 := by omega
  have h2 : i * 2 / 2 = i := by omega
  simp only [cellV, h1, h2, if_true]
theorem cellV_odd (V : Nat → Ver) (i : Nat) : cellV V (i * 2 + 1) = .int .u64 ((V i).t : Int) := by
  have h1 : (i * 2 + 1) % 2 = 1 := by omega
  have h2 : (i * 2 + 1) / 2 = i := by omega
  simp only [cellV, h1, h2]; rfl
def zeroVer : Ver := ⟨none, 0, 0, 0⟩
theorem row_made36 (w : World) (n : Nat) : (w.alloc (.cells (madeCells #[.slice none 0 0, .int .u64 0] (n * 2)) 46)).rowIs w.heap.size 46 (n * 2) (cellV fun _ => zeroVer) := by
  refine ⟨_, heap_alloc_new w _, size_madeCells _ _, fun i hi => ?_⟩
  rcases Nat.mod_two_eq_zero_or_one i with h | h <;> simp [madeCells, hi, cellV, zeroVer, h]
/-- One version stored. -/
theorem row_put {w : World} {B n k : Nat} {V : Nat → Ver} (h : w.rowIs B 46 (n * 2) (cellV V)) (v : Ver) :
    ((w.setCell ⟨B, k * 2, none⟩ (.slice v.a v.l v.c)).setCell ⟨B, k * 2 + 1, none⟩ (.int .u64 (v.t : Int))).rowIs B 46 (n * 2) (cellV fun i => if i = k then v else V i) := by
  refine ((h.set (k * 2) _).set (k * 2 + 1) _).congr fun j hj => ?_
  by_cases h1 : j = k * 2 + 1
  · subst h1; rw [if_pos rfl, cellV_odd]; simp
  · rw [if_neg h1]
    by_cases h2 : j = k * 2
    · subst h2; rw [if_pos rfl, cellV_even]; simp
    · rw [if_neg h2]
      have : j / 2 ≠ k := by omega
      simp [cellV, this]
theorem cellV_congr {V V' : Nat → Ver} {n j : Nat} (h : ∀ i, i < n → V i = V' i) (hj : j < n * 2) : cellV V j = cellV V' j := by
  simp only [cellV]; rw [h (j / 2) (by omega)]

/-- What pruneBuildChain hands back: nil, or a row of its own that holds the versions. -/
def ChainAt (w : World) (base : Nat) (a : Option Addr) (n : Nat) (V : Nat → Ver) : Prop :=
  n = 0 ∨ ∃ B, base ≤ B ∧ a = some ⟨B, 0, none⟩ ∧ w.rowIs B 46 (n * 2) (cellV V)
def BuildOut (w : World) (n : Nat) (V : Nat → Ver) (e : Ending) (w' : World) : Prop := ∃ a, e = .returned (.slice a n n) ∧ ChainAt w' w.heap.size a n V

theorem build_nil (w : World) (c : Nat) (V : Nat → Ver) :
    Calls Try.prog 10 #[.slice none 0 c] w fun e w' => BuildOut w 0 V e w' ∧ Below w.heap.size w w' := by
  go_enter Try.func10, Try.ntmps10
  go_wp2
  go_ret
  exact ⟨⟨none, rfl, .inl rfl⟩, Below.refl _ _⟩
theorem build_empty (w : World) (a : Addr) (c : Nat) (V : Nat → Ver) :
    Calls Try.prog 10 #[.slice (some a) 0 c] w fun e w' => BuildOut w 0 V e w' ∧ Below w.heap.size w w' := by
  have hmk : ∀ w : World, (Instr.makeSlice 36 (.int .i64 0) (.int .i64 0)).run Try.prog w = .ok (.slice (some ⟨w.heap.size, 0, none⟩) 0 0) (w.alloc (.cells (madeCells #[.slice none 0 0, .int .u64 0] 0) 46)) :=
    make36 0 (by omega)
  go_enter Try.func10, Try.ntmps10
  go_wp2
  refine wp_loop_rounds 1 ?_
  rw [rounds_succ]
  go_wp2
  go_ret
  exact ⟨⟨_, rfl, .inl rfl⟩, below_one _ _⟩
theorem build_some (w : World) (b o n c : Nat) (V : Nat → Ver) (hn : n ≤ 32768) (h : RowV w b o n V) :
    Calls Try.prog 10 #[.slice (some ⟨b, o, none⟩) n c] w fun e w' => BuildOut w n V e w' ∧ Below w.heap.size w w' := by
  have hmk := make36 n (by omega)
  have HV := hid h
  clear h
  go_enter Try.func10, Try.ntmps10
  go_wp2
  clear hmk
  go_loopw [4] (fun i wr => ∃ k : Nat, k ≤ n ∧ i = .int .i64 k ∧ Below w.heap.size w wr ∧ wr.rowIs w.heap.size 46 (n * 2) (cellV fun j => if j < k then V j else zeroVer)) (fun i _ => n - (intOf i).toNat)
  case atStart => exact ⟨0, Nat.zero_le _, rfl, below_one _ _, by simpa using row_made36 w n⟩
  case round =>
    obtain ⟨k, hk, rfl, hb, hrow⟩ := hrel
    by_cases hlt : k < n
    · obtain ⟨f0, f1⟩ := HV.out k hlt
      have f0' := below_cell hb f0
      have f1' := below_cell hb f1
      have g0 := hrow.cell (i := k * 2) (by omega)
      have g1 := hrow.cell (i := k * 2 + 1) (by omega)
      have g2 := hrow.frozen (k * 2)
      have g3 := hrow.frozen (k * 2 + 1)
      have hlt' : (k : Int) < (n : Int) := by omega
      have hbl := cell_lt f0
      have Hne : Hid (b ≠ w.heap.size) := hid (by omega)
      have HV1 : Hid (∀ va vl vc vt, va = (V k).a → vl = (V k).l → vc = (V k).c → vt = (V k).t → (⟨va, vl, vc, vt⟩ : Ver) = V k) := hid (by rintro _ _ _ _ rfl rfl rfl rfl; rfl)
      have Hb := hid hb
      have Hrow := hid hrow
      clear hb hrow f0 f1
      generalize cellV (fun j => if j < k then V j else zeroVer) (k * 2) = u0 at g0
      generalize cellV (fun j => if j < k then V j else zeroVer) (k * 2 + 1) = u1 at g1
      generalize ea : (V k).a = va at f0'
      generalize el : (V k).l = vl at f0'
      generalize ec : (V k).c = vc at f0'
      generalize et : (V k).t = vt at f1'
      have HV2 := hid (HV1.out va vl vc vt ea.symm el.symm ec.symm et.symm)
      clear ea el ec et HV1
      go_wp2
      go_region
      all_goals go_wp2
      go_roundw
      case rel =>
        refine ⟨k + 1, by omega, by go_num, ((Hb.out.setCell (Nat.le_refl _) _).setCell (Nat.le_refl _) _).drew, ((row_put (k := k) Hrow.out ⟨va, vl, vc, vt⟩).congr fun j hj => ?_).drew⟩
        refine cellV_congr (n := n) (fun i hi => ?_) hj
        rw [HV2.out]
        by_cases hik : i = k
        · subst hik; simp
        · simp only [hik, if_false]
          by_cases h2 : i < k
          · simp [h2, show i < k + 1 by omega]
          · simp [h2, show ¬ i < k + 1 by omega]
      case measure => simp [intOf]; omega
    · obtain rfl : k = n := by omega
      have Hb := hid hb
      have Hrow := hid hrow
      clear hb hrow
      go_wp2
      go_ret
      exact ⟨⟨_, rfl, .inr ⟨_, Nat.le_refl _, rfl, Hrow.out.congr fun j hj => cellV_congr (n := k) (fun i hi => by simp [hi]) hj⟩⟩, Hb.out⟩
theorem build_any (w : World) (a : Option Addr) (n c : Nat) (V : Nat → Ver) (hn : n ≤ 32768) (h : VsOk w a n V) :
    Calls Try.prog 10 #[.slice a n c] w fun e w' => BuildOut w n V e w' ∧ Below w.heap.size w w' := by
  obtain ⟨_, h, _⟩ := h
  rcases h with rfl | ⟨b, o, rfl, hr⟩
  · cases a with
    | none => exact build_nil w c V
    | some a => exact build_empty w a c V
  · exact build_some w b o n c V hn hr

/-! ### pruneBuildOpen -/
def StampsOut (w : World) (n : Nat) (U : Nat → Nat) (e : Ending) (w' : World) : Prop := ∃ a, e = .returned (.slice a n n) ∧ UsOk w' a n U ∧ ∀ x, a = some x → w.heap.size ≤ x.block
theorem row_us {w : World} {B t n : Nat} {U : Nat → Nat} (h : w.rowIs B t n fun i => .int .u64 (U i : Int)) : RowU w B 0 n U := fun i hi => by rw [Nat.zero_add]; exact h.cell hi
theorem openb_nil (w : World) (c : Nat) (U : Nat → Nat) :
    Calls Try.prog 12 #[.slice none 0 c] w fun e w' => StampsOut w 0 U e w' ∧ Below w.heap.size w w' := by
  go_enter Try.func12, Try.ntmps12
  go_wp2
  go_ret
  exact ⟨⟨none, rfl, ⟨by omega, .inl rfl, fun i hi => by omega⟩, fun x e => by cases e⟩, Below.refl _ _⟩
theorem openb_empty (w : World) (a : Addr) (c : Nat) (U : Nat → Nat) :
    Calls Try.prog 12 #[.slice (some a) 0 c] w fun e w' => StampsOut w 0 U e w' ∧ Below w.heap.size w w' := by
  have hmk : ∀ w : World, (Instr.makeSlice 38 (.int .i64 0) (.int .i64 0)).run Try.prog w = .ok (.slice (some ⟨w.heap.size, 0, none⟩) 0 0) (w.alloc (.cells (madeCells #[.int .u64 0] 0) 42)) :=
    run_make_row' (P := Try.prog) 38 42 (.int .u64 0) 8 Try.underlying38 info42 rfl .i64 .i64 0 (by omega) (by omega)
  go_enter Try.func12, Try.ntmps12
  go_wp2
  refine wp_loop_rounds 1 ?_
  rw [rounds_succ]
  go_wp2
  go_ret
  exact ⟨⟨_, rfl, ⟨by omega, .inl rfl, fun i hi => by omega⟩, fun x e => by cases e; exact Nat.le_refl _⟩, below_one _ _⟩
theorem openb_some (w : World) (b o n c : Nat) (U : Nat → Nat) (hn : n ≤ 131072) (h : RowU w b o n U) (hU : ∀ i, i < n → U i < 18446744073709551616) :
    Calls Try.prog 12 #[.slice (some ⟨b, o, none⟩) n c] w fun e w' => StampsOut w n U e w' ∧ Below w.heap.size w w' := by
  have hmk := run_make_row' (P := Try.prog) 38 42 (.int .u64 0) 8 Try.underlying38 info42 rfl .i64 .i64 n (by omega) (by omega)
  have HV := hid h
  have HU := hid hU
  clear h hU
  go_enter Try.func12, Try.ntmps12
  go_wp2
  clear hmk
  go_loopw [4] (fun i wr => ∃ k : Nat, k ≤ n ∧ i = .int .i64 k ∧ Below w.heap.size w wr ∧ wr.rowIs w.heap.size 42 n (fun j => if j < k then .int .u64 (U j : Int) else .int .u64 0)) (fun i _ => n - (intOf i).toNat)
  case atStart => exact ⟨0, Nat.zero_le _, rfl, below_one _ _, by simpa using World.rowIs_made w (.int .u64 0) n 42⟩
  case round =>
    obtain ⟨k, hk, rfl, hb, hrow⟩ := hrel
    by_cases hlt : k < n
    · have f0 := HV.out k hlt
      have f0' := below_cell hb f0
      have g0 := hrow.cell (i := k) hlt
      have g2 := hrow.frozen k
      have hlt' : (k : Int) < (n : Int) := by omega
      have Hb := hid hb
      have Hrow := hid hrow
      clear hb hrow f0
      simp only [Nat.lt_irrefl, if_false] at g0
      go_wp2
      go_roundw
      case rel =>
        refine ⟨k + 1, by omega, by go_num, Hb.out.setCell (Nat.le_refl _) _, (Hrow.out.set k _).congr fun i hi => ?_⟩
        by_cases hik : i = k
        · subst hik; simp
        · simp only [hik, if_false]
          by_cases h2 : i < k
          · simp [h2, show i < k + 1 by omega]
          · simp [h2, show ¬ i < k + 1 by omega]
      case measure => simp [intOf]; omega
    · obtain rfl : k = n := by omega
      have Hb := hid hb
      have Hrow := hid hrow
      clear hb hrow
      go_wp2
      go_ret
      exact ⟨⟨_, rfl, ⟨by omega, .inr ⟨_, _, rfl, row_us (Hrow.out.congr fun i hi => by simp [hi])⟩, HU.out⟩, fun x e => by cases e; exact Nat.le_refl _⟩, Hb.out⟩
theorem openb_any (w : World) (a : Option Addr) (n c : Nat) (U : Nat → Nat) (hn : n ≤ 131072) (h : UsOk w a n U) :
    Calls Try.prog 12 #[.slice a n c] w fun e w' => StampsOut w n U e w' ∧ Below w.heap.size w w' := by
  obtain ⟨_, h, hU⟩ := h
  rcases h with rfl | ⟨b, o, rfl, hr⟩
  · cases a with
    | none => exact openb_nil w c U
    | some a => exact openb_empty w a c U
  · exact openb_some w b o n c U hn hr hU
end Go.Proofs.Qxb6632328a
