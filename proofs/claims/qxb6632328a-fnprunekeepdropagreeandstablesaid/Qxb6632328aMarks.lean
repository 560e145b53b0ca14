import Derived.Test.Qxb6632328aPrune
import Derived.Test.Qxb6632328aAsc
import Derived.Test.Qxb6632328aSize
namespace Go.Proofs.Qxb6632328a
open Go.RowKit
set_option linter.unusedVariables false
set_option linter.unusedSimpArgs false

/-! ### Which version a read finds -/
def rd (n : Nat) (T : Nat → Nat) (t i : Nat) : Bool := decide (T i ≤ t) && (decide (i + 1 = n) || decide (t < T (i + 1)))
def ReadAt (n : Nat) (T : Nat → Nat) (t : Nat) (e : Ending) : Prop :=
  (e = .returned (.int .i64 (-1)) ∧ ∀ i, i < n → rd n T t i = false) ∨ ∃ r : Nat, r < n ∧ e = .returned (.int .i64 (r : Int)) ∧ ∀ i, i < n → rd n T t i = decide (i = r)
theorem readAt_of {n : Nat} {V : Nat → Ver} {t : Nat} {e : Ending} (h : ReadOut n V t e) : ReadAt n (fun i => (V i).t) t e := by
  obtain ⟨r, rfl, hr, h⟩ := h
  have hlast : ∀ i, i + 1 < n → (decide (t < (V (i + 1)).t) = decide (r ≤ i + 1)) := by
    intro i hi
    have := h (i + 1) hi
    rw [decide_eq_decide]
    omega
  have key : ∀ i, i < n → rd n (fun i => (V i).t) t i = decide (i + 1 = r) := by
    intro i hi
    have h1 := h i hi
    by_cases e : i + 1 = n
    · simp only [rd, e, decide_true, Bool.true_or, Bool.and_true]
      rw [decide_eq_decide]; omega
    · simp only [rd, e, decide_false, Bool.false_or]
      rw [hlast i (by omega), ← Bool.decide_and, decide_eq_decide]; omega
  rcases Nat.eq_zero_or_pos r with rfl | hp
  · exact .inl ⟨rfl, fun i hi => by rw [key i hi]; simp⟩
  · obtain ⟨r, rfl⟩ : ∃ r', r = r' + 1 := ⟨r - 1, by omega⟩
    refine .inr ⟨r, by omega, by congr 2; omega, fun i hi => by rw [key i hi, decide_eq_decide]; omega⟩
theorem read_at (w : World) (a : Option Addr) (n c : Nat) (V : Nat → Ver) (t : Nat) (h : VsOk w a n V) (ha : ∀ i, i + 1 < n → (V i).t < (V (i + 1)).t) :
    Calls Try.prog 9 #[.slice a n c, .int .u64 (t : Int)] w fun e w' => ReadAt n (fun i => (V i).t) t e ∧ w' = w :=
  (read_any w a n c V t h ha).mono fun e w' ⟨h1, h2⟩ => ⟨readAt_of h1, h2⟩

/-- The versions that some read of ts finds. -/
def marks (n : Nat) (T : Nat → Nat) (ts : List Nat) (i : Nat) : Bool := ts.any fun t => rd n T t i
theorem marks_snoc (n : Nat) (T : Nat → Nat) (ts : List Nat) (t i : Nat) : marks n T (ts ++ [t]) i = (marks n T ts i || rd n T t i) := by simp [marks]
theorem marks_none {w : World} {S n : Nat} {T : Nat → Nat} {ts : List Nat} {t : Nat} (h : w.rowIs S 4 n fun i => .bool (marks n T ts i)) (h0 : ∀ i, i < n → rd n T t i = false) : w.rowIs S 4 n fun i => .bool (marks n T (ts ++ [t]) i) :=
  h.congr fun i hi => by rw [marks_snoc, h0 i hi, Bool.or_false]
theorem marks_some {w : World} {S n : Nat} {T : Nat → Nat} {ts : List Nat} {t r : Nat} (h : w.rowIs S 4 n fun i => .bool (marks n T ts i)) (h0 : ∀ i, i < n → rd n T t i = decide (i = r)) : (w.setCell ⟨S, r, none⟩ (.bool true)).rowIs S 4 n fun i => .bool (marks n T (ts ++ [t]) i) :=
  (h.set r _).congr fun i hi => by
    rw [marks_snoc, h0 i hi]
    by_cases e : i = r
    · simp [e]
    · simp [e]
theorem marks_all (n m : Nat) (T U : Nat → Nat) (fl : Nat) (ha : ∀ i, i + 1 < n → T i < T (i + 1)) (hT : ∀ i, i < n → T i < 18446744073709551616) (i : Nat) (hi : i < n) :
    marks n T (((List.range m).map U ++ [fl] ++ ((List.range n).filter fun k => decide (fl ≤ T k)).map T) ++ [18446744073709551615]) i = k1 n m T U fl i := by
  rw [Bool.eq_iff_iff]
  simp only [marks, List.any_append, List.any_map, List.any_cons, List.any_nil, Bool.or_false, k1, Bool.or_eq_true, List.any_eq_true, List.mem_range, List.mem_filter, Function.comp, decide_eq_true_eq, rd, Bool.and_eq_true, seenB]
  have hti := hT i hi
  constructor
  · rintro (((⟨j, hj, h1, h2 | h2⟩ | ⟨h1, h2 | h2⟩) | ⟨k, ⟨hk, hkf⟩, h1, h2 | h2⟩) | ⟨h1, h2 | h2⟩)
    · exact .inl (.inl h2)
    · exact .inr ⟨j, hj, h1, h2⟩
    · exact .inl (.inl h2)
    · exact .inl (.inr h2)
    · exact .inl (.inl h2)
    · exact .inl (.inr (by omega))
    · exact .inl (.inl h2)
    · by_cases h3 : i + 1 = n
      · exact .inl (.inl h3)
      · have := hT (i + 1) (by omega); omega
  · rintro ((h | h) | ⟨j, hj, h1, h2⟩)
    · exact .inr ⟨by omega, .inl h⟩
    · by_cases h3 : i + 1 = n
      · exact .inr ⟨by omega, .inl h3⟩
      · by_cases h4 : fl ≤ T i
        · exact .inl (.inr ⟨i, ⟨hi, h4⟩, by omega, .inr (ha i (by omega))⟩)
        · exact .inl (.inl (.inr ⟨by omega, .inr h⟩))
    · exact .inl (.inl (.inl ⟨j, hj, h1, .inr h2⟩))

/-! ### A row of numbers of the call's own, room there is -/
def rowN (kd : IntKind) (zs : List Nat) (i : Nat) : Value := .int kd ((zs.getD i 0 : Nat) : Int)
theorem rowN_snoc (kd : IntKind) (zs : List Nat) (x i : Nat) : (if i = zs.length then Value.int kd (x : Int) else rowN kd zs i) = rowN kd (zs ++ [x]) i := by
  by_cases h : i = zs.length
  · subst h; simp [rowN, List.getD]
  · rw [if_neg h]
    by_cases h2 : i < zs.length
    · simp [rowN, List.getD, List.getElem?_append_left h2]
    · have h3 : zs.length + 1 ≤ i := by omega
      simp [rowN, List.getD, List.getElem?_eq_none (show zs.length ≤ i by omega), List.getElem?_eq_none (show (zs ++ [x]).length ≤ i by simpa using h3)]
theorem wpList_fit {w : World} {ops : Array Oper} {rest : List Oper} {o : Oper} {a : Act} {Q : Exit → Act → World → Prop} (hgd : o.guard = none) (s x : Operand) (T e : TypeId) (kd : IntKind) (hT : Try.prog.underlying T = some (.slice e)) (hE : (Try.prog.info? e).map (fun i => (i.zero, i.size, i.bytes)) = some (some (.int kd 0), 1, 8))
    (ho : o.op = .call { callee := .builtin .append, args := #[s, x], argTypes := #[T, T] }) (G cap : Nat) (zs : List Nat) (v : Nat) (hs : a.eval s = .slice (some ⟨G, 0, none⟩) zs.length cap) (g : Nat) (hx : a.eval x = .slice (some ⟨g, 0, none⟩) 1 1) (hg : g = w.heap.size)
    (hrow : w.rowIs G e cap (rowN kd zs)) (hq : zs.length < cap)
    (hK : ∀ w', w'.rowIs G e cap (rowN kd (zs ++ [v])) → Hole w.heap.size G w w' → wpList Try.prog ops Q rest (a.put o.dst (.slice (some ⟨G, 0, none⟩) (zs.length + 1) cap)) w') :
    wpList Try.prog ops Q (o :: rest) a (w.alloc (.cells #[.int kd (v : Int)] e)) := by
  subst hg
  obtain ⟨i0, hi, hz0, hz1, hz2⟩ := info_parts hE
  refine wpList_plain hgd fun K hK' => ?_
  have hrow' := hrow.alloc (.cells #[.int kd (v : Int)] e)
  have hrun := run_append_room_cells (P := Try.prog) (w.alloc (.cells #[.int kd (v : Int)] e)) T o.type e i0 hT hi G 0 zs.length cap ⟨w.heap.size, 0, none⟩ 1 1 [.int kd (v : Int)] (by rw [hz1]; rfl)
    (one_cell _ _ _) (by intro u hu; simp at hu; subst hu; rfl) (by omega)
    (by
      rw [hz1]; intro j hj
      simp at hj
      rw [hrow'.cell (i := 0 + zs.length * 1 + j) (by omega)]; rfl)
    (by intro j hj; exact hrow'.frozen _)
  rw [hz1, Nat.zero_add, Nat.mul_one] at hrun
  unfold Oper.wp
  simp [execOp, ho, resolve, invoke, builtin, hs, hx, hrun, Result.andThen]
  refine hK' _ _ (hK _ ?_ ?_)
  · exact (hrow'.set zs.length _).congr fun j hj => rowN_snoc kd zs v j
  · exact (Hole.of (below_one _ _)).setCells zs.length [.int kd (v : Int)]
theorem info3 : (Try.prog.info? 3).map (fun i => (i.zero, i.size, i.bytes)) = some (some (.int .i64 0), 1, 8) := by kernel_rfl
theorem info24 : (Try.prog.info? 24).map (fun i => (i.zero, i.size, i.bytes)) = some (some (.int .u64 0), 1, 8) := by kernel_rfl
theorem info4 : (Try.prog.info? 4).map (fun i => (i.zero, i.size, i.bytes)) = some (some (.bool false), 1, 1) := by kernel_rfl
theorem make_room (T e : TypeId) (kd : IntKind) (hT : Try.prog.underlying T = some (.slice e)) (hE : (Try.prog.info? e).map (fun i => (i.zero, i.size, i.bytes)) = some (some (.int kd 0), 1, 8)) (n : Nat) (h : n ≤ 1048576) (w : World) :
    (Instr.makeSlice T (.int .i64 0) (.int .i64 (n : Int))).run Try.prog w = .ok (.slice (some ⟨w.heap.size, 0, none⟩) 0 n) (w.alloc (.cells (madeCells #[.int kd 0] n) e)) := by
  obtain ⟨i, hi, hz, hs, hb⟩ := info_parts hE
  have := run_make (P := Try.prog) w T e i _ hT hi hz .i64 .i64 0 n (by omega) (by omega) (by rw [hb]; omega) (by omega)
  simpa [hs, Value.cells] using this
end Go.Proofs.Qxb6632328a
