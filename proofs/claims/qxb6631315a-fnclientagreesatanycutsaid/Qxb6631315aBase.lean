import Derived.Test.Qxb6631315aRows
import Derived.WalkKit
import Derived.WalkSpells
import Derived.WalkLawsBesides
import Derived.Laws.Pointers
import Derived.Deep.QuietTactic
import Derived.BigQuiet
import Derived.Below
namespace Go.Proofs.Qxb6631315a
open Go.RowKit

/-- A slice of strings that can be read: of length nought, or it leads to a row of strings. -/
def RolesOk (w : World) (a : Option Addr) (l : Nat) : Prop :=
  l ≤ 9223372036854775807 ∧ (l = 0 ∨ ∃ (b o : Nat) (S : Nat → ByteArray), a = some ⟨b, o, none⟩ ∧ ∀ i, i < l → w.cell? ⟨b, o + i, none⟩ = some (.string (S i)) ∧ (S i).size ≤ 9223372036854775807)

/-- A pointer to a registration that can be read. -/
def RegOk (w : World) (p : Option Addr) : Prop :=
  p = none ∨ ∃ (b o : Nat) (e : Bool) (r : ByteArray), p = some ⟨b, o, none⟩ ∧ w.cell? ⟨b, o, none⟩ = some (.bool e) ∧ w.cell? ⟨b, o + 1, none⟩ = some (.string r) ∧ r.size ≤ 9223372036854775807

theorem cell_lt {w : World} {b o : Nat} {v : Value} (h : w.cell? ⟨b, o, none⟩ = some v) : b < w.heap.size := World.block_lt_of_cell? w _ h

theorem below_cell {w w' : World} (hb : Below w.heap.size w w') {b o : Nat} {v : Value} (h : w.cell? ⟨b, o, none⟩ = some v) : w'.cell? ⟨b, o, none⟩ = some v :=
  (hb.cell (p := ⟨b, o, none⟩) (cell_lt h)).trans h

theorem RolesOk.later {w w' : World} {a : Option Addr} {l : Nat} (h : RolesOk w a l) (hb : Below w.heap.size w w') : RolesOk w' a l := by
  obtain ⟨h1, h2⟩ := h
  refine ⟨h1, ?_⟩
  rcases h2 with h0 | ⟨b, o, S, ha, hc⟩
  · exact .inl h0
  · exact .inr ⟨b, o, S, ha, fun i hi => ⟨below_cell hb (hc i hi).1, (hc i hi).2⟩⟩

theorem RegOk.later {w w' : World} {p : Option Addr} (h : RegOk w p) (hb : Below w.heap.size w w') : RegOk w' p := by
  rcases h with h0 | ⟨b, o, e, r, hp, h1, h2, h3⟩
  · exact .inl h0
  · exact .inr ⟨b, o, e, r, hp, below_cell hb h1, below_cell hb h2, h3⟩

/-- What the walks are told of a row of clients, three cells each. -/
def CellsOk (w : World) (b o n : Nat) (ID : Nat → ByteArray) (A : Nat → Option Addr) (L C : Nat → Nat) (R : Nat → Option Addr) : Prop :=
  ∀ i, i < n → w.cell? ⟨b, o + i * 3, none⟩ = some (.string (ID i)) ∧ w.cell? ⟨b, o + i * 3 + 1, none⟩ = some (.slice (A i) (L i) (C i)) ∧ w.cell? ⟨b, o + i * 3 + 2, none⟩ = some (.pointer (R i)) ∧
    (ID i).size ≤ 9223372036854775807 ∧ RolesOk w (A i) (L i) ∧ RegOk w (R i)

/-- .. of a slice of clients. -/
def ClientsOk (w : World) (a : Option Addr) (n : Nat) (ID : Nat → ByteArray) (A : Nat → Option Addr) (L C : Nat → Nat) (R : Nat → Option Addr) : Prop :=
  n ≤ 9223372036854775807 ∧ (n = 0 ∨ ∃ b o : Nat, a = some ⟨b, o, none⟩ ∧ CellsOk w b o n ID A L C R)

theorem CellsOk.later {w w' : World} {b o n : Nat} {ID : Nat → ByteArray} {A : Nat → Option Addr} {L C : Nat → Nat} {R : Nat → Option Addr} (h : CellsOk w b o n ID A L C R) (hb : Below w.heap.size w w') : CellsOk w' b o n ID A L C R :=
  fun i hi => ⟨below_cell hb (h i hi).1, below_cell hb (h i hi).2.1, below_cell hb (h i hi).2.2.1, (h i hi).2.2.2.1, (h i hi).2.2.2.2.1.later hb, (h i hi).2.2.2.2.2.later hb⟩

theorem ClientsOk.later {w w' : World} {a : Option Addr} {n : Nat} {ID : Nat → ByteArray} {A : Nat → Option Addr} {L C : Nat → Nat} {R : Nat → Option Addr} (h : ClientsOk w a n ID A L C R) (hb : Below w.heap.size w w') : ClientsOk w' a n ID A L C R := by
  obtain ⟨h1, h2⟩ := h
  refine ⟨h1, ?_⟩
  rcases h2 with h0 | ⟨b, o, ha, hc⟩
  · exact .inl h0
  · exact .inr ⟨b, o, ha, hc.later hb⟩

theorem hid {p : Prop} (h : p) : Hid p := h

theorem RolesOk.setCell {w : World} {ao : Option Addr} {l : Nat} (h : RolesOk w ao l) {a : Addr} (ha : ∀ x, ao = some x → x.block ≠ a.block) (v : Value) : RolesOk (w.setCell a v) ao l := by
  obtain ⟨h1, h2⟩ := h
  refine ⟨h1, ?_⟩
  rcases h2 with h0 | ⟨b, o, S, hb, hc⟩
  · exact .inl h0
  · refine .inr ⟨b, o, S, hb, fun i hi => ⟨?_, (hc i hi).2⟩⟩
    rw [← (hc i hi).1]
    exact World.cell?_of_block (Below.heap_setCell _ _ _ _ (ha ⟨b, o, none⟩ hb))

/-- It answers a bool: which, is no matter. -/
def IsB (e : Ending) : Prop := ∃ t : Bool, e = .returned (.bool t)

/-! ### Comparisons that the walk wants a law for: a slice against nil; a pointer against itself -/
theorem run_equalIn_ptr_self {P : Program} (w : World) (d : Nat) (t e : TypeId) (i : TypeInfo) (p : Option Addr) (h : P.underlying t = some (.pointer e)) (hi : P.info? e = some i) :
    (Op.equalIn (d + 1) t (.pointer p) (.pointer p)).run P w = .ok true w := by
  cases p <;> simp [Op.equalIn, run_underlying h, sameAddr, sizeOf, typeInfo, hi]
theorem info54 : (Try.prog.info? 54).isSome = true := by kernel_rfl
theorem q39 (w : World) (p : Option Addr) : (binOp .eql 39 (.pointer p) (.pointer p)).run Try.prog w = .ok (.bool true) w := by
  obtain ⟨i, hi⟩ := Option.isSome_iff_exists.1 info54
  simp only [binOp]
  simp [Op.equal, Op.maxDepth, run_equalIn_ptr_self w 9999 39 _ i p Try.underlying39 hi]
theorem q38 (w : World) (a : Option Addr) (n c n' c' : Nat) : (binOp .eql 38 (.slice a n c) (.slice none n' c')).run Try.prog w = .ok (.bool a.isNone) w := Lib.run_eql_slice_nil w _ _ a n c n' c' Try.underlying38
theorem q35 (w : World) (a : Option Addr) (n c n' c' : Nat) : (binOp .neq 35 (.slice a n c) (.slice none n' c')).run Try.prog w = .ok (.bool (!a.isNone)) w := run_neq_slice_nil_any w _ _ a n c n' c' Try.underlying35

/-- What was there is there behind two new blocks. -/
theorem below_two (w : World) (o1 o2 : Obj) : Below w.heap.size w ((w.alloc o1).alloc o2) := ((Below.refl _ _).alloc (Nat.le_refl _) _).alloc (by simp) _

end Go.Proofs.Qxb6631315a
