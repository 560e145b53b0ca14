import Derived.Test.Qxb6632328aRows
import Derived.WalkKit
import Derived.WalkSpells
import Derived.WalkLawsBesides
import Derived.Deep.QuietTactic
import Derived.BigQuiet
import Derived.Below
import Derived.ArgAppend
import Derived.Deep.OwnRows
namespace Go.Proofs.Qxb6632328a
open Go.RowKit
set_option linter.unusedVariables false

theorem hid {p : Prop} (h : p) : Hid p := h
theorem cell_lt {w : World} {b o : Nat} {v : Value} (h : w.cell? ⟨b, o, none⟩ = some v) : b < w.heap.size := World.block_lt_of_cell? w _ h
theorem below_cell {w w' : World} (hb : Below w.heap.size w w') {b o : Nat} {v : Value} (h : w.cell? ⟨b, o, none⟩ = some v) : w'.cell? ⟨b, o, none⟩ = some v :=
  (hb.cell (p := ⟨b, o, none⟩) (cell_lt h)).trans h
theorem below_one (w : World) (o1 : Obj) : Below w.heap.size w (w.alloc o1) := (Below.refl _ _).alloc (Nat.le_refl _) _
theorem below_two (w : World) (o1 o2 : Obj) : Below w.heap.size w ((w.alloc o1).alloc o2) := ((Below.refl _ _).alloc (Nat.le_refl _) _).alloc (by simp) _

def IsB (e : Ending) : Prop := ∃ t : Bool, e = .returned (.bool t)

/-- One version, told: its value's slice and its stamp. -/
structure Ver where
  a : Option Addr
  l : Nat
  c : Nat
  t : Nat

/-- A slice of bytes that can be read. -/
def BytesOk (w : World) (a : Option Addr) (l : Nat) : Prop :=
  l ≤ 9223372036854775807 ∧ (l = 0 ∨ ∃ (b o : Nat) (Z : Nat → Int), a = some ⟨b, o, none⟩ ∧ ∀ i, i < l → w.cell? ⟨b, o + i, none⟩ = some (.int .u8 (Z i)))
theorem BytesOk.later {w w' : World} {a : Option Addr} {l : Nat} (h : BytesOk w a l) (hb : Below w.heap.size w w') : BytesOk w' a l := by
  obtain ⟨h1, h2⟩ := h
  refine ⟨h1, ?_⟩
  rcases h2 with h0 | ⟨b, o, S, ha, hc⟩
  · exact .inl h0
  · exact .inr ⟨b, o, S, ha, fun i hi => below_cell hb (hc i hi)⟩

/-- n versions lie from cell o of block b on. -/
def RowV (w : World) (b o n : Nat) (V : Nat → Ver) : Prop :=
  ∀ i, i < n → w.cell? ⟨b, o + i * 2, none⟩ = some (.slice (V i).a (V i).l (V i).c) ∧ w.cell? ⟨b, o + i * 2 + 1, none⟩ = some (.int .u64 ((V i).t : Int))
theorem RowV.later {w w' : World} {b o n : Nat} {V : Nat → Ver} (h : RowV w b o n V) (hb : Below w.heap.size w w') : RowV w' b o n V :=
  fun i hi => ⟨below_cell hb (h i hi).1, below_cell hb (h i hi).2⟩

/-- A slice of versions that came in. -/
def VsOk (w : World) (a : Option Addr) (n : Nat) (V : Nat → Ver) : Prop :=
  n ≤ 9223372036854775807 ∧ (n = 0 ∨ ∃ b o : Nat, a = some ⟨b, o, none⟩ ∧ RowV w b o n V) ∧ (∀ i, i < n → BytesOk w (V i).a (V i).l) ∧ ∀ i, i < n → (V i).t < 18446744073709551616
theorem VsOk.later {w w' : World} {a : Option Addr} {n : Nat} {V : Nat → Ver} (h : VsOk w a n V) (hb : Below w.heap.size w w') : VsOk w' a n V := by
  obtain ⟨h1, h2, h3, h4⟩ := h
  refine ⟨h1, ?_, fun i hi => (h3 i hi).later hb, h4⟩
  rcases h2 with h0 | ⟨b, o, ha, hc⟩
  · exact .inl h0
  · exact .inr ⟨b, o, ha, hc.later hb⟩

/-- A slice of 64-bit numbers that can be read. -/
def RowU (w : World) (b o n : Nat) (U : Nat → Nat) : Prop := ∀ i, i < n → w.cell? ⟨b, o + i, none⟩ = some (.int .u64 (U i : Int))
theorem RowU.later {w w' : World} {b o n : Nat} {U : Nat → Nat} (h : RowU w b o n U) (hb : Below w.heap.size w w') : RowU w' b o n U := fun i hi => below_cell hb (h i hi)
def UsOk (w : World) (a : Option Addr) (n : Nat) (U : Nat → Nat) : Prop :=
  n ≤ 9223372036854775807 ∧ (n = 0 ∨ ∃ b o : Nat, a = some ⟨b, o, none⟩ ∧ RowU w b o n U) ∧ ∀ i, i < n → U i < 18446744073709551616
theorem UsOk.later {w w' : World} {a : Option Addr} {n : Nat} {U : Nat → Nat} (h : UsOk w a n U) (hb : Below w.heap.size w w') : UsOk w' a n U := by
  obtain ⟨h1, h2, h3⟩ := h
  refine ⟨h1, ?_, h3⟩
  rcases h2 with h0 | ⟨b, o, ha, hc⟩
  · exact .inl h0
  · exact .inr ⟨b, o, ha, hc.later hb⟩

/-! ### Comparisons with nil -/
theorem q22 (w : World) (a : Option Addr) (n c n' c' : Nat) : (binOp .eql 22 (.slice a n c) (.slice none n' c')).run Try.prog w = .ok (.bool a.isNone) w := Lib.run_eql_slice_nil w _ _ a n c n' c' Try.underlying22
theorem q23 (w : World) (a : Option Addr) (n c n' c' : Nat) : (binOp .eql 23 (.slice a n c) (.slice none n' c')).run Try.prog w = .ok (.bool a.isNone) w := Lib.run_eql_slice_nil w _ _ a n c n' c' Try.underlying23
theorem q31 (w : World) (a : Option Addr) (n c n' c' : Nat) : (binOp .eql 31 (.slice a n c) (.slice none n' c')).run Try.prog w = .ok (.bool a.isNone) w := Lib.run_eql_slice_nil w _ _ a n c n' c' Try.underlying31
theorem q44 (w : World) (a : Option Addr) (n c n' c' : Nat) : (binOp .eql 44 (.slice a n c) (.slice none n' c')).run Try.prog w = .ok (.bool a.isNone) w := Lib.run_eql_slice_nil w _ _ a n c n' c' Try.underlying44
theorem q44n (w : World) (a : Option Addr) (n c n' c' : Nat) : (binOp .neq 44 (.slice a n c) (.slice none n' c')).run Try.prog w = .ok (.bool (!a.isNone)) w := run_neq_slice_nil_any w _ _ a n c n' c' Try.underlying44
end Go.Proofs.Qxb6632328a
