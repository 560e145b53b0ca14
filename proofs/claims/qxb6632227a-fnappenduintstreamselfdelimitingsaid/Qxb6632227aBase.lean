import Derived.Test.Qxb6632227aRows
import Derived.Test.Qxb6632227aPlain
import Derived.WalkKit
import Derived.WalkSpells
import Derived.WalkLawsBesides
import Derived.Deep.QuietTactic
import Derived.BigQuiet
import Derived.Below
import Derived.ArgAppend
import Derived.Laws.CopyOwn
namespace Go.Proofs.Qxb6632227a
open Go.RowKit
set_option linter.unusedVariables false

theorem hid {p : Prop} (h : p) : Hid p := h
theorem cell_lt {w : World} {b o : Nat} {v : Value} (h : w.cell? ⟨b, o, none⟩ = some v) : b < w.heap.size := World.block_lt_of_cell? w _ h
theorem below_cell {w w' : World} (hb : Below w.heap.size w w') {b o : Nat} {v : Value} (h : w.cell? ⟨b, o, none⟩ = some v) : w'.cell? ⟨b, o, none⟩ = some v :=
  (hb.cell (p := ⟨b, o, none⟩) (cell_lt h)).trans h

theorem info5 : (Try.prog.info? 5).map (fun i => (i.zero, i.size, i.bytes)) = some (some (.int .u8 0), 1, 1) := by kernel_rfl
theorem q22 (w : World) (a : Option Addr) (n c n' c' : Nat) : (binOp .eql 22 (.slice a n c) (.slice none n' c')).run Try.prog w = .ok (.bool a.isNone) w := Lib.run_eql_slice_nil w _ _ a n c n' c' Try.underlying22

/-- A slice's address leads to the bytes zs. -/
def Rd (w : World) (a : Option Addr) (zs : List Int) : Prop :=
  zs = [] ∨ ∃ b o : Nat, a = some ⟨b, o, none⟩ ∧ ∀ i, i < zs.length → w.cell? ⟨b, o + i, none⟩ = some (.int .u8 (zs.getD i 0))

theorem Rd.later {w w' : World} {a : Option Addr} {zs : List Int} (h : Rd w a zs) (hb : Below w.heap.size w w') : Rd w' a zs := by
  rcases h with h | ⟨b, o, ha, hc⟩
  · exact .inl h
  · exact .inr ⟨b, o, ha, fun i hi => below_cell hb (hc i hi)⟩

/-- A row of bytes that the call itself has made. -/
def Own (w : World) (base : Nat) (v : Value) (zs : List Int) : Prop := w.ownsRow base 5 1 v zs.length (zs.map (Value.int .u8))

theorem Own.lower {w : World} {base base' : Nat} {v : Value} {zs : List Int} (h : Own w base v zs) (hb : base' ≤ base) : Own w base' v zs := by
  refine ⟨h.1, ?_⟩
  rcases h.2 with h0 | ⟨g, cap, cur, hv, hg, r⟩
  · exact .inl h0
  · exact .inr ⟨g, cap, cur, hv, Nat.le_trans hb hg, r⟩

theorem Own.shape {w : World} {base : Nat} {v : Value} {zs : List Int} (h : Own w base v zs) : ∃ (a : Option Addr) (c : Nat), v = .slice a zs.length c ∧ Rd w a zs ∧ zs.length ≤ 9223372036854775807 := by
  rcases h.2 with ⟨rfl, h0⟩ | ⟨g, cap, cur, rfl, hg, hh, hn, hm, hs, ht⟩
  · exact ⟨none, 0, by rw [h0], .inl (List.eq_nil_of_length_eq_zero h0), by omega⟩
  · unfold maxLen at hm
    refine ⟨_, _, rfl, .inr ⟨g, 0, rfl, fun i hi => ?_⟩, by omega⟩
    have := World.ownsRow.cellAt (show w.ownsRow base 5 1 (.slice (some ⟨g, 0, none⟩) zs.length cap) zs.length (zs.map (Value.int .u8)) from h) i (by omega)
    rw [Nat.zero_add, this]
    simp [List.getD, hi]

theorem Own.later {w w' : World} {base : Nat} {v : Value} {zs : List Int} (h : Own w base v zs) (hb : Below w.heap.size w w') : Own w' base v zs := by
  refine ⟨h.1, ?_⟩
  rcases h.2 with h0 | ⟨g, cap, cur, hv, hg, hh, r⟩
  · exact .inl h0
  · exact .inr ⟨g, cap, cur, hv, hg, (hb.block g (Array.getElem?_eq_some_iff.1 hh).1).trans hh, r⟩

theorem own_of {w : World} {base : Nat} {v : Value} {n : Nat} {xs : List Value} (zs : List Int) (h : w.ownsRow base 5 1 v n xs) (hn : n = zs.length) (hx : xs = zs.map (Value.int .u8)) : Own w base v zs := by
  subst hn hx; exact h

end Go.Proofs.Qxb6632227a
