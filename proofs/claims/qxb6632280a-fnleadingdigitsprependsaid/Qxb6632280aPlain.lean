import Derived.Test.Qxb6632280aRows
import Derived.WalkKit
import Derived.WalkSpells
import Derived.WalkLawsBesides
import Derived.Below
namespace Go.Proofs.Qxb6632280a
open Go.RowKit
set_option linter.unusedVariables false

theorem hid {p : Prop} (h : p) : Hid p := h

/-! ### PLAIN: how many decimal digits a list of bytes begins with -/
def digB (c : UInt8) : Bool := decide (48 ≤ (c.toNat : Int)) && decide ((c.toNat : Int) ≤ 57)
def ld : List UInt8 → Nat
  | [] => 0
  | c :: l => if digB c then ld l + 1 else 0

theorem ld_le (l : List UInt8) : ld l ≤ l.length := by
  induction l with
  | nil => exact Nat.le_refl _
  | cons c l ih =>
    simp only [ld, List.length_cons]
    split <;> omega

theorem ld_dig (l : List UInt8) (i : Nat) (h : i < ld l) : digB (l.getD i 0) = true := by
  induction l generalizing i with
  | nil => simp [ld] at h
  | cons c l ih =>
    simp only [ld] at h
    split at h
    · cases i with
      | zero => simpa using ‹digB c = true›
      | succ i => simpa using ih i (by omega)
    · omega

theorem ld_stop (l : List UInt8) (h : ld l < l.length) : digB (l.getD (ld l) 0) = false := by
  induction l with
  | nil => simp at h
  | cons c l ih =>
    simp only [ld, List.length_cons] at h ⊢
    split
    · rw [if_pos ‹_›] at h
      simpa using ih (by omega)
    · simpa using ‹¬ digB c = true›

/-- The count is the one number with those three properties. -/
theorem ld_of (l : List UInt8) (r : Nat) (h1 : r ≤ l.length) (h2 : ∀ i, i < r → digB (l.getD i 0) = true) (h3 : r < l.length → digB (l.getD r 0) = false) : ld l = r := by
  rcases Nat.lt_trichotomy (ld l) r with h | h | h
  · have := ld_stop l (by omega)
    rw [h2 _ h] at this
    cases this
  · exact h
  · have := ld_dig l r h
    rw [h3 (by have := ld_le l; omega)] at this
    cases this

theorem ld_append (a b : List UInt8) : ld (a ++ b) = if ld a = a.length then a.length + ld b else ld a := by
  induction a with
  | nil => simp [ld]
  | cons c a ih =>
    simp only [List.cons_append, ld, List.length_cons]
    split
    · rw [ih]
      by_cases h : ld a = a.length
      · simp [h]; omega
      · simp [h]
    · rw [if_neg (by omega)]

theorem dig_true {c : UInt8} (h1 : 48 ≤ (c.toNat : Int)) (h2 : (c.toNat : Int) ≤ 57) : digB c = true := by simp [digB, h1, h2]
theorem dig_low {c : UInt8} (h1 : (c.toNat : Int) < 48) : digB c = false := by simp [digB]; omega
theorem dig_high {c : UInt8} (h1 : 57 < (c.toNat : Int)) : digB c = false := by simp [digB]; omega

theorem getD_byte (s : ByteArray) (k : Nat) (h : k < s.size) : s.data.toList.getD k 0 = s[k] := by
  have : k < s.data.toList.length := by simpa using h
  simp only [List.getD, List.getElem?_eq_getElem this, Option.getD_some]
  rfl
end Go.Proofs.Qxb6632280a
