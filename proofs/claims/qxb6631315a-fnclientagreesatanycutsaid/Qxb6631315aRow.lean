import Derived.Test.Qxb6631315aAll
namespace Go.Proofs.Qxb6631315a
open Go.RowKit
set_option linter.unusedSimpArgs false
set_option linter.unusedVariables false

/-- One client's three cells. -/
def trip (s : ByteArray) (a : Option Addr) (l c : Nat) (p : Option Addr) : List Value := [.string s, .slice a l c, .pointer p]

/-- The cells of m clients. -/
def rows (f : Nat → List Value) (m : Nat) : List Value := (List.range m).flatMap f

theorem rows_succ (f : Nat → List Value) (m : Nat) : rows f (m + 1) = rows f m ++ f m := by
  simp [rows, List.range_succ]

theorem rows_length (f : Nat → List Value) (hf : ∀ i, (f i).length = 3) (m : Nat) : (rows f m).length = m * 3 := by
  induction m with
  | zero => rfl
  | succ m ih => rw [rows_succ, List.length_append, ih, hf]; omega

theorem rows_get (f : Nat → List Value) (hf : ∀ i, (f i).length = 3) (m i j : Nat) (hi : i < m) (hj : j < 3) : (rows f m)[i * 3 + j]? = (f i)[j]? := by
  induction m with
  | zero => omega
  | succ m ih =>
    rw [rows_succ]
    by_cases h : i < m
    · rw [List.getElem?_append_left (by rw [rows_length f hf]; omega)]
      exact ih h
    · obtain rfl : i = m := by omega
      rw [List.getElem?_append_right (by rw [rows_length f hf]; omega), rows_length f hf]
      congr 1
      omega

theorem rows_congr {f g : Nat → List Value} {m : Nat} (h : ∀ i, i < m → f i = g i) : rows f m = rows g m := by
  induction m with
  | zero => rfl
  | succ m ih => rw [rows_succ, rows_succ, ih (fun i hi => h i (by omega)), h m (by omega)]

theorem rows_add (f : Nat → List Value) (m k : Nat) : rows f (m + k) = rows f m ++ rows (fun i => f (m + i)) k := by
  induction k with
  | zero => simp [rows]
  | succ k ih => rw [← Nat.add_assoc, rows_succ, ih, rows_succ, List.append_assoc]

/-- One put in at place p. -/
def put {α : Type} (p : Nat) (x : α) (f : Nat → α) (i : Nat) : α := if i < p then f i else if i = p then x else f (i - 1)

theorem rows_put (f : Nat → List Value) (x : List Value) (p k : Nat) : rows f p ++ x ++ rows (fun i => f (p + i)) k = rows (put p x f) (p + 1 + k) := by
  rw [rows_add, rows_succ]
  congr 1
  · congr 1
    · exact rows_congr fun i hi => by simp [put, hi]
    · simp [put]
  · refine rows_congr fun i hi => ?_
    simp only [put]
    rw [if_neg (by omega), if_neg (by omega)]
    congr 1
    omega

theorem put_trip (p : Nat) (s : ByteArray) (a : Option Addr) (l c : Nat) (r : Option Addr) (ID : Nat → ByteArray) (A : Nat → Option Addr) (L C : Nat → Nat) (R : Nat → Option Addr) (i : Nat) :
    put p (trip s a l c r) (fun i => trip (ID i) (A i) (L i) (C i) (R i)) i = trip (put p s ID i) (put p a A i) (put p l L i) (put p c C i) (put p r R i) := by
  simp only [put]
  split
  · rfl
  · split <;> rfl

theorem trip_one (s : ByteArray) (a : Option Addr) (l c : Nat) (r : Option Addr) : ∀ u ∈ trip s a l c r, u.oneCell' = true := by
  intro u hu
  simp [trip] at hu
  rcases hu with rfl | rfl | rfl <;> rfl

theorem rows_one (ID : Nat → ByteArray) (A : Nat → Option Addr) (L C : Nat → Nat) (R : Nat → Option Addr) (m : Nat) : ∀ u ∈ rows (fun i => trip (ID i) (A i) (L i) (C i) (R i)) m, u.oneCell' = true := by
  intro u hu
  obtain ⟨i, _, hi⟩ := List.mem_flatMap.1 hu
  exact trip_one _ _ _ _ _ u hi

/-- The three cells of each of n clients, read off a row in memory. -/
def RowAt (w : World) (B o n : Nat) (ID : Nat → ByteArray) (A : Nat → Option Addr) (L C : Nat → Nat) (R : Nat → Option Addr) : Prop :=
  ∀ i, i < n → w.cell? ⟨B, o + i * 3, none⟩ = some (.string (ID i)) ∧ w.cell? ⟨B, o + i * 3 + 1, none⟩ = some (.slice (A i) (L i) (C i)) ∧ w.cell? ⟨B, o + i * 3 + 2, none⟩ = some (.pointer (R i))

theorem RowAt.later {w w' : World} {B o n : Nat} {ID : Nat → ByteArray} {A : Nat → Option Addr} {L C : Nat → Nat} {R : Nat → Option Addr} (h : RowAt w B o n ID A L C R) (hb : Below w.heap.size w w') : RowAt w' B o n ID A L C R :=
  fun i hi => ⟨below_cell hb (h i hi).1, below_cell hb (h i hi).2.1, below_cell hb (h i hi).2.2⟩

theorem BuiltTo.rowAt {w : World} {B n : Nat} {ID : Nat → ByteArray} {A : Nat → Option Addr} {L C : Nat → Nat} {R : Nat → Option Addr} (h : BuiltTo w B n n ID A L C R) : RowAt w B 0 n ID A L C R := by
  intro i hi
  obtain ⟨h1, h2, h3, _⟩ := h.cells hi
  simp only [Nat.zero_add]
  exact ⟨h1, h2, h3⟩

/-- The cells that an append of clients p .. p + m reads. -/
theorem RowAt.src {w : World} {B n : Nat} {ID : Nat → ByteArray} {A : Nat → Option Addr} {L C : Nat → Nat} {R : Nat → Option Addr} (h : RowAt w B 0 n ID A L C R) (p m : Nat) (hpm : p + m ≤ n) :
    ∀ j u, (rows (fun i => trip (ID (p + i)) (A (p + i)) (L (p + i)) (C (p + i)) (R (p + i))) m)[j]? = some u → w.cell? ((⟨B, p * 3, none⟩ : Addr).add j) = some u := by
  intro j u hu
  have hj : j < m * 3 := by
    have := (List.getElem?_eq_some_iff.1 hu).1
    rwa [rows_length _ (fun i => by simp [trip])] at this
  have e : j = j / 3 * 3 + j % 3 := by omega
  have hlt : j % 3 < 3 := by omega
  have hi : j / 3 < m := by omega
  rw [e, rows_get _ (fun i => by simp [trip]) m _ _ hi hlt] at hu
  obtain ⟨h1, h2, h3⟩ := h (p + j / 3) (by omega)
  rw [Addr.add_lit]
  generalize hr : j % 3 = r at *
  have o0 : 0 + (p + j / 3) * 3 = p * 3 + j / 3 * 3 := by omega
  match r, hlt with
  | 0, _ =>
    simp [trip] at hu
    subst hu
    rw [show p * 3 + j = 0 + (p + j / 3) * 3 by omega]
    exact h1
  | 1, _ =>
    simp [trip] at hu
    subst hu
    rw [show p * 3 + j = 0 + (p + j / 3) * 3 + 1 by omega]
    exact h2
  | 2, _ =>
    simp [trip] at hu
    subst hu
    rw [show p * 3 + j = 0 + (p + j / 3) * 3 + 2 by omega]
    exact h3

/-- What the row holds that has been appended to. -/
theorem rowAt_owned {w : World} {base g n cap : Nat} {ID : Nat → ByteArray} {A : Nat → Option Addr} {L C : Nat → Nat} {R : Nat → Option Addr}
    (h : w.ownsRow base 41 3 (.slice (some ⟨g, 0, none⟩) n cap) n (rows (fun i => trip (ID i) (A i) (L i) (C i) (R i)) n)) : RowAt w g 0 n ID A L C R := by
  intro i hi
  have g0 := h.cellAt (i * 3) (by omega)
  have g1 := h.cellAt (i * 3 + 1) (by omega)
  have g2 := h.cellAt (i * 3 + 2) (by omega)
  have e0 := rows_get (fun i => trip (ID i) (A i) (L i) (C i) (R i)) (fun i => by simp [trip]) n i 0 hi (by omega)
  have e1 := rows_get (fun i => trip (ID i) (A i) (L i) (C i) (R i)) (fun i => by simp [trip]) n i 1 hi (by omega)
  have e2 := rows_get (fun i => trip (ID i) (A i) (L i) (C i) (R i)) (fun i => by simp [trip]) n i 2 hi (by omega)
  simp only [Nat.add_zero] at e0
  rw [e0] at g0
  rw [e1] at g1
  rw [e2] at g2
  simp only [Nat.zero_add]
  exact ⟨by simpa [trip] using g0, by simpa [trip] using g1, by simpa [trip] using g2⟩

/-! ### The first hit -/
def FirstAt (hit : Nat → Bool) (n k : Nat) : Prop := k < n ∧ hit k = true ∧ ∀ i, i < k → hit i = false
def NoneAt (hit : Nat → Bool) (n : Nat) : Prop := ∀ i, i < n → hit i = false

theorem FirstAt.unique {hit : Nat → Bool} {n k m : Nat} (h : FirstAt hit n k) (h' : FirstAt hit n m) : k = m := by
  rcases Nat.lt_trichotomy k m with h1 | h1 | h1
  · have := h'.2.2 k h1; rw [h.2.1] at this; cases this
  · exact h1
  · have := h.2.2 m h1; rw [h'.2.1] at this; cases this
theorem FirstAt.not_none {hit : Nat → Bool} {n k : Nat} (h : FirstAt hit n k) (h' : NoneAt hit n) : False := by
  have := h' k h.1; rw [h.2.1] at this; cases this

/-- Is there a hit among the first k? -/
def anyB (hit : Nat → Bool) : Nat → Bool
  | 0 => false
  | k + 1 => anyB hit k || hit k

theorem anyB_false {hit : Nat → Bool} {k : Nat} (h : ∀ i, i < k → hit i = false) : anyB hit k = false := by
  induction k with
  | zero => rfl
  | succ k ih => simp [anyB, ih (fun i hi => h i (by omega)), h k (by omega)]
theorem anyB_true {hit : Nat → Bool} {k i : Nat} (hi : i < k) (h : hit i = true) : anyB hit k = true := by
  induction k with
  | zero => omega
  | succ k ih =>
    by_cases e : i < k
    · simp [anyB, ih e]
    · obtain rfl : i = k := by omega
      simp [anyB, h]

/-- Where the first hit lies behind one more has been put in. -/
theorem first_put_before {hit : Nat → Bool} {n p k : Nat} {x : Bool} (h : FirstAt hit n k) (hk : k < p) : FirstAt (put p x hit) (n + 1) k := by
  refine ⟨by have := h.1; omega, by simp [put, hk, h.2.1], fun i hi => ?_⟩
  rw [put, if_pos (by omega)]
  exact h.2.2 i hi
theorem first_put_at {hit : Nat → Bool} {n p : Nat} (hp : p ≤ n) (h : ∀ i, i < p → hit i = false) : FirstAt (put p true hit) (n + 1) p := by
  refine ⟨by omega, by simp [put], fun i hi => ?_⟩
  rw [put, if_pos hi]
  exact h i hi
theorem first_put_behind {hit : Nat → Bool} {n p k : Nat} (h : FirstAt hit n k) (hk : p ≤ k) : FirstAt (put p false hit) (n + 1) (k + 1) := by
  refine ⟨by have := h.1; omega, ?_, fun i hi => ?_⟩
  · rw [put, if_neg (by omega), if_neg (by omega)]
    simpa using h.2.1
  · rw [put]
    split
    · exact h.2.2 i (by omega)
    · split
      · rfl
      · exact h.2.2 (i - 1) (by omega)
theorem none_put {hit : Nat → Bool} {n p : Nat} (hp : p ≤ n) (h : NoneAt hit n) : NoneAt (put p false hit) (n + 1) := by
  intro i hi
  rw [put]
  split
  · exact h i (by omega)
  · split
    · rfl
    · exact h (i - 1) (by omega)

end Go.Proofs.Qxb6631315a
