import Derived.Test.Qxb6632328aHole
namespace Go.Proofs.Qxb6632328a
set_option linter.unusedSimpArgs false

/-! ### What pruneMerge computes -/
def mergeIn (x : Nat) (f : List Nat → List Nat) : List Nat → List Nat
  | [] => x :: f []
  | y :: b => if x ≤ y then x :: f (y :: b) else y :: mergeIn x f b
def mergeL : List Nat → List Nat → List Nat
  | [] => fun b => b
  | x :: a => mergeIn x (mergeL a)
theorem mergeL_nil (a : List Nat) : mergeL a [] = a := by
  induction a with
  | nil => rfl
  | cons x a ih => simp [mergeL, mergeIn, ih]
theorem mergeL_nil' (b : List Nat) : mergeL [] b = b := rfl
theorem mergeL_cons (x : Nat) (a : List Nat) (y : Nat) (b : List Nat) : mergeL (x :: a) (y :: b) = if x ≤ y then x :: mergeL a (y :: b) else y :: mergeL (x :: a) b := rfl
theorem mergeL_len (a b : List Nat) : (mergeL a b).length = a.length + b.length := by
  induction a generalizing b with
  | nil => simp [mergeL_nil']
  | cons x a iha =>
    induction b with
    | nil => simp [mergeL_nil]
    | cons y b ihb =>
      rw [mergeL_cons]
      split
      · simp [iha]; omega
      · simp [ihb]; omega

/-- Where the first of the second list is smaller, or nothing else is left. -/
theorem mergeL_left (x : Nat) (a b : List Nat) (h : ∀ y ∈ b, x < y) : mergeL (x :: a) b = x :: mergeL a b := by
  cases b with
  | nil => simp [mergeL_nil]
  | cons y b => rw [mergeL_cons, if_pos (Nat.le_of_lt (h y (by simp)))]
theorem mergeL_right (y : Nat) (a b : List Nat) (h : ∀ x ∈ a, y < x) : mergeL a (y :: b) = y :: mergeL a b := by
  cases a with
  | nil => simp [mergeL_nil']
  | cons x a => rw [mergeL_cons, if_neg (by have := h x (by simp); omega)]
/-- Two parts of an ascending list, merged. -/
theorem mergeL_parts (T : Nat → Nat) (p q : Nat → Bool) (hpq : ∀ i, ¬ (p i = true ∧ q i = true)) : ∀ l : List Nat, l.Pairwise (fun i j => T i < T j) →
    mergeL ((l.filter p).map T) ((l.filter q).map T) = (l.filter fun i => p i || q i).map T
  | [], _ => by simp [mergeL_nil']
  | i :: l, h => by
    have ih := mergeL_parts T p q hpq l h.of_cons
    have hi : ∀ (r : Nat → Bool), ∀ y ∈ (l.filter r).map T, T i < y := by
      intro r y hy
      obtain ⟨j, hj, rfl⟩ := List.mem_map.1 hy
      exact (List.pairwise_cons.1 h).1 j (List.mem_filter.1 hj).1
    have := hpq i
    cases hp : p i with
    | true =>
      have hq : q i = false := by cases hq : q i with
        | true => exact absurd ⟨hp, hq⟩ this
        | false => rfl
      simp only [List.filter_cons, hp, hq, if_true, Bool.or_false, List.map_cons]
      simp only [Bool.false_eq_true, if_false]
      rw [mergeL_left _ _ _ (hi q), ih]
    | false =>
      cases hq : q i with
      | true =>
        simp only [List.filter_cons, hp, hq, if_true, Bool.or_true, List.map_cons]
        simp only [Bool.false_eq_true, if_false]
        rw [mergeL_right _ _ _ (hi p), ih]
      | false =>
        simp only [List.filter_cons, hp, hq, Bool.or_false, Bool.false_eq_true, if_false]
        exact ih

/-! ### What Prune keeps, as lists -/
def keptL (k : Nat → Bool) (n : Nat) : List Nat := (List.range n).filter k
theorem keptL_succ (k : Nat → Bool) (n : Nat) : keptL k (n + 1) = if k n then keptL k n ++ [n] else keptL k n := by
  simp only [keptL, List.range_succ, List.filter_append]
  cases h : k n <;> simp [h]
theorem st_keep (k nil : Nat → Bool) (n : Nat) : st (keepOf k nil false) n = (keptL k n, (List.range n).filter fun i => !k i) := by
  induction n with
  | zero => rfl
  | succ n ih =>
    simp only [st, ih, keptL_succ, List.range_succ, List.filter_append]
    cases h : k n <;> simp [keepOf, h]
def lead (k nil : Nat → Bool) (i : Nat) : Bool := k i && (keptL k (i + 1)).all nil
theorem dropWhile_all (nil : Nat → Bool) (l : List Nat) : (l.dropWhile nil).isEmpty = l.all nil := by
  induction l with
  | nil => rfl
  | cons x l ih => cases h : nil x <;> simp [List.dropWhile_cons, h, ih]
theorem dropWhile_snoc (nil : Nat → Bool) (l : List Nat) (x : Nat) : (l ++ [x]).dropWhile nil = if l.all nil && nil x then [] else l.dropWhile nil ++ [x] := by
  induction l with
  | nil => cases h : nil x <;> simp [List.dropWhile_cons, h]
  | cons y l ih => cases h : nil y <;> simp [List.dropWhile_cons, h, ih]
theorem takeWhile_snoc (nil : Nat → Bool) (l : List Nat) (x : Nat) : (l ++ [x]).takeWhile nil = if l.all nil && nil x then l ++ [x] else l.takeWhile nil := by
  induction l with
  | nil => cases h : nil x <;> simp [List.takeWhile_cons, h]
  | cons y l ih =>
    cases h : nil y
    · simp [List.takeWhile_cons, h]
    · simp only [List.cons_append, List.takeWhile_cons, h, if_true, ih, List.all_cons, Bool.true_and]
      split <;> rfl
theorem all_takeWhile (nil : Nat → Bool) (l : List Nat) (h : l.all nil = true) : l.takeWhile nil = l := by
  induction l with
  | nil => rfl
  | cons y l ih =>
    simp only [List.all_cons, Bool.and_eq_true] at h
    simp [List.takeWhile_cons, h.1, ih h.2]
theorem st_drop (k nil : Nat → Bool) (n : Nat) : st (keepOf k nil true) n = ((keptL k n).dropWhile nil, (List.range n).filter fun i => !k i || lead k nil i) := by
  induction n with
  | zero => rfl
  | succ n ih =>
    simp only [st, ih, dropWhile_all, List.range_succ, List.filter_append]
    cases h : k n
    · simp [keepOf, h, keptL_succ]
    · have e : lead k nil n = ((keptL k n).all nil && nil n) := by simp [lead, h, keptL_succ]
      have e2 : keptL k (n + 1) = keptL k n ++ [n] := by simp [keptL_succ, h]
      rw [e2, dropWhile_snoc]
      cases h2 : ((keptL k n).all nil && nil n)
      · simp [keepOf, h, h2, e]
      · have h3 : (keptL k n).all nil = true := by simp only [Bool.and_eq_true] at h2; exact h2.1
        have h4 : (keptL k n).dropWhile nil = [] := by
          have := dropWhile_all nil (keptL k n)
          rw [h3] at this
          exact List.isEmpty_iff.1 this
        simp [keepOf, h, h2, e, h4]
theorem lead_take (k nil : Nat → Bool) (n : Nat) : (keptL k n).takeWhile nil = (List.range n).filter (lead k nil) := by
  induction n with
  | zero => rfl
  | succ n ih =>
    rw [keptL_succ, List.range_succ, List.filter_append, ← ih]
    cases h : k n
    · simp [lead, h]
    · have e : lead k nil n = ((keptL k n).all nil && nil n) := by simp [lead, h, keptL_succ]
      simp only [if_true]
      rw [takeWhile_snoc]
      cases h2 : ((keptL k n).all nil && nil n)
      · simp [e, h2]
      · have h3 : (keptL k n).all nil = true := by simp only [Bool.and_eq_true] at h2; exact h2.1
        simp [e, h2, all_takeWhile nil _ h3]
theorem range_pair (n : Nat) (T : Nat → Nat) (ha : ∀ i, i + 1 < n → T i < T (i + 1)) : (List.range n).Pairwise fun i j => T i < T j := by
  have key : ∀ j i, i < j → j < n → T i < T j := by
    intro j
    induction j with
    | zero => intro i hi; omega
    | succ j ih =>
      intro i hi hj
      by_cases h : i = j
      · subst h; exact ha i hj
      · exact Nat.lt_trans (ih i (by omega) (by omega)) (ha j hj)
  refine List.Pairwise.imp_of_mem ?_ (List.pairwise_lt_range (n := n))
  intro i j hi hj hij
  exact key j i hij (List.mem_range.1 hj)
theorem merge_all (n : Nat) (T : Nat → Nat) (k : Nat → Bool) (ha : ∀ i, i + 1 < n → T i < T (i + 1)) : mergeL ((keptL k n).map T) (((List.range n).filter fun i => !k i).map T) = (List.range n).map T := by
  rw [keptL, mergeL_parts T k (fun i => !k i) (by intro i; cases k i <;> simp) _ (range_pair n T ha)]
  congr 1
  rw [List.filter_eq_self]
  intro i _; cases k i <;> rfl
theorem merge_lead (n : Nat) (T : Nat → Nat) (k nil : Nat → Bool) (ha : ∀ i, i + 1 < n → T i < T (i + 1)) :
    mergeL (((List.range n).filter fun i => !k i).map T) (((keptL k n).takeWhile nil).map T) = ((List.range n).filter fun i => !k i || lead k nil i).map T := by
  rw [lead_take, mergeL_parts T (fun i => !k i) (lead k nil) (by intro i; cases h : k i <;> simp [lead, h]) _ (range_pair n T ha)]
end Go.Proofs.Qxb6632328a
