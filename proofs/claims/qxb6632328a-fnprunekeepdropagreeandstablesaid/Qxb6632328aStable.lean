import Derived.Test.Qxb6632328aPlain
namespace Go.Proofs.Qxb6632328a
set_option linter.unusedSimpArgs false

theorem tw_le (nil : Nat → Bool) (l : List Nat) : (l.takeWhile nil).length ≤ l.length := by
  induction l with
  | nil => simp
  | cons x l ih => cases h : nil x <;> simp [List.takeWhile_cons, h, ih]
theorem tw_lt (nil : Nat → Bool) (l : List Nat) (q : Nat) (h : q < (l.takeWhile nil).length) : nil (l.getD q 0) = true := by
  induction l generalizing q with
  | nil => simp at h
  | cons x l ih =>
    cases hx : nil x
    · simp [List.takeWhile_cons, hx] at h
    · simp only [List.takeWhile_cons, hx, if_true, List.length_cons] at h
      cases q with
      | zero => simpa using hx
      | succ q => simpa using ih q (by omega)
theorem tw_end (nil : Nat → Bool) (l : List Nat) (h : (l.takeWhile nil).length < l.length) : nil (l.getD (l.takeWhile nil).length 0) = false := by
  induction l with
  | nil => simp at h
  | cons x l ih =>
    cases hx : nil x
    · simp [List.takeWhile_cons, hx]
    · simp only [List.takeWhile_cons, hx, if_true, List.length_cons] at h ⊢
      simpa using ih (by omega)
theorem dw_drop (nil : Nat → Bool) (l : List Nat) : l.dropWhile nil = l.drop (l.takeWhile nil).length := by
  induction l with
  | nil => rfl
  | cons x l ih => cases h : nil x <;> simp [List.takeWhile_cons, List.dropWhile_cons, h, ih]
theorem tw_take (nil : Nat → Bool) (l : List Nat) : l.takeWhile nil = l.take (l.takeWhile nil).length := by
  induction l with
  | nil => rfl
  | cons x l ih =>
    cases h : nil x
    · simp [List.takeWhile_cons, h]
    · simp only [List.takeWhile_cons, h, if_true, List.length_cons, List.take_succ_cons]
      rw [← ih]
theorem dw_at (nil : Nat → Bool) (l : List Nat) (j : Nat) : (l.dropWhile nil).getD j 0 = l.getD ((l.takeWhile nil).length + j) 0 := by
  rw [dw_drop]; simp [List.getD, List.getElem?_drop]
theorem dw_len (nil : Nat → Bool) (l : List Nat) : (l.dropWhile nil).length = l.length - (l.takeWhile nil).length := by
  rw [dw_drop]; simp
theorem dw_head (nil : Nat → Bool) (l : List Nat) (h : 0 < (l.dropWhile nil).length) : nil ((l.dropWhile nil).getD 0 0) = false := by
  rw [dw_at, Nat.add_zero]
  rw [dw_len] at h
  exact tw_end nil l (by omega)

theorem st_all (keep : Nat → Bool → Bool) (n : Nat) (h : ∀ j, j < n → keep j (decide (j = 0)) = true) : st keep n = (List.range n, []) := by
  have key : ∀ k, k ≤ n → st keep k = (List.range k, []) := by
    intro k
    induction k with
    | zero => intro _; rfl
    | succ k ih =>
      intro hk
      simp only [st, ih (by omega)]
      have e : (List.range k).isEmpty = decide (k = 0) := by cases k <;> simp [List.range_succ]
      rw [e, h k (by omega)]
      simp [List.range_succ]
  exact key n (Nat.le_refl _)
theorem keptL_mem (k : Nat → Bool) (n x : Nat) (h : x ∈ keptL k n) : x < n ∧ k x = true := by
  obtain ⟨h1, h2⟩ := List.mem_filter.1 h
  exact ⟨List.mem_range.1 h1, h2⟩
theorem keptL_at (k : Nat → Bool) (n j : Nat) (h : j < (keptL k n).length) : (keptL k n).getD j 0 < n ∧ k ((keptL k n).getD j 0) = true := by
  refine keptL_mem k n _ ?_
  simp [List.getD, h]
theorem keptL_asc (k : Nat → Bool) (n i j : Nat) (hij : i < j) (hj : j < (keptL k n).length) : (keptL k n).getD i 0 < (keptL k n).getD j 0 := by
  have hp : (keptL k n).Pairwise (· < ·) := List.Pairwise.filter _ (List.pairwise_lt_range (n := n))
  have := List.pairwise_iff_getElem.1 hp i j (by omega) hj hij
  simpa [List.getD, hj, show i < (keptL k n).length by omega] using this
theorem asc_lt {n : Nat} {T : Nat → Nat} (ha : ∀ i, i + 1 < n → T i < T (i + 1)) : ∀ j i, i ≤ j → j < n → T i ≤ T j := by
  intro j
  induction j with
  | zero => intro i hi _; obtain rfl : i = 0 := by omega
            exact Nat.le_refl _
  | succ j ih =>
    intro i hi hj
    by_cases h : i = j + 1
    · subst h; exact Nat.le_refl _
    · exact Nat.le_trans (ih i (by omega) (by omega)) (Nat.le_of_lt (ha j hj))
theorem stable (n m : Nat) (T U : Nat → Nat) (fl : Nat) (nil : Nat → Bool) (ha : ∀ i, i + 1 < n → T i < T (i + 1)) (KD : List Nat) (hKD : KD = (keptL (k1 n m T U fl) n).dropWhile nil) :
    st (keepOf (k1 KD.length m (fun j => T (KD.getD j 0)) U fl) (fun j => nil (KD.getD j 0)) true) KD.length = (List.range KD.length, []) := by
  have hlen : KD.length = (keptL (k1 n m T U fl) n).length - ((keptL (k1 n m T U fl) n).takeWhile nil).length := by rw [hKD, dw_len]
  have hat : ∀ j, KD.getD j 0 = (keptL (k1 n m T U fl) n).getD (((keptL (k1 n m T U fl) n).takeWhile nil).length + j) 0 := by intro j; rw [hKD, dw_at]
  refine st_all _ _ fun j hj => ?_
  have h1 : k1 KD.length m (fun j => T (KD.getD j 0)) U fl j = true := by
    obtain ⟨hx1, hx2⟩ := keptL_at (k1 n m T U fl) n (((keptL (k1 n m T U fl) n).takeWhile nil).length + j) (by omega)
    rw [← hat] at hx1 hx2
    by_cases hl : j + 1 = KD.length
    · simp [k1, hl]
    · obtain ⟨hy1, hy2⟩ := keptL_at (k1 n m T U fl) n (((keptL (k1 n m T U fl) n).takeWhile nil).length + (j + 1)) (by omega)
      have hxy := keptL_asc (k1 n m T U fl) n (((keptL (k1 n m T U fl) n).takeWhile nil).length + j) (((keptL (k1 n m T U fl) n).takeWhile nil).length + (j + 1)) (by omega) (by omega)
      rw [← hat, ← hat] at hxy
      rw [← hat] at hy1
      have hT := asc_lt ha (KD.getD (j + 1) 0) (KD.getD j 0 + 1) (by omega) hy1
      simp only [k1, Bool.or_eq_true, decide_eq_true_eq, seenB_iff] at hx2 ⊢
      rcases hx2 with (h | h) | ⟨i, hi, h2, h3⟩
      · omega
      · exact .inl (.inr (by omega))
      · exact .inr ⟨i, hi, h2, by omega⟩
  simp only [keepOf, h1, Bool.true_and, Bool.and_true]
  by_cases h0 : j = 0
  · subst h0
    have : nil (KD.getD 0 0) = false := by rw [hKD] at hj ⊢; exact dw_head nil _ hj
    rw [this]; rfl
  · simp [h0]
theorem plain8 (n m : Nat) (T U : Nat → Nat) (fl : Nat) (nil : Nat → Bool) (ha : ∀ i, i + 1 < n → T i < T (i + 1)) : ∃ (KK zK KD zD : List Nat) (L : Nat),
    ((st (keepOf (k1 n m T U fl) nil false) n).1 = KK ∧ (st (keepOf (k1 n m T U fl) nil false) n).2.map T = zK) ∧ ((st (keepOf (k1 n m T U fl) nil true) n).1 = KD ∧ (st (keepOf (k1 n m T U fl) nil true) n).2.map T = zD) ∧
    KK.length + zK.length = n ∧ mergeL (KK.map T) zK = (List.range n).map T ∧ (∀ j, j < KK.length → KK.getD j 0 < n) ∧
    (L ≤ KK.length ∧ (∀ q, q < L → nil (KK.getD q 0) = true) ∧ (L < KK.length → nil (KK.getD L 0) = false)) ∧
    (KK.length = L + KD.length ∧ ∀ j, KD.getD j 0 = KK.getD (L + j) 0) ∧ mergeL zK ((KK.take L).map T) = zD ∧
    st (keepOf (k1 KD.length m (fun j => T (KD.getD j 0)) U fl) (fun j => nil (KD.getD j 0)) true) KD.length = (List.range KD.length, []) := by
  refine ⟨_, _, _, _, ((keptL (k1 n m T U fl) n).takeWhile nil).length, ⟨rfl, rfl⟩, ⟨rfl, rfl⟩, ?_⟩
  have hl := st_len (keepOf (k1 n m T U fl) nil false) n
  rw [st_keep] at hl ⊢
  rw [st_drop]
  have h1 := tw_le nil (keptL (k1 n m T U fl) n)
  refine ⟨by simpa using hl, merge_all n T _ ha, fun j hj => (keptL_at _ n j hj).1, ⟨h1, tw_lt nil _, tw_end nil _⟩, ⟨by simp only [dw_len]; omega, dw_at nil _⟩, ?_, stable n m T U fl nil ha _ rfl⟩
  rw [← tw_take]
  exact merge_lead n T _ nil ha
end Go.Proofs.Qxb6632328a
