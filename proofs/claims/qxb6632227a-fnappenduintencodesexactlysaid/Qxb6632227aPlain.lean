import Derived.WalkKit
/-! PLAIN: the encoding of an integer as bytes, and its laws. No Go text. -/
namespace Go.Proofs.Qxb6632227a.Plain

/-- What is left to write behind the first byte, and behind each further one. -/
def nxt (u : Nat) : Nat := (u - 128) / 128
def U (v : Nat) : Nat → Nat
  | 0 => (v - 240) / 16
  | i + 1 => nxt (U v i)
/-- How many bytes stand between the first and the last. -/
def stepsF : Nat → Nat → Nat
  | 0, _ => 0
  | f + 1, u => if u < 128 then 0 else stepsF f (nxt u) + 1
def M (v : Nat) : Nat := stepsF 9 (U v 0)
/-- The bytes. -/
def enc (v : Nat) : List Int :=
  if v < 240 then [(v : Int)] else ((240 + v % 16 : Nat) : Int) :: ((List.range (M v)).map (fun i => ((128 + U v i % 128 : Nat) : Int)) ++ [(U v (M v) : Int)])

def iter (u : Nat) : Nat → Nat
  | 0 => u
  | i + 1 => nxt (iter u i)
theorem iter_succ (u i : Nat) : iter u (i + 1) = iter (nxt u) i := by
  induction i with
  | zero => rfl
  | succ i ih => show nxt (iter u (i + 1)) = nxt (iter (nxt u) i); rw [ih]
theorem U_iter (v i : Nat) : U v i = iter (U v 0) i := by
  induction i with
  | zero => rfl
  | succ i ih => show nxt (U v i) = nxt (iter (U v 0) i); rw [ih]

theorem steps_ge (f u i : Nat) (h : i < stepsF f u) : 128 ≤ iter u i := by
  induction f generalizing u i with
  | zero => simp [stepsF] at h
  | succ f ih =>
    unfold stepsF at h
    split at h
    · omega
    · cases i with
      | zero => show 128 ≤ u; omega
      | succ i => rw [iter_succ]; exact ih (nxt u) i (by omega)

theorem steps_lt (f u : Nat) (h : u < 128 ^ f * 128) : iter u (stepsF f u) < 128 := by
  induction f generalizing u with
  | zero => simpa [stepsF, iter] using h
  | succ f ih =>
    unfold stepsF
    split
    · assumption
    · rw [iter_succ]
      refine ih (nxt u) ?_
      unfold nxt
      have : 128 ^ (f + 1) = 128 ^ f * 128 := Nat.pow_succ ..
      rw [this] at h
      have h2 : u - 128 < 128 * (128 ^ f * 128) := by omega
      exact Nat.div_lt_of_lt_mul h2

theorem steps_le (f u : Nat) : stepsF f u ≤ f := by
  induction f generalizing u with
  | zero => simp [stepsF]
  | succ f ih =>
    unfold stepsF
    split
    · omega
    · have := ih (nxt u); omega

theorem nxt_mono {u v : Nat} (h : u ≤ v) : nxt u ≤ nxt v := by unfold nxt; omega
theorem steps_mono (f u v : Nat) (h : u ≤ v) : stepsF f u ≤ stepsF f v := by
  induction f generalizing u v with
  | zero => simp [stepsF]
  | succ f ih =>
    unfold stepsF
    split
    · omega
    · rw [if_neg (by omega)]
      have := ih _ _ (nxt_mono h)
      omega

theorem M_ge (v i : Nat) (h : i < M v) : 128 ≤ U v i := by rw [U_iter]; exact steps_ge 9 _ i h
theorem U0_lt (v : Nat) (h : v < 18446744073709551616) : U v 0 < 1152921504606846976 := by unfold U; omega
theorem M_lt (v : Nat) (h : v < 18446744073709551616) : U v (M v) < 128 := by
  rw [U_iter]
  exact steps_lt 9 _ (by have := U0_lt v h; omega)
theorem U_bound (v : Nat) (h : v < 18446744073709551616) (i : Nat) : U v i < 1152921504606846976 := by
  induction i with
  | zero => exact U0_lt v h
  | succ i ih => show nxt (U v i) < _; unfold nxt; omega

/-- Never more than eight between. -/
theorem M_le (v : Nat) (h : v < 18446744073709551616) : M v ≤ 8 := by
  unfold M
  have h0 := U0_lt v h
  have : ∀ f u, u < 128 ^ f * 16 → stepsF 9 u ≤ f ∨ f ≥ 9 := by
    intro f u hu
    by_cases hf : f < 9
    · left
      clear h0 h
      have gen : ∀ g f u, u < 128 ^ f * 16 → stepsF g u ≤ f := by
        intro g
        induction g with
        | zero => intro f u _; simp [stepsF]
        | succ g ih =>
          intro f u hu
          unfold stepsF
          split
          · omega
          · cases f with
            | zero => omega
            | succ f =>
              have h3 : 128 ^ (f + 1) = 128 ^ f * 128 := Nat.pow_succ ..
              rw [h3] at hu
              have h2 : u - 128 < 128 * (128 ^ f * 16) := by omega
              have := ih f (nxt u) (Nat.div_lt_of_lt_mul h2)
              omega
      exact gen 9 f u hu
    · right; omega
  rcases this 8 (U v 0) (by omega) with h | h
  · exact h
  · omega

theorem U_mono {u v : Nat} (h : u ≤ v) : U u 0 ≤ U v 0 := by unfold U; omega
theorem M_mono {u v : Nat} (h : u ≤ v) : M u ≤ M v := steps_mono 9 _ _ (U_mono h)

theorem enc_length (v : Nat) : (enc v).length = if v < 240 then 1 else M v + 2 := by
  unfold enc
  split <;> simp
theorem enc_mono {u v : Nat} (h : u ≤ v) : (enc u).length ≤ (enc v).length := by
  rw [enc_length, enc_length]
  have := M_mono h
  split <;> split <;> omega

/-- Going back: what stood before is had from what follows. -/
theorem back (u : Nat) (h : 128 ≤ u) : u % 128 + 128 + 128 * nxt u = u := by unfold nxt; omega
theorem back0 (v : Nat) (h : 240 ≤ v) : 240 + v % 16 + 16 * U v 0 = v := by
  show 240 + v % 16 + 16 * ((v - 240) / 16) = v
  omega

/-! ### The bytes by their place -/
def byteAt (v : Nat) (i : Nat) : Int :=
  if i = 0 then (if v < 240 then (v : Int) else ((240 + v % 16 : Nat) : Int)) else if i ≤ M v then ((128 + U v (i - 1) % 128 : Nat) : Int) else (U v (M v) : Int)

theorem byteAt_zero (v : Nat) (h : 240 ≤ v) : byteAt v 0 = ((240 + v % 16 : Nat) : Int) := by
  unfold byteAt
  rw [if_pos rfl, if_neg (by omega)]
theorem byteAt_small (v : Nat) (h : v < 240) : byteAt v 0 = (v : Int) := by
  unfold byteAt
  rw [if_pos rfl, if_pos h]
theorem byteAt_mid (v i : Nat) (h : i < M v) : byteAt v (i + 1) = ((128 + U v i % 128 : Nat) : Int) := by
  unfold byteAt
  rw [if_neg (by omega), if_pos (by omega), Nat.add_sub_cancel]
theorem byteAt_last (v : Nat) : byteAt v (M v + 1) = (U v (M v) : Int) := by
  unfold byteAt
  rw [if_neg (by omega), if_neg (by omega)]

theorem enc_get (v i : Nat) (h : i < (enc v).length) : (enc v)[i]? = some (byteAt v i) := by
  rw [enc_length] at h
  unfold enc byteAt
  by_cases hv : v < 240
  · simp only [hv, if_true] at h ⊢
    obtain rfl : i = 0 := by omega
    simp
  · simp only [hv, if_false] at h ⊢
    cases i with
    | zero => simp
    | succ i =>
      simp only [List.getElem?_cons_succ, Nat.add_one_ne_zero, if_false, Nat.add_sub_cancel]
      by_cases hi : i + 1 ≤ M v
      · rw [if_pos hi, List.getElem?_append_left (by simp; omega)]
        simp [show i < M v by omega]
      · rw [if_neg hi]
        obtain rfl : i = M v := by omega
        rw [List.getElem?_append_right (by simp)]
        simp

theorem U_eq_of {u v : Nat} (hu : 240 ≤ u) (hv : 240 ≤ v) (hu2 : u < 18446744073709551616) (hv2 : v < 18446744073709551616) (h : enc u = enc v) : u = v := by
  have hl := congrArg List.length h
  rw [enc_length, enc_length, if_neg (by omega), if_neg (by omega)] at hl
  have hM : M u = M v := by omega
  have hb : ∀ i, i < M v + 2 → byteAt u i = byteAt v i := by
    intro i hi
    have e1 := enc_get u i (by rw [enc_length, if_neg (by omega)]; omega)
    have e2 := enc_get v i (by rw [enc_length, if_neg (by omega)]; omega)
    rw [h, e2] at e1
    exact (Option.some.inj e1).symm
  -- from the last byte back
  have key : ∀ j, j ≤ M v → U u (M v - j) = U v (M v - j) := by
    intro j
    induction j with
    | zero =>
      intro _
      have := hb (M v + 1) (by omega)
      rw [byteAt_last, ← hM, byteAt_last, hM] at this
      simp only [Nat.sub_zero]
      omega
    | succ j ih =>
      intro hj
      have e := ih (by omega)
      have e3 : M v - j = (M v - (j + 1)) + 1 := by omega
      rw [e3] at e
      have e4 : nxt (U u (M v - (j + 1))) = nxt (U v (M v - (j + 1))) := e
      have := hb (M v - (j + 1) + 1) (by omega)
      rw [byteAt_mid u _ (by omega), byteAt_mid v _ (by omega)] at this
      have g1 := back _ (M_ge u (M v - (j + 1)) (by omega))
      have g2 := back _ (M_ge v (M v - (j + 1)) (by omega))
      omega
  have k0 := key (M v) (Nat.le_refl _)
  rw [Nat.sub_self] at k0
  have b0 := hb 0 (by omega)
  rw [byteAt_zero u hu, byteAt_zero v hv] at b0
  have g1 := back0 u hu
  have g2 := back0 v hv
  omega

theorem enc_inj {u v : Nat} (hu2 : u < 18446744073709551616) (hv2 : v < 18446744073709551616) (h : enc u = enc v) : u = v := by
  have e1 := enc_get u 0 (by rw [enc_length]; split <;> omega)
  have e2 := enc_get v 0 (by rw [enc_length]; split <;> omega)
  rw [h, e2] at e1
  have b := Option.some.inj e1
  by_cases hu : u < 240
  · by_cases hv : v < 240
    · rw [byteAt_small u hu, byteAt_small v hv] at b; omega
    · rw [byteAt_small u hu, byteAt_zero v (by omega)] at b; omega
  · by_cases hv : v < 240
    · rw [byteAt_zero u (by omega), byteAt_small v hv] at b; omega
    · exact U_eq_of (by omega) (by omega) hu2 hv2 h

/-- Each byte fits a byte. -/
theorem byte_range (v i : Nat) (h : v < 18446744073709551616) : 0 ≤ byteAt v i ∧ byteAt v i ≤ 255 := by
  have := M_lt v h
  unfold byteAt
  split
  · split <;> omega
  · split <;> omega

end Go.Proofs.Qxb6632227a.Plain
