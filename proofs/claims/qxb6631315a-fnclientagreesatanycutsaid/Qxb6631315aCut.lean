import Derived.Test.Qxb6631315aLaws
namespace Go.Proofs.Qxb6631315a
open Go.RowKit
set_option linter.unusedSimpArgs false
set_option linter.unusedVariables false

/-- What the backward scan has found from place j on. -/
def Scan (hit : Nat → Bool) (n j : Nat) (kz : Int) : Prop :=
  (kz = -1 ∧ ∀ i, j ≤ i → i < n → hit i = false) ∨ ∃ m : Nat, kz = (m : Int) ∧ j ≤ m ∧ m < n ∧ hit m = true ∧ ∀ i, j ≤ i → i < m → hit i = false
theorem Scan.start (hit : Nat → Bool) (n : Nat) : Scan hit n n (-1) := .inl ⟨rfl, fun i h1 h2 => by omega⟩
theorem Scan.hit {hit : Nat → Bool} {n j : Nat} {kz : Int} (h : Scan hit n (j + 1) kz) (hj : j < n) (hh : hit j = true) : Scan hit n j (j : Int) :=
  .inr ⟨j, rfl, Nat.le_refl _, hj, hh, fun i h1 h2 => by omega⟩
theorem Scan.miss {hit : Nat → Bool} {n j : Nat} {kz : Int} (h : Scan hit n (j + 1) kz) (hh : hit j = false) : Scan hit n j kz := by
  have aux : ∀ i, j ≤ i → ¬ j + 1 ≤ i → hit i = false := by
    intro i h1 h2
    obtain rfl : i = j := by omega
    exact hh
  rcases h with ⟨h1, h2⟩ | ⟨m, h1, h2, h3, h4, h5⟩
  · refine .inl ⟨h1, fun i hi hin => ?_⟩
    by_cases e : j + 1 ≤ i
    · exact h2 i e hin
    · exact aux i hi e
  · refine .inr ⟨m, h1, by omega, h3, h4, fun i hi hin => ?_⟩
    by_cases e : j + 1 ≤ i
    · exact h5 i e hin
    · exact aux i hi e
theorem Scan.first {hit : Nat → Bool} {n k : Nat} {kz : Int} (h : Scan hit n 0 kz) (hf : FirstAt hit n k) : kz = (k : Int) := by
  rcases h with ⟨h1, h2⟩ | ⟨m, h1, h2, h3, h4, h5⟩
  · have := h2 k (Nat.zero_le _) hf.1
    rw [hf.2.1] at this
    cases this
  · have e : FirstAt hit n m := ⟨h3, h4, fun i hi => h5 i (Nat.zero_le _) hi⟩
    rw [h1, hf.unique e]
theorem Scan.none {hit : Nat → Bool} {n : Nat} {kz : Int} (h : Scan hit n 0 kz) (hf : NoneAt hit n) : kz = -1 := by
  rcases h with ⟨h1, h2⟩ | ⟨m, h1, h2, h3, h4, h5⟩
  · exact h1
  · rw [hf m h3] at h4; cases h4

theorem first_prefix {hit : Nat → Bool} {n p k : Nat} (h : FirstAt hit n k) (hk : k < p) : FirstAt hit p k := ⟨hk, h.2⟩
theorem none_prefix {hit : Nat → Bool} {n p k : Nat} (h : FirstAt hit n k) (hk : p ≤ k) : NoneAt hit p := fun i hi => h.2.2 i (by omega)
theorem first_suffix {hit : Nat → Bool} {n p k : Nat} (h : FirstAt hit n k) (hk : p ≤ k) : FirstAt (fun i => hit (p + i)) (n - p) (k - p) := by
  refine ⟨by have := h.1; omega, ?_, fun i hi => h.2.2 _ (by omega)⟩
  show hit (p + (k - p)) = true
  rw [show p + (k - p) = k by omega]
  exact h.2.1

/-- THE PLAIN LAW: the whole list's answer is the prefix's where it has one, else the suffix's. -/
theorem found_cut {n p : Nat} (hp : p ≤ n) {ID : Nat → ByteArray} {A : Nat → Option Addr} {L C : Nat → Nat} {R : Nat → Option Addr} {id sw : ByteArray} {aw : Option Addr} {lw cw : Nat} {pw : Option Addr} {wok : Bool} {sp : ByteArray} {ap : Option Addr} {lp cp : Nat} {pp : Option Addr} {pok : Bool}
    {ss : ByteArray} {as' : Option Addr} {ls cs : Nat} {ps : Option Addr} {sok : Bool}
    (hw : Found n ID A L C R id sw aw lw cw pw wok) (hpf : Found p ID A L C R id sp ap lp cp pp pok) (hsf : Found (n - p) (fun i => ID (p + i)) (fun i => A (p + i)) (fun i => L (p + i)) (fun i => C (p + i)) (fun i => R (p + i)) id ss as' ls cs ps sok) :
    (∃ k, FirstAt (hitOf ID id) n k ∧ (sw = ID k ∧ aw = A k ∧ lw = L k ∧ cw = C k ∧ pw = R k) ∧ wok = true ∧ ((pok = true ∧ sp = sw ∧ ap = aw ∧ lp = lw ∧ cp = cw ∧ pp = pw) ∨ (pok = false ∧ sok = true ∧ ss = sw ∧ as' = aw ∧ ls = lw ∧ cs = cw ∧ ps = pw))) ∨
    (NoneAt (hitOf ID id) n ∧ wok = false ∧ (sw = ⟨#[]⟩ ∧ aw = none ∧ lw = 0 ∧ cw = 0 ∧ pw = none) ∧ pok = false ∧ sok = false ∧ ss = sw ∧ as' = aw ∧ ls = lw ∧ cs = cw ∧ ps = pw) := by
  rcases hw with ⟨k, hk, rfl, rfl, rfl, rfl, rfl, rfl⟩ | ⟨hn, rfl, rfl, rfl, rfl, rfl, rfl⟩
  · refine .inl ⟨k, hk, ⟨rfl, rfl, rfl, rfl, rfl⟩, rfl, ?_⟩
    by_cases hkp : k < p
    · left
      have hf := first_prefix hk hkp
      rcases hpf with ⟨k', hk', rfl, rfl, rfl, rfl, rfl, rfl⟩ | ⟨hn, _⟩
      · obtain rfl := hk'.unique hf
        simp
      · exact (hf.not_none hn).elim
    · right
      have hno := none_prefix hk (show p ≤ k by omega)
      have hf : FirstAt (hitOf (fun i => ID (p + i)) id) (n - p) (k - p) := first_suffix hk (by omega)
      rcases hpf with ⟨k', hk', _⟩ | ⟨_, _, _, _, _, _, rfl⟩
      · exact (hk'.not_none hno).elim
      · rcases hsf with ⟨k', hk', rfl, rfl, rfl, rfl, rfl, rfl⟩ | ⟨hn, _⟩
        · obtain rfl := hk'.unique hf
          have e : p + (k - p) = k := by omega
          simp [e]
        · exact (hf.not_none hn).elim
  · right
    have h1 : NoneAt (hitOf ID id) p := fun i hi => hn i (by omega)
    have h2 : NoneAt (hitOf (fun i => ID (p + i)) id) (n - p) := fun i hi => hn (p + i) (by omega)
    rcases hpf with ⟨k', hk', _⟩ | ⟨_, _, _, _, _, _, rfl⟩
    · exact (hk'.not_none h1).elim
    · rcases hsf with ⟨k', hk', _⟩ | ⟨_, rfl, rfl, rfl, rfl, rfl, rfl⟩
      · exact (hk'.not_none h2).elim
      · exact ⟨hn, rfl, ⟨rfl, rfl, rfl, rfl, rfl⟩, rfl, rfl, rfl, rfl, rfl, rfl, rfl⟩

/-- A row's tail. -/
theorem RowAt.tail {w : World} {B n p q : Nat} {ID : Nat → ByteArray} {A : Nat → Option Addr} {L C : Nat → Nat} {R : Nat → Option Addr} (h : RowAt w B 0 n ID A L C R) (hp : p ≤ n) (hq : ¬ n = p → q = p * 3) :
    RowAt w B q (n - p) (fun i => ID (p + i)) (fun i => A (p + i)) (fun i => L (p + i)) (fun i => C (p + i)) (fun i => R (p + i)) := by
  intro i hi
  obtain rfl := hq (by omega)
  have := h (p + i) (by omega)
  rw [show p * 3 + i * 3 = 0 + (p + i) * 3 by omega]
  exact this
theorem RowAt.short {w : World} {B o n p : Nat} {ID : Nat → ByteArray} {A : Nat → Option Addr} {L C : Nat → Nat} {R : Nat → Option Addr} (h : RowAt w B o n ID A L C R) (hp : p ≤ n) : RowAt w B o p ID A L C R := fun i hi => h i (by omega)
theorem cells_box41d (w : World) (xs : ByteArray) (xa : Option Addr) (xl xc : Nat) (xp : Option Addr) : (w.alloc (.cells #[.string xs, .slice xa xl xc, .pointer xp] 41)).drew.cell? ⟨w.heap.size, 0, none⟩ = some (.string xs) ∧
    (w.alloc (.cells #[.string xs, .slice xa xl xc, .pointer xp] 41)).drew.cell? ⟨w.heap.size, 1, none⟩ = some (.slice xa xl xc) ∧ (w.alloc (.cells #[.string xs, .slice xa xl xc, .pointer xp] 41)).drew.cell? ⟨w.heap.size, 2, none⟩ = some (.pointer xp) := by
  simp [go_sem]
theorem cells_box41n (w : World) (xs : ByteArray) (xa : Option Addr) (xl xc : Nat) (xp : Option Addr) (k : Nat) : ((w.alloc (.cells #[.string xs, .slice xa xl xc, .pointer xp] 41)).drewN k).cell? ⟨w.heap.size, 0, none⟩ = some (.string xs) ∧
    ((w.alloc (.cells #[.string xs, .slice xa xl xc, .pointer xp] 41)).drewN k).cell? ⟨w.heap.size, 1, none⟩ = some (.slice xa xl xc) ∧ ((w.alloc (.cells #[.string xs, .slice xa xl xc, .pointer xp] 41)).drewN k).cell? ⟨w.heap.size, 2, none⟩ = some (.pointer xp) := cells_box41 w xs xa xl xc xp
theorem below_three (w : World) (o1 o2 o3 : Obj) : Below w.heap.size w (((w.alloc o1).alloc o2).alloc o3) := (below_two w o1 o2).alloc (by simp; omega) _
end Go.Proofs.Qxb6631315a
