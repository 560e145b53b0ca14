import Derived.Test.Qxb6631315aFound
namespace Go.Proofs.Qxb6631315a
open Go.RowKit
set_option linter.unusedSimpArgs false
set_option linter.unusedVariables false

theorem info46 : (Try.prog.info? 46).map (fun i => (i.zero, i.size, i.bytes)) = some (some (.agg #[.string ⟨#[]⟩, .slice none 0 0, .pointer none]), 3, 48) := by kernel_rfl
theorem make22 (w : World) : (Instr.makeSlice 22 (.int .i64 1) (.int .i64 1)).run Try.prog w =
    .ok (.slice (some ⟨w.heap.size, 0, none⟩) 1 1) (w.alloc (.cells #[.string ⟨#[]⟩, .slice none 0 0, .pointer none] 46)) := by
  obtain ⟨i, hi, hzz⟩ := Option.map_eq_some_iff.1 info46
  simp only [Prod.mk.injEq] at hzz
  obtain ⟨hz, hs, hb⟩ := hzz
  have := run_make (P := Try.prog) w 22 46 i _ Try.underlying22 hi hz .i64 .i64 1 1 (by omega) (by omega) (by rw [hb]; omega) (by omega)
  have e : madeCells #[.string ⟨#[]⟩, .slice none 0 0, .pointer none] 3 = #[.string ⟨#[]⟩, .slice none 0 0, .pointer none] := by kernel_rfl
  simpa [hs, Value.cells, e] using this
theorem make25' (n : Nat) (h : n ≤ 65536) (w : World) : (Instr.makeSlice 25 (.int .i64 0) (.int .i64 ((n : Int) + 1))).run Try.prog w =
    .ok (.slice (some ⟨w.heap.size, 0, none⟩) 0 (n + 1)) (w.alloc (.cells (madeCells #[.string ⟨#[]⟩, .slice none 0 0, .pointer none] ((n + 1) * 3)) 41)) := by
  have := make25 0 (n + 1) (by omega) (by omega) w
  simpa using this
theorem cells_box (w : World) (xs : ByteArray) (xa : Option Addr) (xl xc : Nat) (xp : Option Addr) : (w.alloc (.cells #[.string xs, .slice xa xl xc, .pointer xp] 46)).cell? ⟨w.heap.size, 0, none⟩ = some (.string xs) ∧
    (w.alloc (.cells #[.string xs, .slice xa xl xc, .pointer xp] 46)).cell? ⟨w.heap.size, 1, none⟩ = some (.slice xa xl xc) ∧ (w.alloc (.cells #[.string xs, .slice xa xl xc, .pointer xp] 46)).cell? ⟨w.heap.size, 2, none⟩ = some (.pointer xp) := by
  simp [go_sem]
theorem box_later {w1 w' : World} {b : Nat} {u v x : Value} (h : w1.cell? ⟨b, 0, none⟩ = some u ∧ w1.cell? ⟨b, 1, none⟩ = some v ∧ w1.cell? ⟨b, 2, none⟩ = some x) (hb : Below w1.heap.size w1 w') :
    w'.cell? ⟨b, 0, none⟩ = some u ∧ w'.cell? ⟨b, 1, none⟩ = some v ∧ w'.cell? ⟨b, 2, none⟩ = some x := ⟨below_cell hb h.1, below_cell hb h.2.1, below_cell hb h.2.2⟩

theorem cells_box41 (w : World) (xs : ByteArray) (xa : Option Addr) (xl xc : Nat) (xp : Option Addr) : (w.alloc (.cells #[.string xs, .slice xa xl xc, .pointer xp] 41)).cell? ⟨w.heap.size, 0, none⟩ = some (.string xs) ∧
    (w.alloc (.cells #[.string xs, .slice xa xl xc, .pointer xp] 41)).cell? ⟨w.heap.size, 1, none⟩ = some (.slice xa xl xc) ∧ (w.alloc (.cells #[.string xs, .slice xa xl xc, .pointer xp] 41)).cell? ⟨w.heap.size, 2, none⟩ = some (.pointer xp) := by
  simp [go_sem]
theorem after_make {w w' : World} (h : w.grownBy w' none) : Below w.heap.size w w' := (Below.refl _ _).grown h (Nat.le_refl _) (by rintro k ⟨⟩)
theorem after_app {w w' w'' : World} {g : Nat} (h : Below w.heap.size w w') (h' : w'.grownBy w'' (some g)) (hg : w.heap.size ≤ g) : Below w.heap.size w w'' := h.grown h' h.size (by rintro k ⟨⟩; exact hg)
theorem below_of1 {w w' : World} {o : Obj} (h : Below (w.alloc o).heap.size (w.alloc o) w') : Below w.heap.size w w' := ((Below.refl _ _).alloc (Nat.le_refl _) _).trans (h.mono (by simp))

theorem trip_cells (w : World) (xs : ByteArray) (xa : Option Addr) (xl xc : Nat) (xp : Option Addr) : ∀ j u, (trip xs xa xl xc xp)[j]? = some u → (w.alloc (.cells #[.string xs, .slice xa xl xc, .pointer xp] 41)).cell? ((⟨w.heap.size, 0, none⟩ : Addr).add j) = some u := by
  intro j u hu
  rw [Addr.add_lit]
  match j, hu with
  | 0, hu => simp [trip] at hu; subst hu; simp [go_sem]
  | 1, hu => simp [trip] at hu; subst hu; simp [go_sem]
  | 2, hu => simp [trip] at hu; subst hu; simp [go_sem]
  | k + 3, hu => simp [trip] at hu
theorem src_from {w : World} {B n p : Nat} {ID : Nat → ByteArray} {A : Nat → Option Addr} {L C : Nat → Nat} {R : Nat → Option Addr} (h : RowAt w B 0 n ID A L C R) (hp : p ≤ n) {ao : Option Addr} (hao : ¬ n = p → ao = some ⟨B, p * 3, none⟩) :
    ∀ ad, ao = some ad → ∀ j u, (rows (fun i => trip (ID (p + i)) (A (p + i)) (L (p + i)) (C (p + i)) (R (p + i))) (n - p))[j]? = some u → w.cell? (ad.add j) = some u := by
  intro ad had j u hu
  by_cases e : n = p
  · subst e
    simp [rows] at hu
  · rw [hao e] at had
    obtain rfl := Option.some.inj had
    exact h.src p (n - p) (by omega) j u hu

/-- Where 'before[p:]' begins: a number of its own, so that no test in it parts the walk. -/
theorem cut_tail (B n p : Nat) (hp : p ≤ n) : ∃ q : Nat, Hid (¬ n = p → q = p * 3) ∧ ∀ w : World, (Instr.slice 25 (.slice (some ⟨B, 0, none⟩) n n) (some (.int .i64 (p : Int))) none none).run Try.prog w = .ok (.slice (some ⟨B, q, none⟩) (n - p) (n - p)) w := by
  obtain ⟨i, hi, hzz⟩ := Option.map_eq_some_iff.1 info41
  simp only [Prod.mk.injEq] at hzz
  obtain ⟨_, hs, _⟩ := hzz
  refine ⟨if n = p then 0 else p * 3, fun h => if_neg h, fun w => ?_⟩
  have := run_slice_l (P := Try.prog) w 25 (some ⟨B, 0, none⟩) n n Try.underlying25 .i64 (p : Int) (by omega) (by omega)
  rw [this]
  have e : Try.prog.elem 25 = 41 := by kernel_rfl
  rw [e]
  by_cases h : n = p
  · simp [sizeOf, typeInfo, hi, hs, sliced, h]
  · simp [sizeOf, typeInfo, hi, hs, sliced, h, Addr.add_lit]

end Go.Proofs.Qxb6631315a
