import Derived.Test.Qxb6631315aConv
namespace Go.Proofs.Qxb6631315a
open Go.RowKit
set_option linter.unusedSimpArgs false
set_option linter.unusedVariables false
attribute [local go_sem] q35 q38 q39

theorem info41 : (Try.prog.info? 41).map (fun i => (i.zero, i.size, i.bytes)) = some (some (.agg #[.string ⟨#[]⟩, .slice none 0 0, .pointer none]), 3, 48) := by kernel_rfl

theorem make25 (l n : Nat) (h : n ≤ 1048577) (hl : l ≤ n) (w : World) : (Instr.makeSlice 25 (.int .i64 (l : Int)) (.int .i64 (n : Int))).run Try.prog w =
    .ok (.slice (some ⟨w.heap.size, 0, none⟩) l n) (w.alloc (.cells (madeCells #[.string ⟨#[]⟩, .slice none 0 0, .pointer none] (n * 3)) 41)) := by
  obtain ⟨i, hi, hzz⟩ := Option.map_eq_some_iff.1 info41
  simp only [Prod.mk.injEq] at hzz
  obtain ⟨hz, hs, hb⟩ := hzz
  have := run_make (P := Try.prog) w 25 41 i _ Try.underlying25 hi hz .i64 .i64 l n (by omega) (by omega) (by rw [hb]; omega) (by omega)
  simpa [hs, Value.cells] using this

/-- The first k of n clients have been built in block B. -/
def BuiltTo (w : World) (B n k : Nat) (ID : Nat → ByteArray) (A : Nat → Option Addr) (L C : Nat → Nat) (R : Nat → Option Addr) : Prop :=
  ∃ cur : Array Value, w.heap[B]? = some (.cells cur 41 (0, 0)) ∧ cur.size = n * 3 ∧
    ∀ i, i < k → cur[i * 3]? = some (.string (ID i)) ∧ cur[i * 3 + 1]? = some (.slice (A i) (L i) (C i)) ∧ cur[i * 3 + 2]? = some (.pointer (R i)) ∧ RolesOk w (A i) (L i) ∧ ∀ x, A i = some x → B < x.block

theorem BuiltTo.lt {w : World} {B n k : Nat} {ID : Nat → ByteArray} {A : Nat → Option Addr} {L C : Nat → Nat} {R : Nat → Option Addr} (h : BuiltTo w B n k ID A L C R) : B < w.heap.size := by
  obtain ⟨cur, h1, _⟩ := h
  exact (Array.getElem?_eq_some_iff.1 h1).1

theorem BuiltTo.later {w w' : World} {B n k : Nat} {ID : Nat → ByteArray} {A : Nat → Option Addr} {L C : Nat → Nat} {R : Nat → Option Addr} (h : BuiltTo w B n k ID A L C R) (hb : Below w.heap.size w w') : BuiltTo w' B n k ID A L C R := by
  have hlt := h.lt
  obtain ⟨cur, h1, h2, h3⟩ := h
  exact ⟨cur, (hb.block B hlt).trans h1, h2, fun i hi => ⟨(h3 i hi).1, (h3 i hi).2.1, (h3 i hi).2.2.1, (h3 i hi).2.2.2.1.later hb, (h3 i hi).2.2.2.2⟩⟩

theorem heap_set3 (w : World) (B j : Nat) (cur : Array Value) (u v x : Value) (h : w.heap[B]? = some (.cells cur 41 (0, 0))) :
    (((w.setCell ⟨B, j, none⟩ u).setCell ⟨B, j + 1, none⟩ v).setCell ⟨B, j + 2, none⟩ x).heap[B]? = some (.cells (((cur.setIfInBounds j u).setIfInBounds (j + 1) v).setIfInBounds (j + 2) x) 41 (0, 0)) := by
  simp [World.setCell, Array.getElem?_modify, h]

theorem BuiltTo.next {w : World} {B n k : Nat} {ID : Nat → ByteArray} {A : Nat → Option Addr} {L C : Nat → Nat} {R : Nat → Option Addr} (h : BuiltTo w B n k ID A L C R) (hk : k < n) {a' : Option Addr} {l' c' : Nat} {p' : Option Addr} (hl : L k = l') {s : ByteArray} (hs : ID k = s)
    (hr : RolesOk w a' l') (hx : ∀ x, a' = some x → B < x.block) :
    BuiltTo (((w.setCell ⟨B, k * 3, none⟩ (.string s)).setCell ⟨B, k * 3 + 1, none⟩ (.slice a' l' c')).setCell ⟨B, k * 3 + 2, none⟩ (.pointer p')) B n (k + 1) ID
      (fun i => if i = k then a' else A i) L (fun i => if i = k then c' else C i) (fun i => if i = k then p' else R i) := by
  subst hl hs
  obtain ⟨cur, h1, h2, h3⟩ := h
  refine ⟨_, heap_set3 w B (k * 3) cur _ _ _ h1, by simpa using h2, fun i hi => ?_⟩
  by_cases hik : i = k
  · subst hik
    refine ⟨?_, ?_, ?_, ?_, ?_⟩
    · rw [Array.getElem?_setIfInBounds_ne (by omega), Array.getElem?_setIfInBounds_ne (by omega), Array.getElem?_setIfInBounds_self_of_lt (by omega)]
    · rw [Array.getElem?_setIfInBounds_ne (by omega), Array.getElem?_setIfInBounds_self_of_lt (by simp; omega)]; simp
    · rw [Array.getElem?_setIfInBounds_self_of_lt (by simp; omega)]; simp
    · simp only [if_true]
      exact ((hr.setCell (fun x e => by have := hx x e; simp; omega) _).setCell (fun x e => by have := hx x e; simp; omega) _).setCell (fun x e => by have := hx x e; simp; omega) _
    · simpa using hx
  · have hik' : i < k := by omega
    obtain ⟨g1, g2, g3, g4, g5⟩ := h3 i hik'
    refine ⟨?_, ?_, ?_, ?_, ?_⟩
    · rw [Array.getElem?_setIfInBounds_ne (by omega), Array.getElem?_setIfInBounds_ne (by omega), Array.getElem?_setIfInBounds_ne (by omega)]; exact g1
    · rw [Array.getElem?_setIfInBounds_ne (by omega), Array.getElem?_setIfInBounds_ne (by omega), Array.getElem?_setIfInBounds_ne (by omega)]; simpa [hik] using g2
    · rw [Array.getElem?_setIfInBounds_ne (by omega), Array.getElem?_setIfInBounds_ne (by omega), Array.getElem?_setIfInBounds_ne (by omega)]; simpa [hik] using g3
    · simp only [hik, if_false]
      exact ((g4.setCell (fun x e => by have := g5 x e; simp; omega) _).setCell (fun x e => by have := g5 x e; simp; omega) _).setCell (fun x e => by have := g5 x e; simp; omega) _
    · simpa [hik] using g5

theorem BuiltTo.cell {w : World} {B n k : Nat} {ID : Nat → ByteArray} {A : Nat → Option Addr} {L C : Nat → Nat} {R : Nat → Option Addr} (h : BuiltTo w B n k ID A L C R) {j : Nat} (hj : j < n * 3) : ∃ v, w.cell? ⟨B, j, none⟩ = some v := by
  obtain ⟨cur, h1, h2, h3⟩ := h
  have : j < cur.size := by omega
  exact ⟨cur[j], by simp [World.cell?, h1, this]⟩
theorem BuiltTo.free {w : World} {B n k : Nat} {ID : Nat → ByteArray} {A : Nat → Option Addr} {L C : Nat → Nat} {R : Nat → Option Addr} (h : BuiltTo w B n k ID A L C R) (j : Nat) : w.frozen? ⟨B, j, none⟩ = false := by
  obtain ⟨cur, h1, h2, h3⟩ := h
  simp [World.frozen?, h1]
theorem BuiltTo.cells {w : World} {B n k : Nat} {ID : Nat → ByteArray} {A : Nat → Option Addr} {L C : Nat → Nat} {R : Nat → Option Addr} (h : BuiltTo w B n k ID A L C R) {i : Nat} (hi : i < k) :
    w.cell? ⟨B, i * 3, none⟩ = some (.string (ID i)) ∧ w.cell? ⟨B, i * 3 + 1, none⟩ = some (.slice (A i) (L i) (C i)) ∧ w.cell? ⟨B, i * 3 + 2, none⟩ = some (.pointer (R i)) ∧ RolesOk w (A i) (L i) := by
  obtain ⟨cur, h1, h2, h3⟩ := h
  obtain ⟨g1, g2, g3, g4, g5⟩ := h3 i hi
  exact ⟨by simp [World.cell?, h1, g1], by simp [World.cell?, h1, g2], by simp [World.cell?, h1, g3], g4⟩

/-- What lawConvAll hands back. -/
def AllOut (w : World) (n : Nat) (ID : Nat → ByteArray) (L : Nat → Nat) (e : Ending) (w' : World) : Prop :=
  ∃ (B : Nat) (A : Nat → Option Addr) (C : Nat → Nat) (R : Nat → Option Addr), e = .returned (.slice (some ⟨B, 0, none⟩) n n) ∧ w.heap.size ≤ B ∧ BuiltTo w' B n n ID A L C R

set_option maxHeartbeats 1000000 in
theorem all_some (w : World) (b o n c : Nat) (ID : Nat → ByteArray) (A : Nat → Option Addr) (L C : Nat → Nat) (R : Nat → Option Addr) (hn : n ≤ 65536) (h0 : CellsOk w b o n ID A L C R) (hL : ∀ i, i < n → L i ≤ 1048576) :
    Calls Try.prog 7 #[.slice (some ⟨b, o, none⟩) n c] w fun e w' => AllOut w n ID L e w' ∧ Below w.heap.size w w' := by
  have hmk := make25 n n (by omega) (Nat.le_refl _)
  have HL := hid hL
  clear hL
  go_enter Try.func7, Try.ntmps7
  go_wp2
  clear hmk
  go_loopw [4] (fun i wr => ∃ (k : Nat) (A' : Nat → Option Addr) (C' : Nat → Nat) (R' : Nat → Option Addr), k ≤ n ∧ i = .int .i64 k ∧ Below w.heap.size w wr ∧ BuiltTo wr w.heap.size n k ID A' L C' R') (fun i _ => n - (intOf i).toNat)
  case atStart =>
    exact ⟨0, A, C, R, Nat.zero_le _, rfl, (Below.refl _ _).alloc (Nat.le_refl _) _, _, heap_alloc_new w _, size_madeCells _ _, fun i hi => absurd hi (Nat.not_lt_zero i)⟩
  case round =>
    obtain ⟨k, A', C', R', hk, rfl, hb, hbt⟩ := hrel
    by_cases hlt : k < n
    · obtain ⟨c0, c1, c2, hs, hr, hg⟩ := h0 k hlt
      have f0 := below_cell hb c0
      have f1 := below_cell hb c1
      have f2 := below_cell hb c2
      have hr' := hr.later hb
      have hg' := hg.later hb
      have hl := HL.out k hlt
      have Hb := hid hb
      have Hbt := hid hbt
      clear hb hbt c0 c1 c2 hr hg
      go_wp2_with fail
      refine (conv_any _ _ _ _ _ _ hl hr' hg').mono ?_
      rintro e w1 ⟨⟨a', c', p', rfl, hro, hfr⟩, hb1⟩
      have hbt1 := Hbt.out.later hb1
      obtain ⟨v0, z0⟩ := hbt1.cell (j := k * 3) (by omega)
      obtain ⟨v1, z1⟩ := hbt1.cell (j := k * 3 + 1) (by omega)
      obtain ⟨v2, z2⟩ := hbt1.cell (j := k * 3 + 2) (by omega)
      have zf := hbt1.free
      have Hbt1 := hid hbt1
      have Hb1 := hid hb1
      have Hro := hid hro
      have Hfr := hid hfr
      clear hbt1 hb1 hro hfr f0 f1 f2
      go_wp2
      go_roundw
      case rel =>
        exact ⟨k + 1, _, _, _, by omega, by go_num, (((Hb.out.trans (Hb1.out.mono Hb.out.size)).setCell (Nat.le_refl _) _).setCell (Nat.le_refl _) _).setCell (Nat.le_refl _) _,
          Hbt1.out.next hlt rfl rfl Hro.out (fun x e => Nat.lt_of_lt_of_le Hbt.out.lt (Hfr.out x e))⟩
      case measure => simp [intOf]; omega
    · obtain rfl : k = n := by omega
      have Hb := hid hb
      have Hbt := hid hbt
      clear hb hbt
      go_wp2
      go_ret
      exact ⟨⟨_, _, _, _, rfl, Nat.le_refl _, Hbt.out⟩, Hb.out⟩

theorem all_zero (w : World) (a : Option Addr) (c : Nat) (ID : Nat → ByteArray) (L : Nat → Nat) :
    Calls Try.prog 7 #[.slice a 0 c] w fun e w' => AllOut w 0 ID L e w' ∧ Below w.heap.size w w' := by
  have hmk : ∀ w : World, (Instr.makeSlice 25 (.int .i64 0) (.int .i64 0)).run Try.prog w = .ok (.slice (some ⟨w.heap.size, 0, none⟩) 0 0) (w.alloc (.cells (madeCells #[.string ⟨#[]⟩, .slice none 0 0, .pointer none] 0) 41)) :=
    make25 0 0 (by omega) (Nat.le_refl _)
  go_enter Try.func7, Try.ntmps7
  go_wp2
  refine wp_loop_rounds 1 ?_
  rw [rounds_succ]
  go_wp2
  go_ret
  exact ⟨⟨w.heap.size, fun _ => none, fun _ => 0, fun _ => none, rfl, Nat.le_refl _, _, heap_alloc_new w _, size_madeCells _ _, fun i hi => absurd hi (Nat.not_lt_zero i)⟩, (Below.refl _ _).alloc (Nat.le_refl _) _⟩

theorem all_any (w : World) (a : Option Addr) (n c : Nat) (ID : Nat → ByteArray) (A : Nat → Option Addr) (L C : Nat → Nat) (R : Nat → Option Addr) (hn : n ≤ 65536) (h : ClientsOk w a n ID A L C R) (hL : ∀ i, i < n → L i ≤ 1048576) :
    Calls Try.prog 7 #[.slice a n c] w fun e w' => AllOut w n ID L e w' ∧ Below w.heap.size w w' := by
  obtain ⟨_, h⟩ := h
  rcases h with rfl | ⟨b, o, rfl, h0⟩
  · exact all_zero w a c ID L
  · exact all_some w b o n c ID A L C R hn h0 hL
end Go.Proofs.Qxb6631315a
