import Derived.Test.Qxb6632227aPush
import Derived.Deep.OwnRows
namespace Go.Proofs.Qxb6632227a
open Go.RowKit
set_option linter.unusedSimpArgs false
set_option linter.unusedVariables false
attribute [local go_sem] q22

/-- What cloneBytes hands back: nil, or a full row of the call's own. -/
def CloneOut (w : World) (zs : List Int) (e : Ending) (w' : World) : Prop :=
  ∃ ao, e = .returned (.slice ao zs.length zs.length) ∧ (ao = none → zs = []) ∧ Rd w' ao zs ∧ Below w.heap.size w w'

theorem clone_nil (w : World) (c : Nat) :
    Calls Try.prog 6 #[.slice none 0 c] w fun e w' => CloneOut w [] e w' := by
  go_enter Try.func6, Try.ntmps6
  go_wp2
  go_ret
  exact ⟨none, rfl, fun _ => rfl, .inl rfl, Below.refl _ _⟩

theorem info5s : (Try.prog.info? 5).map (·.size) = some 1 := by kernel_rfl

theorem rd_src {w : World} {a : Addr} {zs : List Int} (h : Rd w (some a) zs) (o : Obj) : ∀ j v, (zs.map (Value.int .u8))[j]? = some v → (w.alloc o).cell? (a.add j) = some v := by
  intro j v hv
  rcases h with rfl | ⟨b, o', e, hc⟩
  · simp at hv
  · obtain rfl := Option.some.inj e
    have hj : j < zs.length := by simpa using (List.getElem?_eq_some_iff.1 hv).1
    have hcj := hc j hj
    rw [Addr.add_lit, World.cell?_alloc_lt _ _ _ (cell_lt hcj), hcj]
    rw [List.getElem?_map, List.getElem?_eq_getElem hj] at hv
    simp at hv
    rw [← hv]
    simp [List.getD, hj]

theorem row_rd {w : World} {g : Nat} {zs : List Int} {L : List Value} (h : w.heap[g]? = some (.cells L.toArray 5 (0, 0))) (hL : L = zs.map (Value.int .u8)) : Rd w (some ⟨g, 0, none⟩) zs := by
  subst hL
  refine .inr ⟨g, 0, rfl, fun i hi => ?_⟩
  rw [Nat.zero_add]
  simp [World.cell?, h, List.getD, hi]

theorem splice_all (Z X : List Value) (h : Z.length = X.length) : splice Z 0 X = X := by
  unfold splice
  simp [List.drop_eq_nil_of_le (show Z.length ≤ X.length by omega)]

theorem clone_some (w : World) (a : Addr) (c : Nat) (zs : List Int) (hm : zs.length ≤ 1048576) (h : Rd w (some a) zs) :
    Calls Try.prog 6 #[.slice (some a) zs.length c] w fun e w' => CloneOut w zs e w' := by
  obtain ⟨n, hn⟩ : ∃ n, zs.length = n := ⟨_, rfl⟩
  have HN := hid hn
  rw [hn] at hm ⊢
  clear hn
  have hmk := run_make_row' (P := Try.prog) 22 5 (.int .u8 0) 1 Try.underlying22 info5 rfl .i64 .i64 n (by omega) (by omega)
  have H := hid h
  clear h
  go_enter Try.func6, Try.ntmps6
  go_wp2_with ((refine wpList_copy_splice rfl _ _ 22 22 rfl 5 Try.underlying22 info5s _ _ n n n c rfl rfl w.heap.size 0 (madeCells #[.int .u8 0] n).toList 5 (by rw [Array.toArray_toList]; exact heap_alloc_new w _) (zs.map (Value.int .u8)) (by simp [HN.out]) (fun _ => ⟨rfl, _, rfl, rd_src H.out _⟩) (by simp [HN.out, size_madeCells]) (ints_oneCell _ _) w.heap.size w ((Below.refl _ _).alloc (Nat.le_refl _) _) (Nat.le_refl _) ?_); intro w2 HG2 hB2; have HB2 := hid hB2; clear hB2)
  go_ret
  refine ⟨some ⟨w.heap.size, 0, none⟩, (by rw [HN.out]; rfl), (fun h => by cases h), row_rd HG2.out (splice_all _ _ (by simp [HN.out, size_madeCells])), HB2.out⟩

theorem clone_any (w : World) (ao : Option Addr) (c : Nat) (zs : List Int) (hn : ao = none → zs = []) (hm : zs.length ≤ 1048576) (h : Rd w ao zs) :
    Calls Try.prog 6 #[.slice ao zs.length c] w fun e w' => CloneOut w zs e w' := by
  cases ao with
  | none =>
    obtain rfl := hn rfl
    exact clone_nil w c
  | some a => exact clone_some w a c zs hm h
end Go.Proofs.Qxb6632227a
