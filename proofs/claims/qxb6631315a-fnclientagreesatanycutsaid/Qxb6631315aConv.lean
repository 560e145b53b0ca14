import Derived.Test.Qxb6631315aBase
import Derived.Deep.OwnRows
namespace Go.Proofs.Qxb6631315a
open Go.RowKit
set_option linter.unusedSimpArgs false
attribute [local go_sem] q35 q38 q39

theorem info9 : (Try.prog.info? 9).map (fun i => (i.zero, i.size, i.bytes)) = some (some (.string ⟨#[]⟩), 1, 16) := by kernel_rfl

/-- What lawConv hands back: the same ID, as many roles in a row that can be read, some pointer; the roles lie in a block from N on. -/
def ConvOut (s : ByteArray) (l N : Nat) (e : Ending) (w' : World) : Prop :=
  ∃ (a' : Option Addr) (c' : Nat) (p' : Option Addr), e = .returned (.agg #[.string s, .slice a' l c', .pointer p']) ∧ RolesOk w' a' l ∧ ∀ x, a' = some x → N ≤ x.block

set_option maxHeartbeats 1000000 in
theorem conv_some (w : World) (s : ByteArray) (b o l c : Nat) (S : Nat → ByteArray) (p : Option Addr) (hl : l ≤ 1048576) (hr : ∀ i, i < l → w.cell? ⟨b, o + i, none⟩ = some (.string (S i)) ∧ (S i).size ≤ 9223372036854775807) (hg : RegOk w p) :
    Calls Try.prog 12 #[.agg #[.string s, .slice (some ⟨b, o, none⟩) l c, .pointer p]] w fun e w' => ConvOut s l w.heap.size e w' ∧ Below w.heap.size w w' := by
  have hmk := run_make_row' (P := Try.prog) 38 9 (.string ⟨#[]⟩) 16 Try.underlying38 info9 rfl .i64 .i64 l (by omega) (by omega)
  have HR := hid hr
  have HG := hid hg
  clear hr hg
  go_enter Try.func12, Try.ntmps12
  go_wp2
  clear hmk
  go_loopw [4] (fun i wr => ∃ k : Nat, k ≤ l ∧ i = .int .i64 k ∧ Below (w.heap.size + 2) ((w.alloc (.cells #[.string s, .slice (some ⟨b, o, none⟩) l c, .pointer p] 46)).alloc (.cells #[.string ⟨#[]⟩, .slice none 0 0, .pointer none] 41)) wr ∧
      wr.rowIs (w.heap.size + 1 + 1) 9 l (fun j => if j < k then .string (S j) else .string ⟨#[]⟩)) (fun i _ => l - (intOf i).toNat)
  case atStart => exact ⟨0, Nat.zero_le _, rfl, (Below.refl _ _).alloc (by simp) _, by simpa using World.rowIs_made ((w.alloc (.cells #[.string s, .slice (some ⟨b, o, none⟩) l c, .pointer p] 46)).alloc (.cells #[.string ⟨#[]⟩, .slice none 0 0, .pointer none] 41)) (.string ⟨#[]⟩) l 9⟩
  case round =>
    obtain ⟨k, hk, rfl, hb, hrow⟩ := hrel
    have f1 : wr.cell? ⟨w.heap.size, 1, none⟩ = some (.slice (some ⟨b, o, none⟩) l c) := by
      rw [hb.cell (p := ⟨w.heap.size, 1, none⟩) (by simp)]; simp [go_sem]
    have HB : Hid (Below w.heap.size w wr) := (below_two w _ _).trans (hb.mono (by omega))
    by_cases hlt : k < l
    · have f5 : wr.cell? ⟨b, o + k, none⟩ = some (.string (S k)) := below_cell HB.out (HR.out k hlt).1
      have g0 : wr.cell? ⟨w.heap.size + 1 + 1, k, none⟩ = some (.string ⟨#[]⟩) := by rw [hrow.cell hlt]; simp
      have g1 := hrow.frozen k
      have Hb := hid hb
      have Hrow := hid hrow
      clear hb hrow
      go_wp2
      go_roundw
      case rel =>
        refine ⟨k + 1, by omega, by go_num, Hb.out.setCell (by simp) _, (Hrow.out.set k (.string (S k))).congr (fun i _ => ?_)⟩
        by_cases hik : i = k
        · subst hik; simp
        · simp only [hik, if_false]
          by_cases h2 : i < k
          · simp [h2, show i < k + 1 by omega]
          · simp [h2, show ¬ i < k + 1 by omega]
      case measure => simp [intOf]; omega
    · obtain rfl : k = l := by omega
      have f0 : wr.cell? ⟨w.heap.size, 0, none⟩ = some (.string s) := by
        rw [hb.cell (p := ⟨w.heap.size, 0, none⟩) (by simp)]; simp [go_sem]
      have f2 : wr.cell? ⟨w.heap.size, 2, none⟩ = some (.pointer p) := by
        rw [hb.cell (p := ⟨w.heap.size, 2, none⟩) (by simp)]; simp [go_sem]
      have z0 : wr.cell? ⟨w.heap.size + 1, 0, none⟩ = some (.string ⟨#[]⟩) := by
        rw [hb.cell (p := ⟨w.heap.size + 1, 0, none⟩) (by simp)]; simp [go_sem]
      have z1 : wr.cell? ⟨w.heap.size + 1, 1, none⟩ = some (.slice none 0 0) := by
        rw [hb.cell (p := ⟨w.heap.size + 1, 1, none⟩) (by simp)]; simp [go_sem]
      have z2 : wr.cell? ⟨w.heap.size + 1, 2, none⟩ = some (.pointer none) := by
        rw [hb.cell (p := ⟨w.heap.size + 1, 2, none⟩) (by simp)]; simp [go_sem]
      have zf : ∀ j, wr.frozen? ⟨w.heap.size + 1, j, none⟩ = false := fun j => by
        rw [hb.frozen (p := ⟨w.heap.size + 1, j, none⟩) (by simp)]; simp [go_sem]
      have hz : w.heap.size + 1 < wr.heap.size := by have := hrow.lt; omega
      have hz' := hrow.lt
      have hz0 : w.heap.size < wr.heap.size := by omega
      have Hro : Hid (RolesOk wr (some ⟨w.heap.size + 1 + 1, 0, none⟩) k) := ⟨by omega, .inr ⟨_, _, S, rfl, fun i hi => ⟨by have := hrow.cell hi; simpa [hi] using this, (HR.out i hi).2⟩⟩⟩
      rcases HG.out with rfl | ⟨rb, ro, re, rr, rfl, r0, r1, r2⟩
      · clear hb hrow HG
        go_wp2
        exact bodyPost_ret (v := .agg #[.string s, .slice (some ⟨w.heap.size + 1 + 1, 0, none⟩) k k, .pointer none]) (by simp [results, Try.results12, go_sem, z0, z1, z2]) rfl
          ⟨⟨_, _, _, rfl, ((Hro.out.setCell (by rintro x ⟨⟩; simp) _).setCell (by rintro x ⟨⟩; simp) _).setCell (by rintro x ⟨⟩; simp) _, (by rintro x ⟨⟩; simp; omega)⟩, ((HB.out.setCell (by simp) _).setCell (by simp) _).setCell (by simp) _⟩
      · have r0' := below_cell HB.out r0
        have r1' := below_cell HB.out r1
        have b2 := cell_lt r0'
        clear hb hrow HG
        go_wp2
        go_region
        all_goals go_wp2
        exact bodyPost_ret (v := .agg #[.string s, .slice (some ⟨w.heap.size + 1 + 1, 0, none⟩) k k, .pointer (some ⟨wr.heap.size, 0, none⟩)]) (by simp [results, Try.results12, go_sem, z0, z1, z2, hz]) rfl
          ⟨⟨_, _, _, rfl, (((Hro.out.setCell (by rintro x ⟨⟩; simp) _).setCell (by rintro x ⟨⟩; simp) _).setCell (by rintro x ⟨⟩; simp) _).later (((Below.refl _ _).alloc (by simp) _).drew), (by rintro x ⟨⟩; simp; omega)⟩, ((((HB.out.setCell (by simp) _).setCell (by simp) _).setCell (by simp) _).alloc (by simp; omega) _).drew⟩

theorem conv_none (w : World) (s : ByteArray) (c : Nat) (p : Option Addr) (hg : RegOk w p) :
    Calls Try.prog 12 #[.agg #[.string s, .slice none 0 c, .pointer p]] w fun e w' => ConvOut s 0 w.heap.size e w' ∧ Below w.heap.size w w' := by
  rcases hg with rfl | ⟨rb, ro, re, rr, rfl, r0, r1, r2⟩
  · go_enter Try.func12, Try.ntmps12
    go_wp2
    exact bodyPost_ret (v := .agg #[.string s, .slice none 0 0, .pointer none]) (by simp [results, Try.results12, go_sem]) rfl
      ⟨⟨_, _, _, rfl, ⟨by omega, .inl rfl⟩, by rintro x ⟨⟩⟩, below_two _ _ _⟩
  · have b2 := cell_lt r0
    have b3 : rb < w.heap.size + 1 := by omega
    go_enter Try.func12, Try.ntmps12
    go_wp2
    go_region
    all_goals go_wp2
    exact bodyPost_ret (v := .agg #[.string s, .slice none 0 0, .pointer (some ⟨w.heap.size + 1 + 1, 0, none⟩)]) (by simp [results, Try.results12, go_sem]) rfl
      ⟨⟨_, _, _, rfl, ⟨by omega, .inl rfl⟩, by rintro x ⟨⟩⟩, ((below_two _ _ _).alloc (by simp; omega) _).drew⟩

theorem conv_empty (w : World) (s : ByteArray) (a : Addr) (c : Nat) (p : Option Addr) (hg : RegOk w p) :
    Calls Try.prog 12 #[.agg #[.string s, .slice (some a) 0 c, .pointer p]] w fun e w' => ConvOut s 0 w.heap.size e w' ∧ Below w.heap.size w w' := by
  have hmk : ∀ w : World, (Instr.makeSlice 38 (.int .i64 0) (.int .i64 0)).run Try.prog w = .ok (.slice (some ⟨w.heap.size, 0, none⟩) 0 0) (w.alloc (.cells (madeCells #[.string ⟨#[]⟩] 0) 9)) :=
    run_make_row' (P := Try.prog) 38 9 (.string ⟨#[]⟩) 16 Try.underlying38 info9 rfl .i64 .i64 0 (by omega) (by omega)
  rcases hg with rfl | ⟨rb, ro, re, rr, rfl, r0, r1, r2⟩
  · go_enter Try.func12, Try.ntmps12
    go_wp2
    refine wp_loop_rounds 1 ?_
    rw [rounds_succ]
    go_wp2
    exact bodyPost_ret (v := .agg #[.string s, .slice (some ⟨w.heap.size + 1 + 1, 0, none⟩) 0 0, .pointer none]) (by simp [results, Try.results12, go_sem]) rfl
      ⟨⟨_, _, _, rfl, ⟨by omega, .inl rfl⟩, by rintro x ⟨⟩; simp; omega⟩, (below_two _ _ _).alloc (by simp; omega) _⟩
  · have b2 := cell_lt r0
    have b3 : rb < w.heap.size + 1 := by omega
    have b4 : rb < w.heap.size + 1 + 1 := by omega
    go_enter Try.func12, Try.ntmps12
    go_wp2
    refine wp_loop_rounds 1 ?_
    rw [rounds_succ]
    go_wp2
    go_region
    all_goals go_wp2
    exact bodyPost_ret (v := .agg #[.string s, .slice (some ⟨w.heap.size + 1 + 1, 0, none⟩) 0 0, .pointer (some ⟨w.heap.size + 1 + 1 + 1, 0, none⟩)]) (by simp [results, Try.results12, go_sem]) rfl
      ⟨⟨_, _, _, rfl, ⟨by omega, .inl rfl⟩, by rintro x ⟨⟩; simp; omega⟩, (((below_two _ _ _).alloc (by simp; omega) _).alloc (by simp; omega) _).drew⟩

theorem conv_any (w : World) (s : ByteArray) (a : Option Addr) (l c : Nat) (p : Option Addr) (hl : l ≤ 1048576) (hr : RolesOk w a l) (hg : RegOk w p) :
    Calls Try.prog 12 #[.agg #[.string s, .slice a l c, .pointer p]] w fun e w' => ConvOut s l w.heap.size e w' ∧ Below w.heap.size w w' := by
  obtain ⟨_, hr⟩ := hr
  rcases hr with rfl | ⟨b, o, S, rfl, hc⟩
  · cases a with
    | none => exact conv_none w s c p hg
    | some a => exact conv_empty w s a c p hg
  · exact conv_some w s b o l c S p hl hc hg
end Go.Proofs.Qxb6631315a
