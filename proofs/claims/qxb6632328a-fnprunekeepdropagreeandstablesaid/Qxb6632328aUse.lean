import Derived.Test.Qxb6632328aMerge
import Derived.Test.Qxb6632328aStable
namespace Go.Proofs.Qxb6632328a
open Go.RowKit
set_option linter.unusedVariables false
set_option linter.unusedSimpArgs false
attribute [local go_sem] q22 q23 q31 q44 q44n

/-! ### Prune, as the second law uses it -/
def PruneUse (w : World) (base n : Nat) (V : Nat → Ver) (ks zs : List Nat) (e : Ending) (w' : World) : Prop :=
  ∃ ak ad cd, e = .returned (.tuple #[.slice ak ks.length n, .slice ad zs.length cd]) ∧ VsOk w' ak ks.length (fun j => V (ks.getD j 0)) ∧ UsOk w' ad zs.length (fun i => zs.getD i 0) ∧ Below base w w'
theorem prune_use (w : World) (base : Nat) (a : Option Addr) (n : Nat) (V : Nat → Ver) (a' : Option Addr) (m c' : Nat) (U : Nat → Nat) (fl : Nat) (dl : Int) (hn : n ≤ 32768) (hm : m ≤ 131072)
    (h : ChainAt w base a n V) (hbase : base ≤ w.heap.size) (hu : UsOk w a' m U) (hx : ∀ x, a' = some x → x.block < base) (ha : ∀ i, i + 1 < m → U i ≤ U (i + 1))
    (hby : ∀ w'', Below base w w'' → ∀ i, i < n → BytesOk w'' (V i).a (V i).l) (ht : ∀ i, i < n → (V i).t < 18446744073709551616)
    (keep : Nat → Bool → Bool) (hkeep : keep = keepOf (k1 n m (fun i => (V i).t) U fl) (fun i => (V i).a.isNone) (decide (dl = 0)))
    (ks zs : List Nat) (hks : (st keep n).1 = ks) (hzs : ((st keep n).2.map fun i => (V i).t) = zs) :
    Calls Try.prog 11 #[.slice a n n, .slice a' m c', .int .u64 (fl : Int), .int .i64 dl] w fun e w' => PruneUse w base n V ks zs e w' := by
  have hx' : n = 0 ∨ ∀ x y, a' = some x → a = some y → x.block ≠ y.block := by
    rcases h with h0 | ⟨B, hB, e, hr⟩
    · exact .inl h0
    · refine .inr fun x y e1 e2 => ?_
      rw [e] at e2
      cases e2
      have := hx x e1
      simp only; omega
  refine (prune_any w base a n V a' m c' U fl dl hn hm h hu hx' ha keep hkeep).mono ?_
  rintro e w' ⟨ak, dv, rfl, hown, h6⟩
  obtain ⟨ad, cd, rfl, hld, hrd, _⟩ := hown.shape
  have hlen := st_len keep n
  have hlt := st_getD keep n
  have hb : Below base w w' := by
    rcases h6 with ⟨_, rfl⟩ | ⟨B, h0, e, _, _, hh⟩
    · exact Below.refl _ _
    · refine hh.below hbase ?_
      rcases h with h0' | ⟨B', hB', e', hr'⟩
      · omega
      · rw [e'] at e; cases e; exact hB'
  have hmem : ∀ x ∈ (st keep n).2, x < n := by
    have : ∀ k, ∀ x ∈ (st keep k).2, x < k := by
      intro k
      induction k with
      | zero => intro x hx; cases hx
      | succ k ih =>
        intro x hx
        simp only [st] at hx
        split at hx
        · have := ih x hx; omega
        · rcases List.mem_append.1 hx with h | h
          · have := ih x h; omega
          · simp at h; omega
    exact this n
  rw [hks] at h6 hlen hlt
  rw [hzs] at hld hrd
  refine ⟨ak, ad, cd, by rw [hks, hzs], ⟨by omega, ?_, fun j hj => hby w' hb _ (hlt j hj), fun j hj => ht _ (hlt j hj)⟩, ⟨hld, hrd, fun i hi => ?_⟩, hb⟩
  · rcases h6 with ⟨h0, _⟩ | ⟨B, h0, e1, e2, hr, hh⟩
    · exact .inl (by omega)
    · refine .inr ⟨B, 0, e2, fun j hj => ⟨?_, ?_⟩⟩
      · rw [Nat.zero_add, hr.cell (i := j * 2) (by omega), cellV_even, if_pos hj]
      · rw [Nat.zero_add, hr.cell (i := j * 2 + 1) (by omega), cellV_odd, if_pos hj]
  · have hi' : zs.getD i 0 ∈ zs := by simp [List.getD, hi]
    have h7 : ∀ z ∈ zs, z < 18446744073709551616 := by
      intro z hz
      rw [← hzs] at hz
      obtain ⟨x, hx, rfl⟩ := List.mem_map.1 hz
      exact ht x (hmem x hx)
    exact h7 _ hi'

/-! ### pruneBuildOpen once more, with where its row lies -/
theorem openb0 (w : World) (a : Option Addr) (c : Nat) :
    Calls Try.prog 12 #[.slice a 0 c] w fun e w' => (∃ x, e = .returned (.slice x 0 0) ∧ ∀ y, x = some y → y.block < w'.heap.size) ∧ Below w.heap.size w w' := by
  have hmk : ∀ w : World, (Instr.makeSlice 38 (.int .i64 0) (.int .i64 0)).run Try.prog w = .ok (.slice (some ⟨w.heap.size, 0, none⟩) 0 0) (w.alloc (.cells (madeCells #[.int .u64 0] 0) 42)) :=
    run_make_row' (P := Try.prog) 38 42 (.int .u64 0) 8 Try.underlying38 info42 rfl .i64 .i64 0 (by omega) (by omega)
  cases a with
  | none =>
    go_enter Try.func12, Try.ntmps12
    go_wp2
    go_ret
    exact ⟨⟨none, rfl, fun y e => by cases e⟩, Below.refl _ _⟩
  | some a =>
    go_enter Try.func12, Try.ntmps12
    go_wp2
    refine wp_loop_rounds 1 ?_
    rw [rounds_succ]
    go_wp2
    go_ret
    exact ⟨⟨_, rfl, fun y e => by cases e; simp⟩, below_one _ _⟩
theorem openc_any (w : World) (a : Option Addr) (n c : Nat) (U : Nat → Nat) (hn : n ≤ 131072) (h : UsOk w a n U) :
    Calls Try.prog 12 #[.slice a n c] w fun e w' => (∃ x, e = .returned (.slice x n n) ∧ UsOk w' x n U ∧ ∀ y, x = some y → y.block < w'.heap.size) ∧ Below w.heap.size w w' := by
  by_cases h0 : n = 0
  · subst h0
    refine (openb0 w a c).mono ?_
    rintro e w' ⟨⟨x, rfl, hx⟩, hb⟩
    exact ⟨⟨x, rfl, ⟨by omega, .inl rfl, fun i hi => by omega⟩, hx⟩, hb⟩
  · refine (openb_any w a n c U hn h).mono ?_
    rintro e w' ⟨⟨x, rfl, hx, _⟩, hb⟩
    refine ⟨⟨x, rfl, hx, fun y e => ?_⟩, hb⟩
    obtain ⟨_, hx, _⟩ := hx
    rcases hx with h1 | ⟨b, o, e', hc⟩
    · exact absurd h1 h0
    · rw [e'] at e; cases e
      exact cell_lt (hc 0 (by omega))

/-! ### Small things -/
theorem lst_map (l : List Nat) (T : Nat → Nat) : lst l.length (fun j => T (l.getD j 0)) = l.map T := by
  apply List.ext_getElem
  · simp [lst]
  · intro i h1 h2
    have h3 : i < l.length := by simpa using h2
    simp [lst, List.getD, h3]
theorem lst_take (l : List Nat) (L : Nat) (h : L ≤ l.length) (T : Nat → Nat) : lst L (fun j => T (l.getD j 0)) = (l.take L).map T := by
  apply List.ext_getElem
  · simp [lst]; omega
  · intro i h1 h2
    have h3 : i < L := by simpa [lst] using h1
    simp [lst, List.getD, show i < l.length by omega]
theorem lst_self (l : List Nat) : lst l.length (fun j => l.getD j 0) = l := by
  have := lst_map l id
  simpa using this
theorem row_usok {w : World} {G n : Nat} {U : Nat → Nat} (h : w.rowIs G 24 n fun i => .int .u64 (U i : Int)) (hn : n ≤ 1048576) (hU : ∀ i, i < n → U i < 18446744073709551616) : UsOk w (some ⟨G, 0, none⟩) n U :=
  ⟨by omega, .inr ⟨G, 0, rfl, row_us h⟩, hU⟩
theorem cutTo (G n p : Nat) (hp : p ≤ n) : ∀ w : World, (Instr.slice 23 (.slice (some ⟨G, 0, none⟩) n n) none (some (.int .i64 (p : Int))) none).run Try.prog w = .ok (.slice (some ⟨G, 0, none⟩) p n) w := by
  intro w
  obtain ⟨i, hi, _, hs, _⟩ := info_parts info24
  have := run_slice_h (P := Try.prog) w 23 (some ⟨G, 0, none⟩) n n Try.underlying23 .i64 (p : Int) (by omega) (by omega)
  rw [this]
  have e : Try.prog.elem 23 = 24 := by kernel_rfl
  rw [e]
  by_cases h : n = 0
  · simp [sizeOf, typeInfo, hi, hs, sliced, h, Addr.add_lit]
  · simp [sizeOf, typeInfo, hi, hs, sliced, h, Addr.add_lit]
/-- A read at a version's own stamp finds it. -/
theorem read_self {n : Nat} {T : Nat → Nat} {x : Nat} {e : Ending} (ha : ∀ i, i + 1 < n → T i < T (i + 1)) (hx : x < n) (h : ReadAt n T (T x) e) : e = .returned (.int .i64 (x : Int)) := by
  have hr : rd n T (T x) x = true := by
    by_cases h1 : x + 1 = n
    · simp [rd, h1]
    · simp [rd, ha x (by omega)]
  rcases h with ⟨_, h⟩ | ⟨r, hr', rfl, h⟩
  · rw [h x hx] at hr; cases hr
  · rw [h x hx] at hr
    simp at hr
    rw [hr]
end Go.Proofs.Qxb6632328a
