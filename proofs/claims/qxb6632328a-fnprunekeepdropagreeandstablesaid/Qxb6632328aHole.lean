import Derived.Test.Qxb6632328aBuild
import Derived.Test.Qxb6632328aSeen
import Derived.Test.Qxb6632328aSame
namespace Go.Proofs.Qxb6632328a
open Go.RowKit
set_option linter.unusedVariables false
set_option linter.unusedSimpArgs false

/-- Below N the world w' is as w was, but for block B. -/
structure Hole (N B : Nat) (w w' : World) : Prop where
  os : w'.os = w.os
  tape : w'.tape = w.tape
  output : w'.output = w.output
  size : w.heap.size ≤ w'.heap.size
  block : ∀ k, k < N → k ≠ B → w'.heap[k]? = w.heap[k]?
theorem Hole.of {N B : Nat} {w w' : World} (h : Below N w w') : Hole N B w w' := ⟨h.os, h.tape, h.output, h.size, fun k hk _ => h.block k hk⟩
theorem Hole.refl (N B : Nat) (w : World) : Hole N B w w := Hole.of (Below.refl _ _)
theorem Hole.trans {N B : Nat} {a b c : World} (h : Hole N B a b) (k : Hole N B b c) : Hole N B a c :=
  ⟨k.os.trans h.os, k.tape.trans h.tape, k.output.trans h.output, Nat.le_trans h.size k.size, fun i hi hb => (k.block i hi hb).trans (h.block i hi hb)⟩
theorem Hole.mono {N N' B : Nat} {w w' : World} (h : Hole N B w w') (hB : N' ≤ N) : Hole N' B w w' := ⟨h.os, h.tape, h.output, h.size, fun k hk => h.block k (Nat.lt_of_lt_of_le hk hB)⟩
theorem Hole.below {N B M : Nat} {w w' : World} (h : Hole N B w w') (h1 : M ≤ N) (h2 : M ≤ B) : Below M w w' := ⟨h.os, h.tape, h.output, h.size, fun k hk => h.block k (by omega) (by omega)⟩
theorem Hole.setCells {N B : Nat} {a w : World} (h : Hole N B a w) (o : Nat) (vs : List Value) : Hole N B a (w.setCells B o vs) := by
  induction vs generalizing o w with
  | nil => exact h
  | cons v vs ih => exact ih (w := w.setCell ⟨B, o, none⟩ v) (h.trans ⟨rfl, rfl, rfl, by simp [World.setCell], fun k _ hk => Below.heap_setCell _ _ _ _ hk⟩) (o + 1)
theorem Hole.cell {N B : Nat} {w w' : World} (h : Hole N B w w') {b o : Nat} {v : Value} (hb : b < N) (hne : b ≠ B) (hc : w.cell? ⟨b, o, none⟩ = some v) : w'.cell? ⟨b, o, none⟩ = some v :=
  (World.cell?_of_block (w := w) (a := ⟨b, o, none⟩) (h.block b hb hne)).trans hc
theorem UsOk.hole {w w' : World} {B : Nat} {a : Option Addr} {n : Nat} {U : Nat → Nat} (h : UsOk w a n U) (hb : Hole w.heap.size B w w') (hx : ∀ x, a = some x → x.block ≠ B) : UsOk w' a n U := by
  obtain ⟨h1, h2, h3⟩ := h
  refine ⟨h1, ?_, h3⟩
  rcases h2 with h0 | ⟨b, o, ha, hc⟩
  · exact .inl h0
  · exact .inr ⟨b, o, ha, fun i hi => hb.cell (cell_lt (hc i hi)) (hx _ ha) (hc i hi)⟩

/-- A row of stamps of the call's own (from block 'base' on), onto which one may append. -/
def OwnT (t : TypeId) (w : World) (base : Nat) (v : Value) (zs : List Nat) : Prop := w.ownsRow base t 1 v zs.length (zs.map fun z : Nat => Value.int .u64 (z : Int))
theorem OwnT.lower {t : TypeId} {w : World} {base base' : Nat} {v : Value} {zs : List Nat} (h : OwnT t w base v zs) (hb : base' ≤ base) : OwnT t w base' v zs := by
  refine ⟨h.1, ?_⟩
  rcases h.2 with h0 | ⟨g, cap, cur, hv, hg, r⟩
  · exact .inl h0
  · exact .inr ⟨g, cap, cur, hv, Nat.le_trans hb hg, r⟩
theorem OwnT.hole {t : TypeId} {w w' : World} {base B : Nat} {v : Value} {zs : List Nat} (h : OwnT t w base v zs) (hb : Hole w.heap.size B w w') (hB : B < base) : OwnT t w' base v zs := by
  refine ⟨h.1, ?_⟩
  rcases h.2 with h0 | ⟨g, cap, cur, hv, hg, hh, r⟩
  · exact .inl h0
  · exact .inr ⟨g, cap, cur, hv, hg, (hb.block g (Array.getElem?_eq_some_iff.1 hh).1 (by omega)).trans hh, r⟩
theorem OwnT.later {t : TypeId} {w w' : World} {base : Nat} {v : Value} {zs : List Nat} (h : OwnT t w base v zs) (hb : Below w.heap.size w w') : OwnT t w' base v zs := by
  refine ⟨h.1, ?_⟩
  rcases h.2 with h0 | ⟨g, cap, cur, hv, hg, hh, r⟩
  · exact .inl h0
  · exact .inr ⟨g, cap, cur, hv, hg, (hb.block g (Array.getElem?_eq_some_iff.1 hh).1).trans hh, r⟩
theorem ownT_of {t : TypeId} {w : World} {base : Nat} {v : Value} {n : Nat} {xs : List Value} (zs : List Nat) (h : w.ownsRow base t 1 v n xs) (hn : n = zs.length) (hx : xs = zs.map fun z : Nat => Value.int .u64 (z : Int)) : OwnT t w base v zs := by
  subst hn hx; exact h
theorem OwnT.nil (t : TypeId) (w : World) (base : Nat) : OwnT t w base (.slice none 0 0) [] := World.ownsRow_nil w base t 1
/-- What such a row reads as. -/
theorem OwnT.shape {t : TypeId} {w : World} {base : Nat} {v : Value} {zs : List Nat} (h : OwnT t w base v zs) :
    ∃ (a : Option Addr) (c : Nat), v = .slice a zs.length c ∧ zs.length ≤ 9223372036854775807 ∧ (zs.length = 0 ∨ ∃ b o : Nat, a = some ⟨b, o, none⟩ ∧ RowU w b o zs.length fun i => zs.getD i 0) ∧ ∀ x, a = some x → base ≤ x.block := by
  rcases h.2 with ⟨rfl, h0⟩ | ⟨g, cap, cur, rfl, hg, hh, hn, hm, hs, ht⟩
  · exact ⟨none, 0, by rw [h0], by omega, .inl h0, fun x e => by cases e⟩
  · unfold maxLen at hm
    refine ⟨_, _, rfl, by omega, .inr ⟨g, 0, rfl, fun i hi => ?_⟩, fun x e => by cases e; exact hg⟩
    rw [Nat.mul_one] at ht
    have h1 : cur.toList[i]? = (zs.map fun z : Nat => Value.int .u64 (z : Int))[i]? := by
      rw [← ht, List.getElem?_take, if_pos hi]
    rw [Nat.zero_add]
    simp only [World.cell?, hh]
    rw [← Array.getElem?_toList, h1, List.getElem?_map, List.getElem?_eq_getElem hi]
    simp [List.getD, hi]

theorem one_cell (w : World) (t : TypeId) (x : Value) : ∀ j u, [x][j]? = some u → (w.alloc (.cells #[x] t)).cell? ((⟨w.heap.size, 0, none⟩ : Addr).add j) = some u := by
  intro j u hu
  match j, hu with
  | 0, hu => simp at hu; subst hu; simp [Addr.add]
theorem one_one (n : Int) : ∀ u ∈ [Value.int .u64 n], u.oneCell' = true := by intro u hu; simp at hu; subst hu; rfl
theorem info_parts {t : TypeId} {z : Value} {s b : Nat} (h : (Try.prog.info? t).map (fun i => (i.zero, i.size, i.bytes)) = some (some z, s, b)) : ∃ i, Try.prog.info? t = some i ∧ i.zero = some z ∧ i.size = s ∧ i.bytes = b := by
  obtain ⟨i, hi, hzz⟩ := Option.map_eq_some_iff.1 h
  simp only [Prod.mk.injEq] at hzz
  exact ⟨i, hi, hzz.1, hzz.2.1, hzz.2.2⟩
/-- 'append(dropped, x)' of one stamp, the stamp laid in a block of its own first. -/
theorem wpList_push {w : World} {ops : Array Oper} {rest : List Oper} {o : Oper} {a : Act} {Q : Exit → Act → World → Prop} (hgd : o.guard = none) (s x : Operand) (T e : TypeId) (hT : Try.prog.underlying T = some (.slice e)) (hE : (Try.prog.info? e).map (fun i => (i.zero, i.size, i.bytes)) = some (some (.int .u64 0), 1, 8))
    (ho : o.op = .call { callee := .builtin .append, args := #[s, x], argTypes := #[T, T] }) (base : Nat) (sv : Value) (zs : List Nat) (hs : a.eval s = sv) (n g : Nat) (hx : a.eval x = .slice (some ⟨g, 0, none⟩) 1 1) (hg : g = w.heap.size)
    (h : OwnT e w base sv zs) (hlen : zs.length ≤ 2000000) (hb : base ≤ w.heap.size)
    (hK : ∀ v' w', OwnT e w' base v' (zs ++ [n]) → Below base w w' → wpList Try.prog ops Q rest (a.put o.dst v') w') : wpList Try.prog ops Q (o :: rest) a (w.alloc (.cells #[.int .u64 (n : Int)] e)) := by
  subst hg
  obtain ⟨i0, hi, hz0, hz1, hz2⟩ := info_parts hE
  refine wpList_append_own _ hgd s x T ho base e i0 (.int .u64 0) 1 8 hT hi hz0 hz1 hz2 rfl (by decide) sv zs.length _ hs (World.ownsRow.alloc h _) ⟨w.heap.size, 0, none⟩ 1 1 [.int .u64 (n : Int)] hx rfl (one_cell _ _ _) (one_one _) (by unfold maxLen; omega) (by omega) (by simp; omega) ?_
  intro v' w' h1 h2 _
  refine hK v' w' (ownT_of _ h1 (by simp) (by simp)) ?_
  exact ((Below.refl base w).alloc hb _).grown h2 (by simp; omega) (fun k hk => (World.ownsRow.lt h k hk).1)

/-! ### Which versions Prune keeps -/
def k1 (n m : Nat) (T U : Nat → Nat) (fl i : Nat) : Bool := decide (i + 1 = n) || decide (fl < T (i + 1)) || seenB m U (T i) (T (i + 1))
def keepOf (k : Nat → Bool) (nil : Nat → Bool) (del : Bool) (i : Nat) (em : Bool) : Bool := k i && !(em && nil i && del)
def st (keep : Nat → Bool → Bool) : Nat → List Nat × List Nat
  | 0 => ([], [])
  | k + 1 => if keep k (st keep k).1.isEmpty then ((st keep k).1 ++ [k], (st keep k).2) else ((st keep k).1, (st keep k).2 ++ [k])
theorem st_len (keep : Nat → Bool → Bool) (k : Nat) : (st keep k).1.length + (st keep k).2.length = k := by
  induction k with
  | zero => rfl
  | succ k ih => simp only [st]; split <;> simp <;> omega
end Go.Proofs.Qxb6632328a
