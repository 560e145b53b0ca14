import Derived.Test.Qxb6632328aBase
import Derived.ProofKit
import Derived.ChangeOld
import Derived.Deep.Strs
import Derived.Deep.Fields23
import Derived.Deep.SlicePairs
import Derived.Lib.SmallJoins
namespace Go.Proofs.Qxb6632328a
open Go.RowKit Go.Deep
set_option linter.unusedSimpArgs false
set_option linter.unusedVariables false

theorem cells5 : Try.prog.cellsOf 5 = 1 := by kernel_rfl
theorem cells24 : Try.prog.cellsOf 24 = 1 := by kernel_rfl
theorem cells33 : Try.prog.cellsOf 33 = 2 := by kernel_rfl
theorem wf_u64 {n : Int} (h : (Lit.int .u64 n).wf = true) : ∃ t : Nat, n = (t : Int) ∧ t < 18446744073709551616 := by
  have h1 : IntKind.min .u64 = 0 := by decide
  have h2 : IntKind.max .u64 = 18446744073709551615 := by decide
  simp only [Lit.wf, h1, h2, Bool.and_eq_true, decide_eq_true_eq] at h
  exact ⟨n.toNat, by omega, by omega⟩

section
variable {H : Type} {enc : TypeId × Value → H} {W : World}

theorem spot_none {w : World} {a : Addr} {n : Nat} {v : Value} (h : w.cell? (a.add n) = some v) (hn : n = 0) : ∃ b o, a = ⟨b, o, none⟩ := by
  subst hn
  obtain ⟨b, o, s⟩ := a
  have := World.cell?_spot h
  simp [Addr.add] at this
  subst this
  exact ⟨b, o, rfl⟩

/-- A slice of integers, opened. -/
theorem open_nums {t e : TypeId} {kd : IntKind} {fuel : Nat} {v : Value} {x : DataW H × List MemPlace} (ht : Try.prog.underlying t = some (.slice e)) (he : Try.prog.underlying e = some (.int kd)) (ce : Try.prog.cellsOf e = 1)
    (h : DataW.trod enc Try.prog W 0 (fun _ => true) true fuel t [v] = some x) :
    ∃ (a : Option Addr) (l c : Nat) (Z : Nat → Int), v = .slice a l c ∧ l ≤ 9223372036854775807 ∧ (l = 0 ∨ ∃ b o : Nat, a = some ⟨b, o, none⟩ ∧ ∀ i, i < l → W.cell? ⟨b, o + i, none⟩ = some (.int kd (Z i))) ∧ ∀ i, i < l → (Lit.int kd (Z i)).wf = true := by
  rcases open_slice ht h with ⟨hcs, _⟩ | ⟨ad, len, cap, m, k, D, Pl, hcs, _, hl, hm, hmm, _, hx⟩
  · simp only [List.cons.injEq, and_true] at hcs
    exact ⟨none, 0, 0, fun _ => 0, hcs, by omega, .inl rfl, fun i hi => by omega⟩
  · simp only [List.cons.injEq, and_true] at hcs
    simp only [if_true] at hmm
    unfold maxLen at hm
    subst hmm
    rw [ce] at hx
    have each : ∀ i, i < m → ∃ q : Int, W.cell? (ad.add i) = some (.int kd q) ∧ (Lit.int kd q).wf = true := by
      intro i hi
      obtain ⟨cs', h1, h2⟩ := hx i hi
      obtain ⟨_, hlen, hcell⟩ := World.cells?_some h1
      match cs', hlen with
      | [v0], _ =>
        obtain ⟨n, e0, _, hw⟩ := DataW.trod_int he h2
        simp only [List.cons.injEq, and_true] at e0
        subst e0
        have e0 := hcell 0 (by omega)
        rw [add_add] at e0
        exact ⟨n, by simpa using e0, hw⟩
    obtain ⟨q, hq⟩ := choose_lt each
    refine ⟨some ad, len, m, q, hcs, by omega, ?_, fun i hi => (hq i (by omega)).2⟩
    by_cases h0 : len = 0
    · exact .inl h0
    · obtain ⟨b, o, rfl⟩ := spot_none (hq 0 (by omega)).1 rfl
      refine .inr ⟨b, o, rfl, fun i hi => ?_⟩
      have := (hq i (by omega)).1
      rw [Go.WideShapes.add_plain] at this
      exact this

theorem open_stamps {fuel : Nat} {a : Option Addr} {n c : Nat} {x : DataW H × List MemPlace} (h : DataW.trod enc Try.prog W 0 (fun _ => true) true fuel 23 [.slice a n c] = some x) : ∃ U : Nat → Nat, UsOk W a n U := by
  obtain ⟨a', l, c', Z, e, hl, hr, hw⟩ := open_nums Try.underlying23 Try.underlying24 cells24 h
  simp only [Value.slice.injEq] at e
  obtain ⟨rfl, rfl, rfl⟩ := e
  have each : ∀ i, i < n → ∃ t : Nat, Z i = (t : Int) ∧ t < 18446744073709551616 := fun i hi => wf_u64 (hw i hi)
  obtain ⟨U, hU⟩ := choose_lt each
  refine ⟨U, hl, ?_, fun i hi => (hU i hi).2⟩
  rcases hr with h0 | ⟨b, o, e, hc⟩
  · exact .inl h0
  · exact .inr ⟨b, o, e, fun i hi => by rw [hc i hi, (hU i hi).1]⟩

theorem open_bytes {fuel : Nat} {v : Value} {x : DataW H × List MemPlace} (h : DataW.trod enc Try.prog W 0 (fun _ => true) true fuel 31 [v] = some x) : ∃ (a : Option Addr) (l c : Nat), v = .slice a l c ∧ BytesOk W a l := by
  obtain ⟨a', l, c', Z, e, hl, hr, hw⟩ := open_nums Try.underlying31 Try.underlying5 cells5 h
  refine ⟨a', l, c', e, hl, ?_⟩
  rcases hr with h0 | ⟨b, o, e, hc⟩
  · exact .inl h0
  · exact .inr ⟨b, o, Z, e, hc⟩

theorem open_versions {fuel : Nat} {a : Option Addr} {n c : Nat} {x : DataW H × List MemPlace} (h : DataW.trod enc Try.prog W 0 (fun _ => true) true fuel 22 [.slice a n c] = some x) : ∃ V : Nat → Ver, VsOk W a n V := by
  rcases open_slice Try.underlying22 h with ⟨hcs, _⟩ | ⟨ad, len, cap, m, k, D, Pl, hcs, _, hl, hm, hmm, _, hx⟩
  · simp only [List.cons.injEq, and_true, Value.slice.injEq] at hcs
    obtain ⟨rfl, rfl, rfl⟩ := hcs
    exact ⟨fun _ => ⟨none, 0, 0, 0⟩, by omega, .inl rfl, fun i hi => by omega, fun i hi => by omega⟩
  · simp only [List.cons.injEq, and_true, Value.slice.injEq] at hcs
    obtain ⟨rfl, rfl, rfl⟩ := hcs
    simp only [if_true] at hmm
    unfold maxLen at hm
    subst hmm
    rw [cells33] at hx
    have each : ∀ i, i < m → ∃ q : Option Addr × Nat × Nat × Nat, W.cell? (ad.add (i * 2)) = some (.slice q.1 q.2.1 q.2.2.1) ∧ W.cell? (ad.add (i * 2 + 1)) = some (.int .u64 (q.2.2.2 : Int)) ∧ BytesOk W q.1 q.2.1 ∧ q.2.2.2 < 18446744073709551616 := by
      intro i hi
      obtain ⟨cs', h1, h2⟩ := hx i hi
      obtain ⟨_, hlen, hcell⟩ := World.cells?_some h1
      match cs', hlen with
      | [v0, v1], _ =>
        obtain ⟨y0, y1, k', _, _, t0, t1⟩ := Go.ChangeShapes.trod_struct2 Try.underlying33 h2
        have k0 : DataW.trod enc Try.prog W 0 (fun _ => true) true k' 31 [v0] = some y0 := t0
        have k1 : DataW.trod enc Try.prog W 0 (fun _ => true) true k' 24 [v1] = some y1 := t1
        obtain ⟨va, vl, vc, rfl, hb⟩ := open_bytes k0
        obtain ⟨t, e1, _, hw⟩ := DataW.trod_int Try.underlying24 k1
        simp only [List.cons.injEq, and_true] at e1
        subst e1
        obtain ⟨t, rfl, ht⟩ := wf_u64 hw
        have e0 := hcell 0 (by omega)
        have e1 := hcell 1 (by omega)
        rw [add_add] at e0 e1
        exact ⟨(va, vl, vc, t), by simpa using e0, by simpa using e1, hb, ht⟩
    obtain ⟨q, hq⟩ := choose_lt each
    refine ⟨fun i => ⟨(q i).1, (q i).2.1, (q i).2.2.1, (q i).2.2.2⟩, by omega, ?_, fun i hi => (hq i (by omega)).2.2.1, fun i hi => (hq i (by omega)).2.2.2⟩
    by_cases h0 : n = 0
    · exact .inl h0
    · obtain ⟨b, o, rfl⟩ := spot_none (hq 0 (by omega)).1 (by omega)
      refine .inr ⟨b, o, rfl, fun i hi => ?_⟩
      have h3 := (hq i (by omega)).1
      have h4 := (hq i (by omega)).2.1
      rw [Go.WideShapes.add_plain] at h3 h4
      exact ⟨h3, h4⟩
end
end Go.Proofs.Qxb6632328a
