import Derived.Test.Qxb6631315aBase
import Derived.ProofKit
import Derived.ChangeOld
import Derived.ShutString
import Derived.Deep.Strs
import Derived.Deep.Fields23
import Derived.Lib.SmallJoins
namespace Go.Proofs.Qxb6631315a
open Go.RowKit Go.Deep
set_option linter.unusedSimpArgs false
set_option linter.unusedVariables false

theorem cells9 : Try.prog.cellsOf 9 = 1 := by kernel_rfl
theorem cells46 : Try.prog.cellsOf 46 = 3 := by kernel_rfl
theorem cells52 : Try.prog.cellsOf 52 = 2 := by kernel_rfl

section
variable {H : Type} {enc : TypeId × Value → H} {W : World}

theorem spot_none {w : World} {a : Addr} {n : Nat} {v : Value} (h : w.cell? (a.add n) = some v) (hn : n = 0) : ∃ b o, a = ⟨b, o, none⟩ := by
  subst hn
  obtain ⟨b, o, s⟩ := a
  have := World.cell?_spot h
  simp [Addr.add] at this
  subst this
  exact ⟨b, o, rfl⟩

theorem open_roles {fuel : Nat} {v : Value} {x : DataW H × List MemPlace} (h : DataW.trod enc Try.prog W 0 (fun _ => true) true fuel 35 [v] = some x) : ∃ (a : Option Addr) (l c : Nat), v = .slice a l c ∧ RolesOk W a l := by
  rcases open_strs Try.underlying35 Try.underlying9 cells9 h with ⟨hcs, _⟩ | ⟨a, len, cap, m, Sx, hcs, _, hl, hm, hmm, _, hx⟩
  · simp only [List.cons.injEq, and_true] at hcs
    exact ⟨none, 0, 0, hcs, by omega, .inl rfl⟩
  · simp only [List.cons.injEq, and_true] at hcs
    simp only [if_true] at hmm
    unfold maxLen at hm
    refine ⟨some a, len, cap, hcs, by omega, ?_⟩
    by_cases h0 : len = 0
    · exact .inl h0
    · obtain ⟨b, o, rfl⟩ := spot_none (hx 0 (by omega)).1 rfl
      refine .inr ⟨b, o, Sx, rfl, fun i hi => ?_⟩
      have := hx i (by omega)
      unfold maxLen at this
      rw [Go.WideShapes.add_plain] at this
      exact this

theorem open_reg {fuel : Nat} {v : Value} {x : DataW H × List MemPlace} (h : DataW.trod enc Try.prog W 0 (fun _ => true) true fuel 44 [v] = some x) : ∃ p : Option Addr, v = .pointer p ∧ RegOk W p := by
  rcases open_ptr_fields2 Try.underlying44 Try.underlying52 (by kernel_rfl) (by kernel_rfl) h with ⟨hcs, _⟩ | ⟨b, o, n, v0, v1, y0, y1, hcs, _, _, c0, c1, t0, t1⟩
  · simp only [List.cons.injEq, and_true] at hcs
    exact ⟨none, hcs, .inl rfl⟩
  · simp only [List.cons.injEq, and_true] at hcs
    obtain ⟨e, h0, _⟩ := DataW.trod_bool Try.underlying4 t0
    obtain ⟨r, h1, _, hr⟩ := DataW.trod_string Try.underlying9 t1
    simp only [List.cons.injEq, and_true] at h0 h1
    subst h0 h1
    unfold maxLen at hr
    exact ⟨some ⟨b, o, none⟩, hcs, .inr ⟨b, o, e, r, rfl, c0, c1, hr⟩⟩

theorem open_client {fuel : Nat} {v0 v1 v2 : Value} {x : DataW H × List MemPlace} (h : DataW.trod enc Try.prog W 0 (fun _ => true) true fuel 46 [v0, v1, v2] = some x) :
    ∃ (s : ByteArray) (a : Option Addr) (l c : Nat) (p : Option Addr), v0 = .string s ∧ v1 = .slice a l c ∧ v2 = .pointer p ∧ s.size ≤ 9223372036854775807 ∧ RolesOk W a l ∧ RegOk W p := by
  obtain ⟨y0, y1, y2, n, _, _, h0, h1, h2⟩ := trod_struct3 Try.underlying46 h
  have k0 : DataW.trod enc Try.prog W 0 (fun _ => true) true n 9 [v0] = some y0 := h0
  have k1 : DataW.trod enc Try.prog W 0 (fun _ => true) true n 35 [v1] = some y1 := h1
  have k2 : DataW.trod enc Try.prog W 0 (fun _ => true) true n 44 [v2] = some y2 := h2
  obtain ⟨s, e0, _, hs⟩ := DataW.trod_string Try.underlying9 k0
  obtain ⟨a, l, c, e1, hr⟩ := open_roles k1
  obtain ⟨p, e2, hp⟩ := open_reg k2
  simp only [List.cons.injEq, and_true] at e0
  unfold maxLen at hs
  exact ⟨s, a, l, c, p, e0, e1, e2, hs, hr, hp⟩

theorem open_clients {fuel : Nat} {a : Option Addr} {n c : Nat} {x : DataW H × List MemPlace} (h : DataW.trod enc Try.prog W 0 (fun _ => true) true fuel 22 [.slice a n c] = some x) :
    ∃ (ID : Nat → ByteArray) (A : Nat → Option Addr) (L C : Nat → Nat) (R : Nat → Option Addr), ClientsOk W a n ID A L C R := by
  rcases open_slice Try.underlying22 h with ⟨hcs, _⟩ | ⟨ad, len, cap, m, k, D, Pl, hcs, _, hl, hm, hmm, _, hx⟩
  · simp only [List.cons.injEq, and_true, Value.slice.injEq] at hcs
    obtain ⟨rfl, rfl, rfl⟩ := hcs
    exact ⟨fun _ => ⟨#[]⟩, fun _ => none, fun _ => 0, fun _ => 0, fun _ => none, by omega, .inl rfl⟩
  · simp only [List.cons.injEq, and_true, Value.slice.injEq] at hcs
    obtain ⟨rfl, rfl, rfl⟩ := hcs
    simp only [if_true] at hmm
    unfold maxLen at hm
    subst hmm
    rw [cells46] at hx
    have each : ∀ i, i < m → ∃ q : ByteArray × Option Addr × Nat × Nat × Option Addr, W.cell? (ad.add (i * 3)) = some (.string q.1) ∧ W.cell? (ad.add (i * 3 + 1)) = some (.slice q.2.1 q.2.2.1 q.2.2.2.1) ∧
        W.cell? (ad.add (i * 3 + 2)) = some (.pointer q.2.2.2.2) ∧ q.1.size ≤ 9223372036854775807 ∧ RolesOk W q.2.1 q.2.2.1 ∧ RegOk W q.2.2.2.2 := by
      intro i hi
      obtain ⟨cs', h1, h2⟩ := hx i hi
      obtain ⟨_, hlen, hcell⟩ := World.cells?_some h1
      match cs', hlen with
      | [v0, v1, v2], _ =>
        obtain ⟨s, a, l, c, p, rfl, rfl, rfl, hs, hr, hp⟩ := open_client h2
        have e0 := hcell 0 (by omega)
        have e1 := hcell 1 (by omega)
        have e2 := hcell 2 (by omega)
        rw [add_add] at e0 e1 e2
        exact ⟨(s, a, l, c, p), by simpa using e0, by simpa using e1, by simpa using e2, hs, hr, hp⟩
    obtain ⟨q, hq⟩ := choose_lt each
    refine ⟨fun i => (q i).1, fun i => (q i).2.1, fun i => (q i).2.2.1, fun i => (q i).2.2.2.1, fun i => (q i).2.2.2.2, by omega, ?_⟩
    by_cases h0 : n = 0
    · exact .inl h0
    · obtain ⟨b, o, rfl⟩ := spot_none (hq 0 (by omega)).1 (by omega)
      refine .inr ⟨b, o, rfl, fun i hi => ?_⟩
      have := hq i (by omega)
      rw [Go.WideShapes.add_plain, Go.WideShapes.add_plain, Go.WideShapes.add_plain] at this
      exact this
end
end Go.Proofs.Qxb6631315a
