import Derived.Test.Qxb6631315aLaws
import Derived.Test.Qxb6631315aBytes
import Derived.Test.Qxb6631315aZzi
import Derived.Test.Qxb6631315aInsA
import Derived.Test.Qxb6631315aInsB
namespace Go.Proofs.Qxb6631315a
open Go.RowKit
set_option linter.unusedSimpArgs false
set_option linter.unusedVariables false
attribute [local go_sem] q35 q38 q39 make22

/-- the end of a way on which the law has nothing to say -/
theorem ins_out1 (w : World) (a : Option Addr) (n c : Nat) (ID : Nat → ByteArray) (A : Nat → Option Addr) (L C : Nat → Nat) (R : Nat → Option Addr) (pos : Int) (xs : ByteArray) (xa : Option Addr) (xl xc : Nat) (xp : Option Addr) (id : ByteArray) (hi : id.size ≤ 9223372036854775807) (hxs : xs.size ≤ 9223372036854775807) (hxr : RolesOk w xa xl) (hxg : RegOk w xp) (h : ClientsOk w a n ID A L C R)
    (hbig : 65536 < n ∨ (n ≤ 65536 ∧ 1048576 < id.size) ∨ (n ≤ 65536 ∧ id.size ≤ 1048576 ∧ 1048576 < xs.size)) :
    Calls Try.prog 4 #[.slice a n c, .int .i64 pos, .agg #[.string xs, .slice xa xl xc, .pointer xp], .string id] w fun e w' => e = .returned (.bool true) ∧ Below w.heap.size w w' := by
  have hn := h.1
  have hb1 : Below w.heap.size w (w.alloc (.cells #[.string xs, .slice xa xl xc, .pointer xp] 46)) := (Below.refl _ _).alloc (Nat.le_refl _) _
  have h1 := h.later hb1
  have hxr1 := hxr.later hb1
  have hxg1 := hxg.later hb1
  have HB1 := hid hb1
  clear hb1 h hxr hxg
  rcases hbig with g1 | ⟨g1, g2⟩ | ⟨g1, g2, g3⟩
  all_goals
    go_enter Try.func4, Try.ntmps4
    go_wp2_with fail
    refine (zzi_any _ _ _ _ _ _ _ _ _ _ _ _ _ _ _ _ hi hxs hxr1 hxg1 h1).mono ?_
    rintro e w1 ⟨⟨t, rfl⟩, rfl⟩
    go_wp2
    all_goals go_ret
    all_goals exact ⟨rfl, HB1.out.alloc (by simp) _⟩


set_option maxHeartbeats 1000000 in
/-- the place lies outside the list -/
theorem ins_out2 (w : World) (a : Option Addr) (n c : Nat) (ID : Nat → ByteArray) (A : Nat → Option Addr) (L C : Nat → Nat) (R : Nat → Option Addr) (pos : Int) (xs : ByteArray) (xa : Option Addr) (xl xc : Nat) (xp : Option Addr) (id : ByteArray) (hxr : RolesOk w xa xl) (hxg : RegOk w xp) (h : ClientsOk w a n ID A L C R)
    (g1 : n ≤ 65536) (g2 : id.size ≤ 1048576) (g3 : xs.size ≤ 1048576) (hp : pos < 0 ∨ (0 ≤ pos ∧ (n : Int) < pos)) :
    Calls Try.prog 4 #[.slice a n c, .int .i64 pos, .agg #[.string xs, .slice xa xl xc, .pointer xp], .string id] w fun e w' => e = .returned (.bool true) ∧ Below w.heap.size w w' := by
  have hb1 : Below w.heap.size w (w.alloc (.cells #[.string xs, .slice xa xl xc, .pointer xp] 46)) := (Below.refl _ _).alloc (Nat.le_refl _) _
  have h1 := h.later hb1
  have hxr1 := hxr.later hb1
  have hxg1 := hxg.later hb1
  have HB1 := hid hb1
  clear hb1 h hxr hxg
  have d1 : decide (65536 < (n : Int)) = false := decide_eq_false (by omega)
  have d2 : decide (1048576 < (id.size : Int)) = false := decide_eq_false (by omega)
  have d3 : decide (1048576 < (xs.size : Int)) = false := decide_eq_false (by omega)
  go_enter Try.func4, Try.ntmps4
  go_wp2_with fail
  refine (zzi_any _ _ _ _ _ _ _ _ _ _ _ _ _ _ _ _ (by omega) (by omega) hxr1 hxg1 h1).mono ?_
  rintro e w1 ⟨⟨t, rfl⟩, rfl⟩
  cases t
  · go_wp2
    go_ret
    exact ⟨rfl, HB1.out.alloc (by simp) _⟩
  go_wp2_with fail
  have fx := cells_box w xs xa xl xc xp
  generalize hX : (Obj.cells #[.string xs, .slice xa xl xc, .pointer xp] 46 : Obj) = X at *
  have HX := hid hX
  have Hfx := hid fx
  clear hX fx
  refine (bytes_any _ _ _ _ (fun _ => xs) (fun _ => xa) (fun _ => xl) (fun _ => xc) (fun _ => xp) _ (by omega) (by omega) ⟨by omega, .inr ⟨_, _, rfl, ?cells⟩⟩).mono ?_
  case cells =>
    have hb3 := below_two (w.alloc X) X X
    intro i hi
    obtain rfl : i = 0 := by omega
    rw [← HX.out]
    refine ⟨by simp [go_sem], by simp [go_sem], by simp [go_sem], (by show xs.size ≤ _; omega), ?_, ?_⟩
    · rw [HX.out]; exact hxr1.later hb3
    · rw [HX.out]; exact hxg1.later hb3
  rintro e w1 ⟨⟨t, rfl, ht1, ht2⟩, rfl⟩
  by_cases ht0 : t < 0
  · go_wp2
    go_ret
    exact ⟨rfl, (HB1.out.alloc (by simp) _).alloc (by simp; omega) _⟩
  go_wp2_with fail
  refine (bytes_any _ _ _ _ ID A L C R _ (by omega) (by omega) (h1.later (below_two _ _ _))).mono ?_
  rintro e w1 ⟨⟨t2, rfl, ht3, ht4⟩, rfl⟩
  by_cases ht5 : t2 < 0
  · go_wp2
    go_ret
    exact ⟨rfl, (HB1.out.alloc (by simp) _).alloc (by simp; omega) _⟩
  rcases hp with hp | ⟨hp, hp'⟩
  all_goals
    go_wp2
    go_ret
    exact ⟨rfl, (HB1.out.alloc (by simp) _).alloc (by simp; omega) _⟩

/-- THE LAW's WALK: for every input the call returns true and turns nothing that was there. -/
theorem ins_any (w : World) (a : Option Addr) (n c : Nat) (ID : Nat → ByteArray) (A : Nat → Option Addr) (L C : Nat → Nat) (R : Nat → Option Addr) (pos : Int) (xs : ByteArray) (xa : Option Addr) (xl xc : Nat) (xp : Option Addr) (id : ByteArray) (hi : id.size ≤ 9223372036854775807) (hxs : xs.size ≤ 9223372036854775807) (hxr : RolesOk w xa xl) (hxg : RegOk w xp) (h : ClientsOk w a n ID A L C R) :
    Calls Try.prog 4 #[.slice a n c, .int .i64 pos, .agg #[.string xs, .slice xa xl xc, .pointer xp], .string id] w fun e w' => e = .returned (.bool true) ∧ Below w.heap.size w w' := by
  by_cases g1 : n ≤ 65536
  · by_cases g2 : id.size ≤ 1048576
    · by_cases g3 : xs.size ≤ 1048576
      · by_cases hp : 0 ≤ pos ∧ pos ≤ n
        · obtain ⟨p, rfl⟩ := Int.eq_ofNat_of_zero_le hp.1
          have hp1 : p ≤ n := by have := hp.2; omega
          rcases h.2 with h0 | ⟨b, o, rfl, h0⟩
          · exact ins_zero w a n c p ID A L C R xs xa xl xc xp id hxr hxg h0 g1 g2 g3 hp1
          · exact ins_some w b o n c p ID A L C R xs xa xl xc xp id hxr hxg h0 g1 g2 g3 hp1
        · exact ins_out2 w a n c ID A L C R pos xs xa xl xc xp id hxr hxg h g1 g2 g3 (by omega)
      · exact ins_out1 w a n c ID A L C R pos xs xa xl xc xp id hi hxs hxr hxg h (by omega)
    · exact ins_out1 w a n c ID A L C R pos xs xa xl xc xp id hi hxs hxr hxg h (by omega)
  · exact ins_out1 w a n c ID A L C R pos xs xa xl xc xp id hi hxs hxr hxg h (by omega)
end Go.Proofs.Qxb6631315a
