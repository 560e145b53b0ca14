import Derived.Test.Qxb6631315aCut
import Derived.Test.Qxb6631315aBytes
import Derived.Test.Qxb6631315aZza
import Derived.Deep.RegionWith
import Derived.Test.Qxb6631315aCutA
import Derived.Test.Qxb6631315aCutB
namespace Go.Proofs.Qxb6631315a
open Go.RowKit
set_option linter.unusedSimpArgs false
set_option linter.unusedVariables false
attribute [local go_sem] q35 q38 q39


/-- ways on which the law has nothing to say -/
theorem cut_out1 (w : World) (a : Option Addr) (n c : Nat) (ID : Nat → ByteArray) (A : Nat → Option Addr) (L C : Nat → Nat) (R : Nat → Option Addr) (cut : Int) (id : ByteArray) (hi : id.size ≤ 9223372036854775807) (h : ClientsOk w a n ID A L C R) (hbig : 65536 < n ∨ (n ≤ 65536 ∧ 1048576 < id.size)) :
    Calls Try.prog 3 #[.slice a n c, .int .i64 cut, .string id] w fun e w' => e = .returned (.bool true) ∧ Below w.heap.size w w' := by
  rcases hbig with g1 | ⟨g1, g2⟩
  all_goals
    go_enter Try.func3, Try.ntmps3
    go_wp2_with fail
    refine (zza_any _ _ _ _ _ _ _ _ _ _ _ hi h).mono ?_
    rintro e w1 ⟨⟨t, rfl⟩, hw1⟩
    have hw1' := hw1.symm
    subst hw1'
    go_wp2
    all_goals go_ret
    all_goals exact ⟨rfl, Below.refl _ _⟩

theorem cut_out2 (w : World) (a : Option Addr) (n c : Nat) (ID : Nat → ByteArray) (A : Nat → Option Addr) (L C : Nat → Nat) (R : Nat → Option Addr) (cut : Int) (id : ByteArray) (h : ClientsOk w a n ID A L C R) (g1 : n ≤ 65536) (g2 : id.size ≤ 1048576) (hp : cut < 0 ∨ (0 ≤ cut ∧ (n : Int) < cut)) :
    Calls Try.prog 3 #[.slice a n c, .int .i64 cut, .string id] w fun e w' => e = .returned (.bool true) ∧ Below w.heap.size w w' := by
  have d1 : decide (65536 < (n : Int)) = false := decide_eq_false (by omega)
  have d2 : decide (1048576 < (id.size : Int)) = false := decide_eq_false (by omega)
  go_enter Try.func3, Try.ntmps3
  go_wp2_with fail
  refine (zza_any _ _ _ _ _ _ _ _ _ _ _ (by omega) h).mono ?_
  rintro e w1 ⟨⟨t, rfl⟩, hw1⟩
  have hw1' := hw1.symm
  subst hw1'
  cases t
  · go_wp2
    go_ret
    exact ⟨rfl, Below.refl _ _⟩
  go_wp2_with fail
  refine (bytes_any _ _ _ _ ID A L C R _ (by omega) (by omega) h).mono ?_
  rintro e w1 ⟨⟨t2, rfl, ht3, ht4⟩, hw1⟩
  have hw1' := hw1.symm
  subst hw1'
  by_cases ht5 : t2 < 0
  · go_wp2
    go_ret
    exact ⟨rfl, Below.refl _ _⟩
  rcases hp with hp | ⟨hp, hp'⟩
  all_goals
    go_wp2
    go_ret
    exact ⟨rfl, Below.refl _ _⟩

/-- THE LAW's WALK: for every input the call returns true and turns nothing that was there. -/
theorem cut_any (w : World) (a : Option Addr) (n c : Nat) (ID : Nat → ByteArray) (A : Nat → Option Addr) (L C : Nat → Nat) (R : Nat → Option Addr) (cut : Int) (id : ByteArray) (hi : id.size ≤ 9223372036854775807) (h : ClientsOk w a n ID A L C R) :
    Calls Try.prog 3 #[.slice a n c, .int .i64 cut, .string id] w fun e w' => e = .returned (.bool true) ∧ Below w.heap.size w w' := by
  by_cases g1 : n ≤ 65536
  · by_cases g2 : id.size ≤ 1048576
    · by_cases hp : 0 ≤ cut ∧ cut ≤ n
      · obtain ⟨p, rfl⟩ := Int.eq_ofNat_of_zero_le hp.1
        have hp1 : p ≤ n := by have := hp.2; omega
        rcases h.2 with h0 | ⟨b, o, rfl, h0⟩
        · exact cut_zero w a n c p ID A L C R id h0 g1 g2 hp1
        · exact cut_some w b o n c p ID A L C R id h0 g1 g2 hp1
      · exact cut_out2 w a n c ID A L C R cut id h g1 g2 (by omega)
    · exact cut_out1 w a n c ID A L C R cut id hi h (by omega)
  · exact cut_out1 w a n c ID A L C R cut id hi h (by omega)
end Go.Proofs.Qxb6631315a
