import Derived.Test.Qxb6632227aApp
import Derived.Test.Qxb6632227aSame
import Derived.Test.Qxb6632227aClone
import Derived.Test.Qxb6632227aDec
namespace Go.Proofs.Qxb6632227a
open Go.RowKit Plain
set_option linter.unusedSimpArgs false
set_option linter.unusedVariables false

/-- sameBytes, its lengths said by the caller. -/
theorem same_at (w : World) (a a' : Option Addr) (n m c c' : Nat) (zs ys : List Int) (hn : zs.length = n) (hm : ys.length = m) (hz : Rd w a zs) (hy : Rd w a' ys) (hmx : n ≤ 9223372036854775807) :
    Calls Try.prog 8 #[.slice a n c, .slice a' m c'] w fun e w' => SameOut w zs ys e w' := by
  subst hn hm
  exact same_any w a a' c c' zs ys hz hy hmx
theorem dec_at (w : World) (a : Option Addr) (n c v : Nat) (hv2 : v < 18446744073709551616) (hn : (enc v).length = n) (h : Rd w a (enc v)) :
    Calls Try.prog 9 #[.slice a n c] w fun e w' => e = .returned (.tuple #[.int .u64 (v : Int), .bool true]) ∧ w' = w := by
  subst hn
  exact dec_any w a c v hv2 h
theorem clone_at (w : World) (ao : Option Addr) (n c : Nat) (zs : List Int) (hn : zs.length = n) (h0 : ao = none → zs = []) (hm : n ≤ 1048576) (h : Rd w ao zs) :
    Calls Try.prog 6 #[.slice ao n c] w fun e w' => CloneOut w zs e w' := by
  subst hn
  exact clone_any w ao c zs h0 hm h

/-- A row of the call's own that holds something. -/
theorem Own.row {w : World} {base : Nat} {v : Value} {zs : List Int} (h : Own w base v zs) (hne : 1 ≤ zs.length) :
    ∃ g cap : Nat, v = .slice (some ⟨g, 0, none⟩) zs.length cap ∧ zs.length ≤ cap ∧ cap ≤ 9223372036854775807 ∧ ∀ i, i < zs.length → w.cell? ⟨g, i, none⟩ = some (.int .u8 (zs.getD i 0)) := by
  rcases h.2 with ⟨rfl, h0⟩ | ⟨g, cap, cur, rfl, hg, hh, hn, hm, hs, ht⟩
  · omega
  · unfold maxLen at hm
    refine ⟨g, cap, rfl, hn, hm, fun i hi => ?_⟩
    have := World.ownsRow.cellAt (show w.ownsRow base 5 1 (.slice (some ⟨g, 0, none⟩) zs.length cap) zs.length (zs.map (Value.int .u8)) from h) i (by omega)
    rw [this]
    simp [List.getD, hi]

/-- A part of such a row. -/
theorem rd_part {w : World} {g : Nat} {zs xs ys : List Int} (hc : ∀ i, i < (xs ++ (zs ++ ys)).length → w.cell? ⟨g, i, none⟩ = some (.int .u8 ((xs ++ (zs ++ ys)).getD i 0))) {o : Nat} (ho : xs.length = o) : Rd w (some ⟨g, o, none⟩) zs := by
  subst ho
  refine .inr ⟨g, xs.length, rfl, fun i hi => ?_⟩
  rw [hc (xs.length + i) (by simp; omega)]
  congr 2
  simp only [List.getD]
  rw [List.getElem?_append_right (by omega), Nat.add_sub_cancel_left, List.getElem?_append_left hi]

theorem nil_push (w : World) : Pushable w w.heap.size (.slice none 0 0) [] := .inl (World.ownsRow_nil w _ 5 1)

def IsB (e : Ending) : Prop := ∃ t : Bool, e = .returned (.bool t)
theorem zz5 (w : World) (a : Option Addr) (n c : Nat) (v : Int) (hn : n ≤ 9223372036854775807) : Calls Try.prog 5 #[.slice a n c, .int .u64 v] w fun e w' => IsB e ∧ w' = w := by
  go_enter Try.func5, Try.ntmps5
  go_wp2
  all_goals (go_ret; exact ⟨⟨_, rfl⟩, rfl⟩)
theorem zz10 (w : World) (a : Option Addr) (n c : Nat) (u v : Int) (hn : n ≤ 9223372036854775807) : Calls Try.prog 10 #[.slice a n c, .int .u64 u, .int .u64 v] w fun e w' => IsB e ∧ w' = w := by
  go_enter Try.func10, Try.ntmps10
  go_wp2
  all_goals (go_ret; exact ⟨⟨_, rfl⟩, rfl⟩)
end Go.Proofs.Qxb6632227a
