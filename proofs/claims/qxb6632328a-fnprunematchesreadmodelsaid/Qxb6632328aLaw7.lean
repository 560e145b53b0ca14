import Derived.Test.Qxb6632328aMarks
import Derived.Deep.CutRange
import Derived.Deep.RegionHeld3
namespace Go.Proofs.Qxb6632328a
open Go.RowKit
set_option linter.unusedVariables false
set_option linter.unusedSimpArgs false
attribute [local go_sem] q22 q23 q31 q44 q44n

def ReadZ (n : Nat) (T : Nat → Nat) (t : Nat) (z : Int) : Prop := (z = -1 ∧ ∀ i, i < n → rd n T t i = false) ∨ ∃ r : Nat, r < n ∧ z = (r : Int) ∧ ∀ i, i < n → rd n T t i = decide (i = r)
theorem readZ_of {n : Nat} {T : Nat → Nat} {t : Nat} {e : Ending} (h : ReadAt n T t e) : ∃ z : Int, e = .returned (.int .i64 z) ∧ ReadZ n T t z := by
  rcases h with ⟨rfl, h⟩ | ⟨r, hr, rfl, h⟩
  · exact ⟨_, rfl, .inl ⟨rfl, h⟩⟩
  · exact ⟨_, rfl, .inr ⟨r, hr, rfl, h⟩⟩
def Rel1 (w1 : World) (S n m : Nat) (T U : Nat → Nat) (jv : Value) (wr : World) : Prop :=
  ∃ k : Nat, k ≤ m ∧ jv = .int .i64 (k : Int) ∧ Below S w1 wr ∧ wr.rowIs S 4 n fun i => .bool (marks n T ((List.range k).map U) i)
def Rel2 (w1 : World) (S n m : Nat) (T U : Nat → Nat) (fl : Nat) (jv : Value) (wr : World) : Prop :=
  ∃ k : Nat, k ≤ n ∧ jv = .int .i64 (k : Int) ∧ Below S w1 wr ∧ wr.rowIs S 4 n fun i => .bool (marks n T ((List.range m).map U ++ [fl] ++ ((List.range k).filter fun k => decide (fl ≤ T k)).map T) i)

def Rel3 (wc : World) (n : Nat) (V : Nat → Ver) (keep : Nat → Bool → Bool) (kv dv iv : Value) (wr : World) : Prop :=
  ∃ k : Nat, k ≤ n ∧ iv = .int .i64 (k : Int) ∧ kv = .slice (some ⟨wc.heap.size, 0, none⟩) (st keep k).1.length n ∧ dv = .slice (some ⟨wc.heap.size + 1, 0, none⟩) ((st keep k).2.map fun i => (V i).t).length n ∧
    Below wc.heap.size wc wr ∧ wr.rowIs wc.heap.size 3 n (rowN .i64 (st keep k).1) ∧ wr.rowIs (wc.heap.size + 1) 24 n (rowN .u64 ((st keep k).2.map fun i => (V i).t))
theorem rel3_start (wc : World) (n : Nat) (V : Nat → Ver) (keep : Nat → Bool → Bool) :
    Rel3 wc n V keep (.slice (some ⟨wc.heap.size, 0, none⟩) 0 n) (.slice (some ⟨wc.heap.size + 1, 0, none⟩) 0 n) (.int .i64 0) ((wc.alloc (.cells (madeCells #[.int .i64 0] n) 3)).alloc (.cells (madeCells #[.int .u64 0] n) 24)) := by
  refine ⟨0, Nat.zero_le _, rfl, rfl, rfl, below_two _ _ _, ?_, ?_⟩
  · exact ((World.rowIs_made wc (.int .i64 0) n 3).congr fun i hi => by simp [rowN, st]).alloc _
  · have := World.rowIs_made (wc.alloc (.cells (madeCells #[.int .i64 0] n) 3)) (.int .u64 0) n 24
    rw [show (wc.alloc (.cells (madeCells #[.int .i64 0] n) 3)).heap.size = wc.heap.size + 1 by simp] at this
    exact this.congr fun i hi => by simp [rowN, st]
theorem rel3_keep {wc wr w' : World} {n k : Nat} {V : Nat → Ver} {keep : Nat → Bool → Bool} {ks zs : List Nat} (hk : k < n) (h1 : (st keep k).1 = ks) (h2 : ((st keep k).2.map fun i => (V i).t) = zs) (hkeep : keep k ks.isEmpty = true)
    (hb : Below wc.heap.size wc wr) (hr2 : wr.rowIs (wc.heap.size + 1) 24 n (rowN .u64 zs)) (hr1 : w'.rowIs wc.heap.size 3 n (rowN .i64 (ks ++ [k]))) (hh : Hole wr.heap.size wc.heap.size wr w') :
    Rel3 wc n V keep (.slice (some ⟨wc.heap.size, 0, none⟩) (ks.length + 1) n) (.slice (some ⟨wc.heap.size + 1, 0, none⟩) zs.length n) (.int .i64 ((k : Int) + 1)) w' := by
  have e1 : (st keep (k + 1)).1 = ks ++ [k] := by simp [st, h1, hkeep]
  have e2 : (st keep (k + 1)).2.map (fun i => (V i).t) = zs := by simp [st, h1, hkeep, h2]
  refine ⟨k + 1, hk, by simp, by rw [e1]; simp, by rw [e2], hb.trans (hh.below hb.size (Nat.le_refl _)), by rw [e1]; exact hr1, ?_⟩
  rw [e2]
  exact hr2.of_block (hh.block _ hr2.lt (by omega))
theorem rel3_drop {wc wr w' : World} {n k : Nat} {V : Nat → Ver} {keep : Nat → Bool → Bool} {ks zs : List Nat} (hk : k < n) (h1 : (st keep k).1 = ks) (h2 : ((st keep k).2.map fun i => (V i).t) = zs) (hkeep : keep k ks.isEmpty = false)
    (hb : Below wc.heap.size wc wr) (hr1 : wr.rowIs wc.heap.size 3 n (rowN .i64 ks)) (hr2 : w'.rowIs (wc.heap.size + 1) 24 n (rowN .u64 (zs ++ [(V k).t]))) (hh : Hole wr.heap.size (wc.heap.size + 1) wr w') :
    Rel3 wc n V keep (.slice (some ⟨wc.heap.size, 0, none⟩) ks.length n) (.slice (some ⟨wc.heap.size + 1, 0, none⟩) (zs.length + 1) n) (.int .i64 ((k : Int) + 1)) w' := by
  have e1 : (st keep (k + 1)).1 = ks := by simp [st, h1, hkeep]
  have e2 : (st keep (k + 1)).2.map (fun i => (V i).t) = zs ++ [(V k).t] := by simp [st, h1, hkeep, ← h2]
  refine ⟨k + 1, hk, by simp, by rw [e1], by rw [e2]; simp, hb.trans (hh.below hb.size (by omega)), ?_, by rw [e2]; exact hr2⟩
  rw [e1]
  exact hr1.of_block (hh.block _ hr1.lt (by omega))

set_option maxRecDepth 100000 in
set_option maxHeartbeats 4000000 in
theorem law7 (w : World) (a : Option Addr) (n c : Nat) (V : Nat → Ver) (a' : Option Addr) (m c' : Nat) (U : Nat → Nat) (fl : Nat) (dl : Int)
    (hv : VsOk w a n V) (hu : UsOk w a' m U) (hfl : fl < 18446744073709551616) :
    Calls Try.prog 3 #[.slice a n c, .slice a' m c', .int .u64 (fl : Int), .int .i64 dl] w fun e w' => e = .returned (.bool true) ∧ Below w.heap.size w w' := by
  have hm0 := hu.1
  have hn0 := hv.1
  have HV := hid hv
  have HU := hid hu
  clear hv hu
  go_enter Try.func3, Try.ntmps3
  go_wp2_with fail
  refine (zz5 _ _ _ _ V _ _ _ _ _ hm0 HV.out).mono ?_
  rintro e w1 ⟨⟨t, rfl⟩, hw1⟩; have hw1' := hw1.symm; subst hw1'; clear hw1
  cases t
  · go_wp2
    go_ret
    exact ⟨rfl, Below.refl _ _⟩
  go_wp2_with fail
  refine (size_any _ _ _ _ V _ _ _ hm0 HV.out).mono ?_
  rintro e w1 ⟨⟨t, rfl, ht⟩, hw1⟩; have hw1' := hw1.symm; subst hw1'; clear hw1
  cases t
  · clear ht
    go_wp2
    go_ret
    exact ⟨rfl, Below.refl _ _⟩
  obtain ⟨hn, hm⟩ := ht rfl
  clear ht
  go_wp2_with fail
  refine (chain_any _ _ _ _ V HV.out).mono ?_
  rintro e w1 ⟨⟨t, rfl, ht⟩, hb⟩
  have HB1 := hid hb
  have HV1 := hid (HV.out.later hb)
  have HU1 := hid (HU.out.later hb)
  clear hb
  cases t
  · clear ht
    go_wp2
    go_ret
    exact ⟨rfl, HB1.out⟩
  have HAsc := hid (ht rfl)
  clear ht
  go_wp2_with fail
  refine (open_any _ _ _ _ U HU1.out).mono ?_
  rintro e w2 ⟨⟨t, rfl, ht⟩, hb⟩
  have HB2 := hid (HB1.out.trans (hb.mono HB1.out.size))
  have HV2 := hid (HV1.out.later hb)
  have HU2 := hid (HU1.out.later hb)
  clear hb HB1 HV1 HU1 HV HU
  cases t
  · clear ht
    go_wp2
    go_ret
    exact ⟨rfl, HB2.out⟩
  have HAsc' := hid (ht rfl)
  clear ht
  have hmk := run_make_row' (P := Try.prog) 29 4 (.bool false) 1 Try.underlying29 info4 rfl .i64 .i64 n (by omega) (by omega)
  go_wp2
  clear hmk
  have H0 := hid (World.rowIs_made w2 (.bool false) n 4)
  have HS := hid (below_one w2 (.cells (madeCells #[.bool false] n) 4))
  go_loopw [11] (Rel1 w2 w2.heap.size n m (fun i => (V i).t) U) (fun j _ => m - (intOf j).toNat)
  case atStart => exact ⟨0, Nat.zero_le _, rfl, HS.out, H0.out.congr fun i hi => by simp [marks]⟩
  case round =>
    obtain ⟨k, hk, rfl, hb, hrow⟩ := hrel
    have HVr := hid (HV2.out.later hb)
    have HUr := hid (HU2.out.later hb)
    by_cases hlt : k < m
    · have hU := HUr.out
      obtain ⟨_, hU, _⟩ := hU
      rcases hU with h0 | ⟨b', o', ea', hcells⟩
      · omega
      subst ea'
      have f := hcells k hlt
      clear hcells
      have Hb := hid hb
      have Hrow := hid hrow
      clear hb hrow
      have hlt' : (k : Int) < (m : Int) := by omega
      have HN : Hid ((List.range (k + 1)).map U = (List.range k).map U ++ [U k]) := hid (by rw [List.range_succ]; simp)
      generalize U k = t at f HN
      go_wp2_with fail
      refine (read_at _ _ _ _ V t HVr.out HAsc.out).mono ?_
      rintro e w3 ⟨h3, hw3⟩; have hw3' := hw3.symm; subst hw3'; clear hw3
      rcases h3 with ⟨rfl, hz⟩ | ⟨r, hr, rfl, hz⟩
      · have HZ := hid hz
        clear hz
        go_wp2
        go_roundw
        case rel => exact ⟨k + 1, hlt, by go_num, Hb.out, by rw [HN.out]; exact marks_none Hrow.out HZ.out⟩
        case measure => simp [intOf]; omega
      · have HZ := hid hz
        have g0 := Hrow.out.cell hr
        have g1 := Hrow.out.frozen r
        clear hz
        go_wp2
        go_roundw
        case rel => exact ⟨k + 1, hlt, by go_num, Hb.out.setCell (Nat.le_refl _) _, by rw [HN.out]; exact marks_some Hrow.out HZ.out⟩
        case measure => simp [intOf]; omega
    · obtain rfl : m = k := by omega
      have Hb := hid hb
      have Hrow := hid hrow
      clear hb hrow
      go_upto_if 70 with (go_at_call 9; refine (read_at _ _ _ _ V fl HVr.out HAsc.out).mono ?_; rintro e w3 ⟨h3, hw3⟩; have hw3' := hw3.symm; subst hw3'; clear hw3; obtain ⟨z, rfl, hz⟩ := readZ_of h3; have HZ := hid hz; clear hz h3)
      go_cut [] from 71 to 73 (fun wx => Below w2.heap.size w2 wx ∧ wx.rowIs w2.heap.size 4 n fun i => .bool (marks n (fun i => (V i).t) ((List.range m).map U ++ [fl]) i))
      case first =>
        have hz := HZ.out
        rcases hz with ⟨rfl, hz⟩ | ⟨r, hr, rfl, hz⟩
        · clear HZ
          have HZ := hid hz
          clear hz
          go_wp2
          go_meet
          exact ⟨Hb.out, marks_none Hrow.out HZ.out⟩
        · clear HZ
          have HZ := hid hz
          have g0 := Hrow.out.cell hr
          have g1 := Hrow.out.frozen r
          clear hz
          go_wp2
          go_meet
          exact ⟨Hb.out.setCell (Nat.le_refl _) _, marks_some Hrow.out HZ.out⟩
      case rest =>
      obtain ⟨hbc, hrowc⟩ := hcut
      have Hbc := hid hbc
      have Hrowc := hid hrowc
      clear hbc hrowc HVr HUr Hb Hrow HZ H0 HS
      go_wp2
      go_loopw [14] (Rel2 w2 w2.heap.size n m (fun i => (V i).t) U fl) (fun j _ => n - (intOf j).toNat)
      case atStart => exact ⟨0, Nat.zero_le _, rfl, Hbc.out, Hrowc.out.congr fun i hi => by simp⟩
      case round =>
        obtain ⟨k, hk, rfl, hb, hrow⟩ := hrel
        have HVr := hid (HV2.out.later hb)
        by_cases hlt : k < n
        · have hV := HVr.out
          obtain ⟨_, hV, _⟩ := hV
          rcases hV with h0 | ⟨b, o, ea, hcells⟩
          · omega
          subst ea
          obtain ⟨_, f⟩ := hcells k hlt
          clear hcells
          have Hb := hid hb
          have Hrow := hid hrow
          clear hb hrow Hbc Hrowc
          have hlt' : (k : Int) < (n : Int) := by omega
          by_cases hge : fl ≤ (V k).t
          · have HN : Hid (((List.range (k + 1)).filter fun k => decide (fl ≤ (V k).t)).map (fun i => (V i).t) = ((List.range k).filter fun k => decide (fl ≤ (V k).t)).map (fun i => (V i).t) ++ [(V k).t]) := hid (by rw [List.range_succ]; simp [List.filter_append, hge])
            generalize (V k).t = t at f HN hge
            have hge' : (fl : Int) ≤ (t : Int) := by omega
            go_wp2_with fail
            refine (read_at _ _ _ _ V t HVr.out HAsc.out).mono ?_
            rintro e w3 ⟨h3, hw3⟩; have hw3' := hw3.symm; subst hw3'; clear hw3
            rcases h3 with ⟨rfl, hz⟩ | ⟨r, hr, rfl, hz⟩
            · have HZ := hid hz
              clear hz
              go_wp2
              go_roundw
              case rel => exact ⟨k + 1, hlt, by go_num, Hb.out, by simp only []; rw [HN.out, ← List.append_assoc]; exact marks_none Hrow.out HZ.out⟩
              case measure => simp [intOf]; omega
            · have HZ := hid hz
              have g0 := Hrow.out.cell hr
              have g1 := Hrow.out.frozen r
              clear hz
              go_wp2
              go_roundw
              case rel => exact ⟨k + 1, hlt, by go_num, Hb.out.setCell (Nat.le_refl _) _, by simp only []; rw [HN.out, ← List.append_assoc]; exact marks_some Hrow.out HZ.out⟩
              case measure => simp [intOf]; omega
          · have HN : Hid (((List.range (k + 1)).filter fun k => decide (fl ≤ (V k).t)).map (fun i => (V i).t) = ((List.range k).filter fun k => decide (fl ≤ (V k).t)).map (fun i => (V i).t)) := hid (by rw [List.range_succ]; simp [List.filter_append, hge])
            generalize (V k).t = t at f HN hge
            have hge' : (t : Int) < (fl : Int) := by omega
            go_wp2
            go_roundw
            case rel => exact ⟨k + 1, hlt, by go_num, Hb.out, by simp only []; rw [HN.out]; exact Hrow.out⟩
            case measure => simp [intOf]; omega
        · obtain rfl : n = k := by omega
          have Hb := hid hb
          have Hrow := hid hrow
          clear hb hrow Hbc Hrowc
          go_upto_if 101 with (go_at_call 9; refine (read_at _ _ _ _ V 18446744073709551615 HVr.out HAsc.out).mono ?_; rintro e w3 ⟨h3, hw3⟩; have hw3' := hw3.symm; subst hw3'; clear hw3; obtain ⟨z', rfl, hz⟩ := readZ_of h3; have HZ := hid hz; clear hz h3)
          go_cut [] from 102 to 104 (fun wx => Below w2.heap.size w2 wx ∧ wx.rowIs w2.heap.size 4 n fun i => .bool (k1 n m (fun i => (V i).t) U fl i))
          case first =>
            have HM := hid (fun i hi => marks_all n m (fun i => (V i).t) U fl HAsc.out HV2.out.2.2.2 i hi)
            have hz := HZ.out
            rcases hz with ⟨rfl, hz⟩ | ⟨r, hr, rfl, hz⟩
            · clear HZ
              have HZ := hid hz
              clear hz
              go_wp2
              go_meet
              exact ⟨Hb.out, (marks_none Hrow.out HZ.out).congr fun i hi => by rw [HM.out i hi]⟩
            · clear HZ
              have HZ := hid hz
              have g0 := Hrow.out.cell hr
              have g1 := Hrow.out.frozen r
              clear hz
              go_wp2
              go_meet
              exact ⟨Hb.out.setCell (Nat.le_refl _) _, (marks_some Hrow.out HZ.out).congr fun i hi => by rw [HM.out i hi]⟩
          case rest =>
          obtain ⟨hbc, hrowc⟩ := hcut
          have Hbc := hid hbc
          have Hrowc := hid hrowc
          clear hbc hrowc HVr Hb Hrow HZ
          have hmk1 := make_room 34 3 .i64 Try.underlying34 info3 n (by omega)
          have hmk2 := make_room 23 24 .u64 Try.underlying23 info24 n (by omega)
          go_wp2
          clear hmk1 hmk2
          obtain ⟨keep, HK⟩ : ∃ keep, Hid (keep = keepOf (k1 n m (fun i => (V i).t) U fl) (fun i => (V i).a.isNone) (decide (dl = 0))) := ⟨_, hid rfl⟩
          go_loopw [17, 18, 19] (Rel3 wc n V keep) (fun _ _ j _ => n - (intOf j).toNat)
          case atStart => exact rel3_start wc n V keep
          case round =>
            obtain ⟨k, hk, rfl, hkv, hdv, hb, hr1, hr2⟩ := hrel
            have HVr := hid ((HV2.out.later Hbc.out).later hb)
            by_cases hlt : k < n
            · have hV := HVr.out
              obtain ⟨_, hV, _⟩ := hV
              rcases hV with h0 | ⟨b, o, ea, hcells⟩
              · omega
              subst ea
              obtain ⟨f0, f1⟩ := hcells k hlt
              clear hcells
              have hlen := st_len keep k
              obtain ⟨ks, H1⟩ : ∃ ks, Hid ((st keep k).1 = ks) := ⟨_, hid rfl⟩
              obtain ⟨zs, H2⟩ : ∃ zs, Hid (((st keep k).2.map fun i => (V i).t) = zs) := ⟨_, hid rfl⟩
              have hlen2 : (st keep k).2.length = zs.length := by rw [← H2.out]; simp
              rw [H1.out] at hlen hkv hr1
              rw [H2.out] at hdv hr2
              rw [hlen2] at hlen
              subst hkv
              subst hdv
              have Hq1 : Hid (ks.length < n) := hid (by omega)
              have Hq2 : Hid (zs.length < n) := hid (by omega)
              have s0 := (Hrowc.out.of_block (hb.block _ Hrowc.out.lt)).cell hlt
              have hKf : ∀ b em, k1 n m (fun i => (V i).t) U fl k = b → keep k em = (b && !(em && (V k).a.isNone && decide (dl = 0))) := by
                intro b em hb; rw [HK.out]; simp only [keepOf, hb]
              generalize k1 n m (fun i => (V i).t) U fl k = kb at s0 hKf
              have HT : Hid (∀ t, (V k).t = t → ∀ w' : World, w'.rowIs (wc.heap.size + 1) 24 n (rowN .u64 (zs ++ [t])) → w'.rowIs (wc.heap.size + 1) 24 n (rowN .u64 (zs ++ [(V k).t]))) := hid (by rintro t rfl w' h; exact h)
              generalize et : (V k).t = tv at f1
              have HT2 := hid (HT.out tv et)
              clear et HT
              generalize (V k).a = va at f0 hKf
              generalize (V k).l = vl at f0
              generalize (V k).c = vc at f0
              have hem : ks.length ≠ 0 → ks.isEmpty = false := by intro h2; cases ks with
                | nil => exact absurd rfl h2
                | cons => rfl
              have Hb := hid hb
              have Hr1 := hid hr1
              have Hr2 := hid hr2
              have Hlen := hid hlen
              have hlt' : (k : Int) < (n : Int) := by omega
              have KD : Hid (keep k ks.isEmpty = (kb && !(ks.isEmpty && va.isNone && decide (dl = 0)))) := hid (hKf kb _ rfl)
              have HEM := hid hem
              clear hb hr1 hr2 hlen hlen2 hKf hem
              cases kb with
              | false =>
                have K2 : Hid (keep k ks.isEmpty = false) := hid (by rw [KD.out]; rfl)
                clear KD HEM
                go_wp2_with (at_builtin; refine wpList_fit rfl (.tmp 141) (.tmp 147) 23 24 .u64 Try.underlying23 info24 rfl (wc.heap.size + 1) n zs tv rfl _ rfl (by simp) Hr2.out Hq2.out ?_; intro w3 hr3 hh3; have Hr3 := hid hr3; have Hh3 := hid hh3; clear hr3 hh3)
                go_roundw
                case rel => exact rel3_drop hlt H1.out H2.out K2.out Hb.out Hr1.out (HT2.out _ Hr3.out) Hh3.out
                case measure => simp [intOf]; omega
              | true =>
                by_cases hks : ks.length = 0
                · obtain rfl : ks = [] := List.eq_nil_of_length_eq_zero hks
                  clear HEM hks
                  cases va with
                  | none =>
                    by_cases hdl : dl = 0
                    · subst hdl
                      have K2 : Hid (keep k ([] : List Nat).isEmpty = false) := hid (by rw [KD.out]; rfl)
                      clear KD
                      go_wp2_with (at_builtin; refine wpList_fit rfl (.tmp 141) (.tmp 147) 23 24 .u64 Try.underlying23 info24 rfl (wc.heap.size + 1) n zs tv rfl _ rfl (by simp) Hr2.out Hq2.out ?_; intro w3 hr3 hh3; have Hr3 := hid hr3; have Hh3 := hid hh3; clear hr3 hh3)
                      go_roundw
                      case rel => exact rel3_drop hlt H1.out H2.out K2.out Hb.out Hr1.out (HT2.out _ Hr3.out) Hh3.out
                      case measure => simp [intOf]; omega
                    · have K2 : Hid (keep k ([] : List Nat).isEmpty = true) := hid (by rw [KD.out]; simp [hdl])
                      have hdl' : (dl == 0) = false := by simpa using hdl
                      clear KD
                      go_wp2_with (at_builtin; refine wpList_fit rfl (.tmp 137) (.tmp 139) 34 3 .i64 Try.underlying34 info3 rfl wc.heap.size n [] k rfl _ rfl (by simp) Hr1.out Hq1.out ?_; intro w3 hr3 hh3; have Hr3 := hid hr3; have Hh3 := hid hh3; clear hr3 hh3)
                      go_roundw
                      case rel => exact rel3_keep hlt H1.out H2.out K2.out Hb.out Hr2.out Hr3.out Hh3.out
                      case measure => simp [intOf]; omega
                  | some vx =>
                    have K2 : Hid (keep k ([] : List Nat).isEmpty = true) := hid (by rw [KD.out]; rfl)
                    clear KD
                    go_wp2_with (at_builtin; refine wpList_fit rfl (.tmp 137) (.tmp 139) 34 3 .i64 Try.underlying34 info3 rfl wc.heap.size n [] k rfl _ rfl (by simp) Hr1.out Hq1.out ?_; intro w3 hr3 hh3; have Hr3 := hid hr3; have Hh3 := hid hh3; clear hr3 hh3)
                    go_roundw
                    case rel => exact rel3_keep hlt H1.out H2.out K2.out Hb.out Hr2.out Hr3.out Hh3.out
                    case measure => simp [intOf]; omega
                · have K2 : Hid (keep k ks.isEmpty = true) := hid (by rw [KD.out, HEM.out hks]; rfl)
                  have hks' : (0 : Int) < (ks.length : Int) := by omega
                  clear KD HEM
                  go_wp2_with (at_builtin; refine wpList_fit rfl (.tmp 137) (.tmp 139) 34 3 .i64 Try.underlying34 info3 rfl wc.heap.size n ks k rfl _ rfl (by simp) Hr1.out Hq1.out ?_; intro w3 hr3 hh3; have Hr3 := hid hr3; have Hh3 := hid hh3; clear hr3 hh3)
                  go_roundw
                  case rel => exact rel3_keep hlt H1.out H2.out K2.out Hb.out Hr2.out Hr3.out Hh3.out
                  case measure => simp [intOf]; omega
            · obtain rfl : n = k := by omega
              have hlen := st_len keep n
              have HKS := hid (st_getD keep n)
              obtain ⟨ks, H1⟩ : ∃ ks, Hid ((st keep n).1 = ks) := ⟨_, hid rfl⟩
              obtain ⟨zs, H2⟩ : ∃ zs, Hid (((st keep n).2.map fun i => (V i).t) = zs) := ⟨_, hid rfl⟩
              have hlen2 : (st keep n).2.length = zs.length := by rw [← H2.out]; simp
              rw [hlen2] at hlen
              clear hlen2
              rw [H1.out] at hkv hr1 hlen HKS
              rw [H2.out] at hdv hr2
              subst hkv
              subst hdv
              have Hb := hid hb
              have Hr1 := hid hr1
              have Hr2 := hid hr2
              have Hlen := hid hlen
              have HUr := hid ((HU2.out.later Hbc.out).later hb)
              have HBw := hid ((HB2.out.trans ((Hbc.out.mono HB2.out.size))).trans (hb.mono (Nat.le_trans HB2.out.size Hbc.out.size)))
              clear hb hr1 hr2 hlen
              clear HV2 HU2 HB2 Hrowc
              go_wp2_with fail
              refine (build_any _ _ _ _ V hn HVr.out).mono ?_
              rintro e w4 ⟨⟨ac, rfl, hc4⟩, hb4⟩
              have Hb4 := hid hb4
              have HC4 := hid hc4
              clear hb4 hc4
              go_wp2_with fail
              refine (openb_any _ _ _ _ U hm (HUr.out.later Hb4.out)).mono ?_
              rintro e w5 ⟨⟨ao, rfl, hu5, hx5⟩, hb5⟩
              have HC5 : Hid (ChainAt w5 wr.heap.size ac n V) := hid (by
                rcases HC4.out with h0 | ⟨B, hB, e, hr⟩
                · exact .inl h0
                · exact .inr ⟨B, hB, e, hr.of_block (hb5.block B hr.lt)⟩)
              have HX5 : Hid (n = 0 ∨ ∀ x y, ao = some x → ac = some y → x.block ≠ y.block) := hid (by
                rcases HC4.out with h0 | ⟨B, hB, e, hr⟩
                · exact .inl h0
                · refine .inr fun x y e1 e2 => ?_
                  rw [e] at e2
                  cases e2
                  have := hx5 x e1
                  have := hr.lt
                  simp only; omega)
              have Hb5 := hid (Hb4.out.trans (hb5.mono Hb4.out.size))
              have HU5 := hid hu5
              clear hu5 hx5 hb5
              go_wp2_with fail
              refine (prune_any _ _ _ _ V _ _ _ U fl dl hn hm HC5.out HU5.out HX5.out HAsc'.out keep HK.out).mono ?_
              rintro e w6 ⟨ak, dv, he, hown6, h6⟩
              rw [H1.out] at he h6
              rw [H2.out] at hown6
              subst he
              have Hb6 : Hid (Below wr.heap.size wr w6) := hid (by
                rcases h6 with ⟨_, rfl⟩ | ⟨B, h0, e, _, _, hh⟩
                · exact Hb5.out
                · refine Hb5.out.trans (hh.below Hb5.out.size ?_)
                  rcases HC5.out with h0' | ⟨B', hB', e', hr'⟩
                  · omega
                  · rw [e'] at e; cases e; exact hB')
              have HC6 : Hid (0 < n → ∃ B, ac = some ⟨B, 0, none⟩ ∧ ak = some ⟨B, 0, none⟩ ∧ w6.rowIs B 46 (n * 2) (cellV fun i => if i < ks.length then V (ks.getD i 0) else zeroVer)) := hid (by
                intro hp
                rcases h6 with ⟨h0, _⟩ | ⟨B, h0, e1, e2, hr, hh⟩
                · omega
                · exact ⟨B, e1, e2, hr⟩)
              obtain ⟨ad, cd, rfl, hld, hrd, hbd⟩ := hown6.shape
              have HRD := hid hrd
              have HV6 := hid (HVr.out.later Hb6.out)
              have Hr16 := hid (Hr1.out.of_block (Hb6.out.block _ Hr1.out.lt))
              have Hr26 := hid (Hr2.out.of_block (Hb6.out.block _ Hr2.out.lt))
              have HB6 := hid (HBw.out.trans (Hb6.out.mono HBw.out.size))
              clear hown6 h6 hrd hbd Hb5 HU5 HX5 HC5 HC4 Hb4 HUr HBw Hr1 Hr2 HVr Hb HK H1 H2 Hbc
              go_wp2
              go_loopw [24] (fun j wq => ∃ k : Nat, k ≤ ks.length ∧ j = .int .i64 (k : Int) ∧ Below w6.heap.size w6 wq) (fun j _ => ks.length - (intOf j).toNat)
              case atStart => exact ⟨0, Nat.zero_le _, rfl, Below.refl _ _⟩
              case round =>
                obtain ⟨k, hk, rfl, hb⟩ := hrel
                by_cases hlt : k < ks.length
                · have hl := Hlen.out
                  obtain ⟨B, eac, eak, hrB⟩ := HC6.out (by omega)
                  have hx := HKS.out k hlt
                  have hV := HV6.out.later hb
                  obtain ⟨_, hV, hby, _⟩ := hV
                  rcases hV with h0 | ⟨b, o, ea, hcells⟩
                  · omega
                  subst ea eac eak
                  have p0 := (hrB.of_block (hb.block _ hrB.lt)).cell (i := k * 2) (by omega)
                  have p1 := (hrB.of_block (hb.block _ hrB.lt)).cell (i := k * 2 + 1) (by omega)
                  rw [cellV_even, if_pos hlt] at p0
                  rw [cellV_odd, if_pos hlt] at p1
                  have q0 := (Hr16.out.of_block (hb.block _ Hr16.out.lt)).cell (i := k) (by omega)
                  unfold rowN at q0
                  obtain ⟨x, hxe⟩ : ∃ x, ks.getD k 0 = x := ⟨_, rfl⟩
                  rw [hxe] at p0 p1 q0 hx
                  clear hxe
                  obtain ⟨r0, r1⟩ := hcells x hx
                  have hbx := hby x hx
                  clear hcells hby hrB hl
                  generalize (V x).a = va at p0 r0 hbx
                  generalize (V x).l = vl at p0 r0 hbx
                  generalize (V x).c = vc at p0 r0
                  generalize (V x).t = vt at p1 r1
                  have Hb := hid hb
                  have HBx := hid hbx
                  clear hb hbx
                  have hlt' : (k : Int) < (ks.length : Int) := by omega
                  have hkn' : (k : Int) < (n : Int) := by have := Hlen.out; omega
                  have hxn' : (x : Int) < (n : Int) := by omega
                  go_wp2
                  have HBd := hid (HBx.out.later (Below.refl wr.heap.size wr).drew)
                  have Hbd := hid Hb.out.drew
                  go_region_held3 (fun w' => w'.cell? ⟨B, k * 2, none⟩ = some (.slice va vl vc) ∧ w'.cell? ⟨B, k * 2 + 1, none⟩ = some (.int .u64 (vt : Int)) ∧ w'.cell? ⟨wc.heap.size, k, none⟩ = some (.int .i64 (x : Int)) ∧ w'.cell? ⟨b, o + x * 2, none⟩ = some (.slice va vl vc) ∧ w'.cell? ⟨b, o + x * 2 + 1, none⟩ = some (.int .u64 (vt : Int)))
                    (first | exact ⟨p0, p1, q0, r0, r1⟩ | exact ⟨p0', p1', q0', r0', r1'⟩ | exact ⟨p0'', p1'', q0'', r0'', r1''⟩)
                    (first
                      | (go_at_call 13; refine (samev_any _ _ _ _ _ HBd.out).mono ?_; rintro e w7 ⟨rfl, hb7⟩; have p0' := below_cell hb7 p0; have p1' := below_cell hb7 p1; have q0' := below_cell hb7 q0; have r0' := below_cell hb7 r0; have r1' := below_cell hb7 r1; have HBx' := hid (HBd.out.later hb7); have Hb' := hid (Hbd.out.trans (hb7.mono Hb.out.size)); clear hb7)
                      | (go_at_call 13; refine (samev_any _ _ _ _ _ HBx'.out).mono ?_; rintro e w8 ⟨rfl, hb8⟩; have p0'' := below_cell hb8 p0'; have p1'' := below_cell hb8 p1'; have q0'' := below_cell hb8 q0'; have r0'' := below_cell hb8 r0'; have r1'' := below_cell hb8 r1'; have Hb'' := hid (Hb'.out.trans (hb8.mono Hb'.out.size)); clear hb8))
                  go_wp2
                  go_roundw
                  case rel => exact ⟨k + 1, hlt, by go_num, Hb''.out⟩
                  case measure => simp [intOf]; omega
                · obtain rfl : ks.length = k := by omega
                  have Hb := hid hb
                  clear hb
                  go_wp2
                  go_loopw [25] (fun j wq => ∃ k : Nat, ks.length ≤ k ∧ k ≤ n ∧ j = .int .i64 (k : Int) ∧ Below w6.heap.size w6 wq) (fun j _ => n - (intOf j).toNat)
                  case atStart => exact ⟨ks.length, Nat.le_refl _, by have := Hlen.out; omega, rfl, Hb.out⟩
                  case round =>
                    obtain ⟨k, hkk, hk, rfl, hb⟩ := hrel
                    by_cases hlt : k < n
                    · obtain ⟨B, eac, eak, hrB⟩ := HC6.out (by omega)
                      subst eac eak
                      have p0 := (hrB.of_block (hb.block _ hrB.lt)).cell (i := k * 2) (by omega)
                      have p1 := (hrB.of_block (hb.block _ hrB.lt)).cell (i := k * 2 + 1) (by omega)
                      rw [cellV_even, if_neg (by omega)] at p0
                      rw [cellV_odd, if_neg (by omega)] at p1
                      simp only [zeroVer] at p0 p1
                      clear hrB HC6
                      have Hb' := hid hb
                      clear hb
                      have hlt' : (k : Int) < (n : Int) := by omega
                      go_wp2
                      go_roundw
                      case rel => exact ⟨k + 1, by omega, hlt, by go_num, Hb'.out⟩
                      case measure => simp [intOf]; omega
                    · obtain rfl : n = k := by omega
                      have Hb' := hid hb
                      clear hb
                      go_wp2
                      go_loopw [26] (fun j wq => ∃ k : Nat, k ≤ zs.length ∧ j = .int .i64 (k : Int) ∧ Below w6.heap.size w6 wq) (fun j _ => zs.length - (intOf j).toNat)
                      case atStart => exact ⟨0, Nat.zero_le _, rfl, Hb'.out⟩
                      case round =>
                        obtain ⟨k, hk, rfl, hb⟩ := hrel
                        by_cases hlt : k < zs.length
                        · have hl := Hlen.out
                          have hR := HRD.out
                          rcases hR with h0 | ⟨bd, od, ead, hcells⟩
                          · omega
                          subst ead
                          have p0 := below_cell hb (hcells k hlt)
                          have q0 := (Hr26.out.of_block (hb.block _ Hr26.out.lt)).cell (i := k) (by omega)
                          unfold rowN at q0
                          simp only [] at p0
                          generalize zs.getD k 0 = z0 at p0 q0
                          clear hcells hl HC6
                          have Hb'' := hid hb
                          clear hb
                          have hlt' : (k : Int) < (zs.length : Int) := by omega
                          go_wp2
                          go_quiet (fail)
                          go_wp2
                          go_roundw
                          case rel => exact ⟨k + 1, hlt, by go_num, below_drewN Hb''.out _⟩
                          case measure => simp [intOf]; omega
                        · have Hb'' := hid hb
                          clear hb
                          go_wp2
                          go_ret
                          exact ⟨rfl, HB6.out.trans (Hb''.out.mono HB6.out.size)⟩
end Go.Proofs.Qxb6632328a
