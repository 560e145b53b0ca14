import Derived.Test.Qxb6632328aUse
import Derived.Deep.RegionHeld3
namespace Go.Proofs.Qxb6632328a
open Go.RowKit
set_option linter.unusedVariables false
set_option linter.unusedSimpArgs false
attribute [local go_sem] q22 q23 q31 q44 q44n

theorem wrap_small (x : Int) (h0 : 0 ≤ x) (h1 : x ≤ 1000000) : IntKind.i64.wrap x = x := by
  have hb : IntKind.bits .i64 = 64 := rfl
  have hs : IntKind.signed .i64 = true := rfl
  have hm : x % (2 ^ 64 : Int) = x := Int.emod_eq_of_lt h0 (by omega)
  simp only [IntKind.wrap, hb, hs, hm]
  rw [if_neg]
  simp
  omega
set_option maxRecDepth 100000 in
set_option maxHeartbeats 4000000 in
theorem law8 (w : World) (a : Option Addr) (n c : Nat) (V : Nat → Ver) (a' : Option Addr) (m c' : Nat) (U : Nat → Nat) (fl : Nat)
    (hv : VsOk w a n V) (hu : UsOk w a' m U) :
    Calls Try.prog 4 #[.slice a n c, .slice a' m c', .int .u64 (fl : Int)] w fun e w' => e = .returned (.bool true) ∧ Below w.heap.size w w' := by
  have hm0 := hu.1
  have hn0 := hv.1
  have HV := hid hv
  have HU := hid hu
  clear hv hu
  go_enter Try.func4, Try.ntmps4
  go_wp2_with fail
  refine (zz14 _ _ _ _ V _ _ _ _ hm0 HV.out).mono ?_
  rintro e w1 ⟨⟨t, rfl⟩, hw1⟩; have hw1' := hw1.symm; subst hw1'; clear hw1
  cases t
  · go_wp2
    go_ret
    exact ⟨rfl, Below.refl _ _⟩
  go_wp2_with fail
  refine (size_any _ _ _ _ V _ _ _ hm0 HV.out).mono ?_
  rintro e w1 ⟨⟨t, rfl, ht⟩, hw1⟩; have hw1' := hw1.symm; subst hw1'; clear hw1
  cases t
  · clear ht
    go_wp2
    go_ret
    exact ⟨rfl, Below.refl _ _⟩
  obtain ⟨hn, hm⟩ := ht rfl
  clear ht
  go_wp2_with fail
  refine (chain_any _ _ _ _ V HV.out).mono ?_
  rintro e w1 ⟨⟨t, rfl, ht⟩, hb⟩
  have HB1 := hid hb
  have HV1 := hid (HV.out.later hb)
  have HU1 := hid (HU.out.later hb)
  clear hb
  cases t
  · clear ht
    go_wp2
    go_ret
    exact ⟨rfl, HB1.out⟩
  have HAsc := hid (ht rfl)
  clear ht
  go_wp2_with fail
  refine (open_any _ _ _ _ U HU1.out).mono ?_
  rintro e w2 ⟨⟨t, rfl, ht⟩, hb⟩
  have HB2 := hid (HB1.out.trans (hb.mono HB1.out.size))
  have HV2 := hid (HV1.out.later hb)
  have HU2 := hid (HU1.out.later hb)
  clear hb HB1 HV1 HU1 HV HU
  cases t
  · clear ht
    go_wp2
    go_ret
    exact ⟨rfl, HB2.out⟩
  have HAsc' := hid (ht rfl)
  clear ht
  have hp8 := plain8 n m (fun i => (V i).t) U fl (fun i => (V i).a.isNone) HAsc.out
  obtain ⟨KK, zK, KD, zD, L, ⟨hK1, hK2⟩, ⟨hD1, hD2⟩, hsum, hmer, hKn, ⟨hL1, hL2, hL3⟩, ⟨hKD1, hKD2⟩, hmer2, hst3⟩ := hp8
  have HK1 := hid hK1; have HK2 := hid hK2; have HD1 := hid hD1; have HD2 := hid hD2; have Hsum := hid hsum; have Hmer := hid hmer; have HKn := hid hKn; have HL1 := hid hL1; have HL2 := hid hL2; have HL3 := hid hL3; have HKD1 := hid hKD1; have HKD2 := hid hKD2; have Hmer2 := hid hmer2; have Hst3 := hid hst3
  clear hK1 hK2 hD1 hD2 hsum hmer hKn hL1 hL2 hL3 hKD1 hKD2 hmer2 hst3
  have HTb := hid HV2.out.2.2.2
  -- openT
  go_wp2_with fail
  refine (openc_any _ _ _ _ U hm HU2.out).mono ?_
  rintro e w3 ⟨⟨ao, rfl, hu3, hx3⟩, hb3⟩
  have HB3 := hid (HB2.out.trans (hb3.mono HB2.out.size))
  have HV3 := hid (HV2.out.later hb3)
  have HU3 := hid hu3
  have HX3 := hid hx3
  clear hb3 hu3 hx3 HB2 HV2 HU2
  -- the first chain
  go_wp2_with fail
  refine (build_any _ _ _ _ V hn HV3.out).mono ?_
  rintro e w4 ⟨⟨ac1, rfl, hc4⟩, hb4⟩
  have Hb4 := hid hb4
  have HC4 := hid hc4
  clear hb4 hc4
  go_wp2_with fail
  refine (prune_use w4 w3.heap.size ac1 n V ao m _ U fl 1 hn hm HC4.out Hb4.out.size (HU3.out.later Hb4.out) HX3.out HAsc'.out (fun w'' hb'' => (HV3.out.later (Hb4.out.trans hb'')).2.2.1) HTb.out _ rfl KK zK HK1.out HK2.out).mono ?_
  rintro e w5 ⟨ak1, ad1, cd1, rfl, hvk, hdk, hb5⟩
  have Hb5 := hid (Hb4.out.trans hb5)
  have HVK5 := hid hvk
  have HDK5 := hid hdk
  have HV5 := hid (HV3.out.later Hb5.out)
  have HU5 := hid (HU3.out.later Hb5.out)
  have HX5 : Hid (∀ x, ao = some x → x.block < w5.heap.size) := hid fun x e => Nat.lt_of_lt_of_le (HX3.out x e) Hb5.out.size
  have HB5 := hid (HB3.out.trans (Hb5.out.mono HB3.out.size))
  clear hvk hdk hb5 HC4 Hb4 Hb5 HV3 HU3 HX3 HB3 HK1 HK2
  -- the second chain
  go_wp2_with fail
  refine (build_any _ _ _ _ V hn HV5.out).mono ?_
  rintro e w6 ⟨⟨ac2, rfl, hc6⟩, hb6⟩
  have Hb6 := hid hb6
  have HC6 := hid hc6
  clear hb6 hc6
  go_wp2_with fail
  refine (prune_use w6 w5.heap.size ac2 n V ao m _ U fl 0 hn hm HC6.out Hb6.out.size (HU5.out.later Hb6.out) HX5.out HAsc'.out (fun w'' hb'' => (HV5.out.later (Hb6.out.trans hb'')).2.2.1) HTb.out _ rfl KD zD HD1.out HD2.out).mono ?_
  rintro e w7 ⟨ak2, ad2, cd2, rfl, hvk, hdk, hb7⟩
  have Hb7 := hid (Hb6.out.trans hb7)
  have HVD7 := hid hvk
  have HDD7 := hid hdk
  have HVK7 := hid (HVK5.out.later Hb7.out)
  have HDK7 := hid (HDK5.out.later Hb7.out)
  have HV7 := hid (HV5.out.later Hb7.out)
  have HU7 := hid (HU5.out.later Hb7.out)
  have HX7 : Hid (∀ x, ao = some x → x.block < w7.heap.size) := hid fun x e => Nat.lt_of_lt_of_le (HX5.out x e) Hb7.out.size
  have HB7 := hid (HB5.out.trans (Hb7.out.mono HB5.out.size))
  clear hvk hdk hb7 HC6 Hb6 Hb7 HV5 HU5 HX5 HB5 HD1 HD2 HVK5 HDK5
  -- the stamps
  have hKl : KK.length ≤ 32768 := by have := Hsum.out; omega
  have hzl : zK.length ≤ 32768 := by have := Hsum.out; omega
  go_wp2_with fail
  refine (kst_any _ _ _ _ _ hKl HVK7.out).mono ?_
  rintro e w8 ⟨⟨G1, hG1, rfl, hr8⟩, hb8⟩
  have Hb8 := hid hb8
  have Hr8 := hid hr8
  clear hb8 hr8 hG1
  go_wp2_with fail
  refine (dst_any _ _ _ _ _ hzl (HDK7.out.later Hb8.out)).mono ?_
  rintro e w9 ⟨⟨G2, hG2, rfl, hr9⟩, hb9⟩
  have Hb9 := hid (Hb8.out.trans (hb9.mono Hb8.out.size))
  have HU1a := hid (row_usok (Hr8.out.of_block (hb9.block _ Hr8.out.lt)) (by omega) (HVK7.out.2.2.2))
  have HU2a := hid (row_usok hr9 (by omega) (HDK7.out.2.2))
  clear hb9 hr9 hG2 Hb8 Hr8
  go_wp2_with fail
  refine (merge_any _ _ _ _ _ _ _ _ _ (by omega) (by omega) HU1a.out HU2a.out).mono ?_
  rintro e w10 ⟨⟨G3, hG3, he, hr10⟩, hb10⟩
  rw [Hsum.out] at he hr10
  subst he
  have Hr10 : Hid (w10.rowIs G3 24 n fun i => .int .u64 ((V i).t : Int)) := hid (by
    refine hr10.congr fun i hi => ?_
    have e1 := lst_map KK (fun i => (V i).t)
    have e2 := lst_self zK
    rw [e1, e2, Hmer.out]
    simp [rowN, List.getD, hi])
  have Hb10 := hid (Hb9.out.trans (hb10.mono Hb9.out.size))
  have HU1 := hid (HU1a.out.later hb10)
  have HU2 := hid (HU2a.out.later hb10)
  have HV10 := hid (HV7.out.later Hb10.out)
  have HUo := hid (HU7.out.later Hb10.out)
  have HVK := hid (HVK7.out.later Hb10.out)
  have HVD := hid (HVD7.out.later Hb10.out)
  have HDD := hid (HDD7.out.later Hb10.out)
  have HXo : Hid (∀ x, ao = some x → x.block < w10.heap.size) := hid fun x e => Nat.lt_of_lt_of_le (HX7.out x e) Hb10.out.size
  have HB10 := hid (HB7.out.trans (Hb10.out.mono HB7.out.size))
  clear hr10 hb10 hG3 Hb9 Hb10 HU1a HU2a HV7 HU7 HVK7 HDK7 HVD7 HDD7 HX7 HB7 Hmer
  go_wp2
  go_loopw [15] (fun j wq => ∃ k : Nat, k ≤ n ∧ j = .int .i64 (k : Int) ∧ Below w10.heap.size w10 wq) (fun j _ => n - (intOf j).toNat)
  case atStart => exact ⟨0, Nat.zero_le _, rfl, Below.refl _ _⟩
  case round =>
    obtain ⟨k, hk, rfl, hb⟩ := hrel
    by_cases hlt : k < n
    · have hV := HV10.out.later hb
      obtain ⟨_, hV, _, _⟩ := hV
      rcases hV with h0 | ⟨b, o, ea, hcells⟩
      · omega
      subst ea
      obtain ⟨_, p0⟩ := hcells k hlt
      have q0 := (Hr10.out.of_block (hb.block _ Hr10.out.lt)).cell (i := k) hlt
      try dsimp only at q0
      clear hcells
      generalize (V k).t = vt at p0 q0
      have Hb := hid hb
      clear hb
      have hlt' : (k : Int) < (n : Int) := by omega
      go_wp2
      go_quiet (fail)
      go_wp2
      go_roundw
      case rel => exact ⟨k + 1, hlt, by go_num, below_drewN Hb.out _⟩
      case measure => simp [intOf]; omega
    · have Hb1 := hid hb
      clear hb
      go_wp2
      go_loopw [16] (fun j wq => ∃ k : Nat, k ≤ KK.length ∧ j = .int .i64 (k : Int) ∧ Below w10.heap.size w10 wq) (fun j _ => KK.length - (intOf j).toNat)
      case atStart => exact ⟨0, Nat.zero_le _, rfl, Hb1.out⟩
      case round =>
        obtain ⟨k, hk, rfl, hb⟩ := hrel
        by_cases hlt : k < KK.length
        · have hx := HKn.out k hlt
          have HVr := hid (HV10.out.later hb)
          have hV := HVr.out
          obtain ⟨_, hV, hby, _⟩ := hV
          have hV1 := HVK.out.later hb
          obtain ⟨_, hV1, _, _⟩ := hV1
          rcases hV with h0 | ⟨b, o, ea, hcells⟩
          · omega
          rcases hV1 with h0 | ⟨b1, o1, ea1, hcells1⟩
          · omega
          subst ea ea1
          obtain ⟨p0, p1⟩ := hcells1 k hlt
          try dsimp only at p0 p1
          obtain ⟨x, hxe⟩ : ∃ x, KK.getD k 0 = x := ⟨_, rfl⟩
          rw [hxe] at p0 p1 hx
          clear hxe
          obtain ⟨r0, r1⟩ := hcells x hx
          have hbx := hby x hx
          clear hcells hcells1 hby
          have HRS : Hid (∀ vt e, (V x).t = vt → ReadAt n (fun i => (V i).t) vt e → e = .returned (.int .i64 (x : Int))) := hid (by rintro vt e rfl h; exact read_self HAsc.out hx h)
          generalize (V x).a = va at p0 r0 hbx
          generalize (V x).l = vl at p0 r0 hbx
          generalize (V x).c = vc at p0 r0
          generalize hvt : (V x).t = vt at p1 r1
          have HRS2 := hid (fun e => HRS.out vt e hvt)
          have Hb := hid hb
          have HBd := hid (hbx.later (Below.refl wr.heap.size wr).drew)
          have Hbd := hid hb.drew
          clear hb hbx HRS hvt
          have hlt' : (k : Int) < (KK.length : Int) := by omega
          have hxn' : (x : Int) < (n : Int) := by omega
          have hx0 : (0 : Int) ≤ (x : Int) := by omega
          go_wp2_with fail
          refine (read_at _ _ _ _ V vt HVr.out HAsc.out).mono ?_
          rintro e w11 ⟨h11, hw11⟩; have hw11' := hw11.symm; subst hw11'; clear hw11
          obtain rfl := HRS2.out e h11
          clear h11
          go_wp2
          go_region_held3 (fun w' => w'.cell? ⟨b1, o1 + k * 2, none⟩ = some (.slice va vl vc) ∧ w'.cell? ⟨b1, o1 + k * 2 + 1, none⟩ = some (.int .u64 (vt : Int)) ∧ w'.cell? ⟨b, o + x * 2, none⟩ = some (.slice va vl vc) ∧ w'.cell? ⟨b, o + x * 2 + 1, none⟩ = some (.int .u64 (vt : Int)))
            (first | exact ⟨p0, p1, r0, r1⟩ | exact ⟨p0', p1', r0', r1'⟩)
            (first
              | (go_at_call 13; refine (samev_any _ _ _ _ _ HBd.out).mono ?_; rintro e w12 ⟨rfl, hb12⟩; have p0' := below_cell hb12 p0; have p1' := below_cell hb12 p1; have r0' := below_cell hb12 r0; have r1' := below_cell hb12 r1; have Hb' := hid (Hbd.out.trans (hb12.mono Hb.out.size)); clear hb12))
          go_wp2
          go_roundw
          case rel => exact ⟨k + 1, hlt, by go_num, Hb'.out⟩
          case measure => simp [intOf]; omega
        · have Hb2 := hid hb
          clear hb
          go_wp2
          go_loopw [18] (fun j wq => ∃ k : Nat, k ≤ L ∧ j = .int .i64 (k : Int) ∧ Below w10.heap.size w10 wq) (fun j _ => L - (intOf j).toNat)
          case atStart => exact ⟨0, Nat.zero_le _, rfl, Hb2.out⟩
          case round =>
            obtain ⟨k, hk, rfl, hb⟩ := hrel
            have HVKr := hid (HVK.out.later hb)
            have Hb3 := hid hb
            clear hb
            by_cases hltL : k < L
            · have hV1 := HVKr.out
              have hl := HL1.out
              have hnil := HL2.out k hltL
              obtain ⟨_, hV1, _, _⟩ := hV1
              rcases hV1 with h0 | ⟨b1, o1, ea1, hcells1⟩
              · omega
              subst ea1
              obtain ⟨p0, _⟩ := hcells1 k (by omega)
              try dsimp only at p0 hnil
              clear hcells1
              have hk' : (k : Int) < (KK.length : Int) := by omega
              clear hl
              generalize KK.getD k 0 = x at p0 hnil
              generalize (V x).a = va at p0 hnil
              generalize (V x).l = vl at p0
              generalize (V x).c = vc at p0
              cases va with
              | some _ => cases hnil
              | none =>
                clear hnil
                go_wp2
                go_roundw
                case rel => exact ⟨k + 1, hltL, by go_num, Hb3.out⟩
                case measure => simp [intOf]; omega
            · obtain rfl : L = k := by omega
              by_cases hLK : L < KK.length
              · have hV1 := HVKr.out
                have hnil := HL3.out hLK
                obtain ⟨_, hV1, _, _⟩ := hV1
                rcases hV1 with h0 | ⟨b3, o3, ea1, hcells1⟩
                · omega
                subst ea1
                obtain ⟨p0, _⟩ := hcells1 L hLK
                try dsimp only at p0 hnil
                clear hcells1
                have hk' : (L : Int) < (KK.length : Int) := by omega
                generalize KK.getD L 0 = x at p0 hnil
                generalize (V x).a = va at p0 hnil
                generalize (V x).l = vl at p0
                generalize (V x).c = vc at p0
                cases va with
                | none => cases hnil
                | some vx =>
                  clear hnil
                  have hEq : (KK.length : Int) - (L : Int) = (KD.length : Int) := by have := HKD1.out; omega
                  go_wp2
                  clear hEq
                  go_loopw [19] (fun j wq => ∃ k : Nat, k ≤ KD.length ∧ j = .int .i64 (k : Int) ∧ Below w10.heap.size w10 wq) (fun j _ => KD.length - (intOf j).toNat)
                  case atStart => exact ⟨0, Nat.zero_le _, rfl, Hb3.out⟩
                  case round =>
                    obtain ⟨k, hk, rfl, hb⟩ := hrel
                    by_cases hlt : k < KD.length
                    · have hl := HKD1.out
                      have hV := HVD.out.later hb
                      obtain ⟨_, hV, hby, _⟩ := hV
                      have hV1 := HVK.out.later hb
                      obtain ⟨_, hV1, _, _⟩ := hV1
                      rcases hV with h0 | ⟨b2, o2, ea2, hcells2⟩
                      · omega
                      rcases hV1 with h0 | ⟨b1, o1, ea1, hcells1⟩
                      · omega
                      have ee1 : b3 = b1 ∧ o3 = o1 := by simpa using ea1
                      obtain ⟨ee2, ee3⟩ := ee1
                      subst ee2
                      subst ee3
                      clear ea1
                      subst ea2
                      obtain ⟨p0, p1⟩ := hcells2 k hlt
                      obtain ⟨r0, r1⟩ := hcells1 (L + k) (by omega)
                      have hbx := hby k hlt
                      try dsimp only at p0 p1 r0 r1 hbx
                      rw [HKD2.out k] at p0 p1 hbx
                      clear hcells1 hcells2 hby
                      generalize KK.getD (L + k) 0 = x at p0 p1 r0 r1 hbx
                      generalize (V x).a = va at p0 r0 hbx
                      generalize (V x).l = vl at p0 r0 hbx
                      generalize (V x).c = vc at p0 r0
                      generalize (V x).t = vt at p1 r1
                      have Hb := hid hb
                      have HBd := hid (hbx.later (Below.refl wr.heap.size wr).drew)
                      have Hbd := hid hb.drew
                      clear hb hbx
                      have hlt' : (k : Int) < (KD.length : Int) := by omega
                      have hlk' : (L : Int) + (k : Int) < (KK.length : Int) := by omega
                      have hlk0 : (0 : Int) ≤ (L : Int) + (k : Int) := by omega
                      have hton : ((L : Int) + (k : Int)).toNat = L + k := by omega
                      rw [← hton] at r0 r1
                      clear hton
                      have hwr : IntKind.i64.wrap ((L : Int) + (k : Int)) = (L : Int) + (k : Int) := wrap_small _ hlk0 (by omega)
                      clear hl
                      go_wp2
                      go_region_held3 (fun w' => w'.cell? ⟨b2, o2 + k * 2, none⟩ = some (.slice va vl vc) ∧ w'.cell? ⟨b2, o2 + k * 2 + 1, none⟩ = some (.int .u64 (vt : Int)) ∧ w'.cell? ⟨b3, o3 + ((L : Int) + (k : Int)).toNat * 2, none⟩ = some (.slice va vl vc) ∧ w'.cell? ⟨b3, o3 + ((L : Int) + (k : Int)).toNat * 2 + 1, none⟩ = some (.int .u64 (vt : Int)))
                        (first | exact ⟨p0, p1, r0, r1⟩ | exact ⟨p0', p1', r0', r1'⟩)
                        (first
                          | (go_at_call 18; refine (samek_any _ _ _ _ _ HBd.out).mono ?_; rintro e w11 ⟨rfl, hb11⟩; have p0' := below_cell hb11 p0; have p1' := below_cell hb11 p1; have r0' := below_cell hb11 r0; have r1' := below_cell hb11 r1; have Hb' := hid (Hbd.out.trans (hb11.mono Hb.out.size)); clear hb11))
                      go_wp2
                      go_roundw
                      case rel => exact ⟨k + 1, hlt, by go_num, Hb'.out⟩
                      case measure => simp [intOf]; omega
                    · have HUz := hid (HU2.out.later hb)
                      have HUk : Hid (UsOk wr (some ⟨G1, 0, none⟩) L fun i => (V (KK.getD i 0)).t) := hid (by
                        obtain ⟨h1, h2, h3⟩ := HU1.out.later hb
                        have hl := HL1.out
                        refine ⟨by omega, ?_, fun i hi => h3 i (by omega)⟩
                        rcases h2 with h0 | ⟨b, o, e, hc⟩
                        · exact .inl (by omega)
                        · exact .inr ⟨b, o, e, fun i hi => hc i (by omega)⟩)
                      have Hb := hid hb
                      clear hb
                      have hcut := cutTo G1 KK.length L HL1.out
                      have hLl : L ≤ 131072 := by have := HL1.out; omega
                      go_wp2_with fail
                      clear hcut
                      refine (merge_any _ _ _ _ _ _ _ _ _ (by omega) hLl HUz.out HUk.out).mono ?_
                      rintro e w11 ⟨⟨G4, hG4, he, hr11⟩, hb11⟩
                      have hzD : zK.length + L = zD.length := by
                        rw [← Hmer2.out, mergeL_len]
                        simp [Nat.min_eq_left HL1.out]
                      rw [hzD] at he hr11
                      subst he
                      have Hr11 : Hid (w11.rowIs G4 24 zD.length (rowN .u64 zD)) := hid (by
                        have e1 := lst_take KK L HL1.out (fun i => (V i).t)
                        have e2 := lst_self zK
                        rw [e1, e2, Hmer2.out] at hr11
                        exact hr11)
                      have Hb11 := hid (Hb.out.trans (hb11.mono Hb.out.size))
                      have HzD : Hid (zD.length ≤ 32768 + 32768) := hid (by have := HL1.out; omega)
                      clear hr11 hb11 hG4 hzD Hb HUz HUk
                      go_wp2
                      go_loopw [21] (fun j wq => ∃ k : Nat, k ≤ zD.length ∧ j = .int .i64 (k : Int) ∧ Below w11.heap.size w11 wq) (fun j _ => zD.length - (intOf j).toNat)
                      case atStart => exact ⟨0, Nat.zero_le _, rfl, Below.refl _ _⟩
                      case round =>
                        obtain ⟨k, hk, rfl, hb⟩ := hrel
                        by_cases hlt : k < zD.length
                        · have hR := (HDD.out.later Hb11.out).later hb
                          obtain ⟨_, hR, _⟩ := hR
                          rcases hR with h0 | ⟨bd, od, ead, hcells⟩
                          · omega
                          subst ead
                          have p0 := hcells k hlt
                          have q0 := (Hr11.out.of_block (hb.block _ Hr11.out.lt)).cell (i := k) hlt
                          unfold rowN at q0
                          try dsimp only at p0
                          generalize zD.getD k 0 = z0 at p0 q0
                          clear hcells
                          have Hb'' := hid hb
                          clear hb
                          have hlt' : (k : Int) < (zD.length : Int) := by omega
                          have hz' : (zD.length : Int) ≤ 65536 := by have := HzD.out; omega
                          go_wp2
                          go_quiet (fail)
                          go_wp2
                          go_roundw
                          case rel => exact ⟨k + 1, hlt, by go_num, below_drewN Hb''.out _⟩
                          case measure => simp [intOf]; omega
                        · obtain ⟨wA, rfl⟩ : ∃ wA, wA = wr := ⟨wr, rfl⟩
                          have Hb12 := hid (Hb11.out.trans (hb.mono Hb11.out.size))
                          have HVD12 := hid (HVD.out.later Hb12.out)
                          have HUo12 := hid (HUo.out.later Hb12.out)
                          have HXo12 : Hid (∀ x, ao = some x → x.block < wA.heap.size) := hid fun x e => Nat.lt_of_lt_of_le (HXo.out x e) Hb12.out.size
                          have HB12 := hid (HB10.out.trans (Hb12.out.mono HB10.out.size))
                          clear hb
                          have hkd : KD.length ≤ 32768 := by have := HKD1.out; omega
                          have hmk := make36 KD.length (by omega)
                          go_wp2
                          clear hmk
                          go_loopw [23] (fun j wq => ∃ k : Nat, k ≤ KD.length ∧ j = .int .i64 (k : Int) ∧ Below wA.heap.size wA wq ∧ wq.rowIs wA.heap.size 46 (KD.length * 2) (cellV fun j => if j < k then V (KD.getD j 0) else zeroVer)) (fun j _ => KD.length - (intOf j).toNat)
                          case atStart => exact ⟨0, Nat.zero_le _, rfl, below_one _ _, by simpa using row_made36 wA KD.length⟩
                          case round =>
                            obtain ⟨k, hk, rfl, hb, hrow⟩ := hrel
                            by_cases hlt : k < KD.length
                            · have hV := HVD12.out.later hb
                              obtain ⟨_, hV, _, _⟩ := hV
                              rcases hV with h0 | ⟨b2, o2, ea2, hcells2⟩
                              · omega
                              subst ea2
                              obtain ⟨p0, p1⟩ := hcells2 k hlt
                              try dsimp only at p0 p1
                              clear hcells2
                              have g0 := hrow.cell (i := k * 2) (by omega)
                              have g1 := hrow.cell (i := k * 2 + 1) (by omega)
                              have g2 := hrow.frozen (k * 2)
                              have g3 := hrow.frozen (k * 2 + 1)
                              have Hb := hid hb
                              have Hrow := hid hrow
                              clear hb hrow
                              generalize cellV (fun j => if j < k then V (KD.getD j 0) else zeroVer) (k * 2) = z0 at g0
                              generalize cellV (fun j => if j < k then V (KD.getD j 0) else zeroVer) (k * 2 + 1) = z1 at g1
                              have HV1 : Hid (∀ va vl vc vt, va = (V (KD.getD k 0)).a → vl = (V (KD.getD k 0)).l → vc = (V (KD.getD k 0)).c → vt = (V (KD.getD k 0)).t → (⟨va, vl, vc, vt⟩ : Ver) = V (KD.getD k 0)) := hid (by rintro _ _ _ _ rfl rfl rfl rfl; rfl)
                              generalize eaa : (V (KD.getD k 0)).a = va at p0
                              generalize ell : (V (KD.getD k 0)).l = vl at p0
                              generalize ecc : (V (KD.getD k 0)).c = vc at p0
                              generalize ett : (V (KD.getD k 0)).t = vt at p1
                              have HV2 := hid (HV1.out va vl vc vt eaa.symm ell.symm ecc.symm ett.symm)
                              clear eaa ell ecc ett HV1
                              have hlt' : (k : Int) < (KD.length : Int) := by omega
                              go_wp2
                              go_roundw
                              case rel =>
                                refine ⟨k + 1, hlt, by go_num, (Hb.out.setCell (Nat.le_refl _) _).setCell (Nat.le_refl _) _, (row_put (k := k) Hrow.out ⟨va, vl, vc, vt⟩).congr fun j hj => ?_⟩
                                refine cellV_congr (n := KD.length) (fun i hi => ?_) hj
                                rw [HV2.out]
                                by_cases hik : i = k
                                · subst hik; simp
                                · simp only [hik, if_false]
                                  by_cases h2 : i < k
                                  · simp [h2, show i < k + 1 by omega]
                                  · simp [h2, show ¬ i < k + 1 by omega]
                              case measure => simp [intOf]; omega
                            · have HCh : Hid (ChainAt wr wA.heap.size (some ⟨wA.heap.size, 0, none⟩) KD.length fun j => V (KD.getD j 0)) := hid (.inr ⟨_, Nat.le_refl _, rfl, hrow.congr fun j hj => cellV_congr (n := KD.length) (fun i hi => by simp [show i < k by omega]) hj⟩)
                              have Hbr := hid hb
                              have HByt : Hid (∀ w'', Below wA.heap.size wr w'' → ∀ i, i < KD.length → BytesOk w'' (V (KD.getD i 0)).a (V (KD.getD i 0)).l) := hid fun w'' hb'' => (HVD12.out.later (Hbr.out.trans hb'')).2.2.1
                              clear hb hrow
                              go_wp2_with fail
                              refine (prune_use wr wA.heap.size _ KD.length (fun j => V (KD.getD j 0)) ao m _ U fl 0 hkd hm HCh.out Hbr.out.size (HUo12.out.later Hbr.out) HXo12.out HAsc'.out HByt.out HVD12.out.2.2.2 _ rfl (List.range KD.length) [] (congrArg Prod.fst Hst3.out) (by have e3 := congrArg Prod.snd Hst3.out; exact congrArg (List.map _) e3)).mono ?_
                              rintro e w13 ⟨ak3, ad3, cd3, he, hvk, hdk, hb13⟩
                              rw [List.length_range] at he hvk
                              subst he
                              have HVk3 := hid hvk
                              have Hb13 := hid (Hbr.out.trans hb13)
                              have HVD13 := hid (HVD12.out.later Hb13.out)
                              have HB13 := hid (HB12.out.trans (Hb13.out.mono HB12.out.size))
                              clear hvk hdk hb13
                              go_wp2
                              go_loopw [26] (fun j wq => ∃ k : Nat, k ≤ KD.length ∧ j = .int .i64 (k : Int) ∧ Below w13.heap.size w13 wq) (fun j _ => KD.length - (intOf j).toNat)
                              case atStart => exact ⟨0, Nat.zero_le _, rfl, Below.refl _ _⟩
                              case round =>
                                obtain ⟨k, hk, rfl, hb⟩ := hrel
                                by_cases hlt : k < KD.length
                                · have hV := HVD13.out.later hb
                                  obtain ⟨_, hV, hby, _⟩ := hV
                                  have hV1 := HVk3.out.later hb
                                  obtain ⟨_, hV1, _, _⟩ := hV1
                                  rcases hV with h0 | ⟨b2, o2, ea2, hcells2⟩
                                  · omega
                                  rcases hV1 with h0 | ⟨b4, o4, ea4, hcells4⟩
                                  · omega
                                  subst ea2 ea4
                                  obtain ⟨r0, r1⟩ := hcells2 k hlt
                                  obtain ⟨p0, p1⟩ := hcells4 k hlt
                                  have hbx := hby k hlt
                                  try dsimp only at p0 p1 r0 r1 hbx
                                  have hgr : (List.range KD.length).getD k 0 = k := by simp [List.getD, hlt]
                                  rw [hgr] at p0 p1
                                  clear hcells2 hcells4 hby hgr
                                  generalize KD.getD k 0 = x at p0 p1 r0 r1 hbx
                                  generalize (V x).a = va at p0 r0 hbx
                                  generalize (V x).l = vl at p0 r0 hbx
                                  generalize (V x).c = vc at p0 r0
                                  generalize (V x).t = vt at p1 r1
                                  have Hb := hid hb
                                  have HBd := hid (hbx.later (Below.refl wr.heap.size wr).drew)
                                  have Hbd := hid hb.drew
                                  clear hb hbx
                                  have hlt' : (k : Int) < (KD.length : Int) := by omega
                                  go_wp2
                                  go_region_held3 (fun w' => w'.cell? ⟨b4, o4 + k * 2, none⟩ = some (.slice va vl vc) ∧ w'.cell? ⟨b4, o4 + k * 2 + 1, none⟩ = some (.int .u64 (vt : Int)) ∧ w'.cell? ⟨b2, o2 + k * 2, none⟩ = some (.slice va vl vc) ∧ w'.cell? ⟨b2, o2 + k * 2 + 1, none⟩ = some (.int .u64 (vt : Int)))
                                    (first | exact ⟨p0, p1, r0, r1⟩ | exact ⟨p0', p1', r0', r1'⟩)
                                    (first
                                      | (go_at_call 18; refine (samek_any _ _ _ _ _ HBd.out).mono ?_; rintro e w14 ⟨rfl, hb14⟩; have p0' := below_cell hb14 p0; have p1' := below_cell hb14 p1; have r0' := below_cell hb14 r0; have r1' := below_cell hb14 r1; have Hb' := hid (Hbd.out.trans (hb14.mono Hb.out.size)); clear hb14))
                                  go_wp2
                                  go_roundw
                                  case rel => exact ⟨k + 1, hlt, by go_num, Hb'.out⟩
                                  case measure => simp [intOf]; omega
                                · have Hb := hid hb
                                  clear hb
                                  go_wp2
                                  go_ret
                                  exact ⟨rfl, HB13.out.trans (Hb.out.mono HB13.out.size)⟩
              · have hLe : L = KK.length := by have := HL1.out; omega
                have HLe := hid hLe
                have hk' : (KK.length : Int) ≤ (L : Int) := by omega
                clear hLe
                have hEq : (KK.length : Int) - (L : Int) = (KD.length : Int) := by have := HKD1.out; omega
                go_wp2
                clear hEq
                go_loopw [19] (fun j wq => ∃ k : Nat, k ≤ KD.length ∧ j = .int .i64 (k : Int) ∧ Below w10.heap.size w10 wq) (fun j _ => KD.length - (intOf j).toNat)
                case atStart => exact ⟨0, Nat.zero_le _, rfl, Hb3.out⟩
                case round =>
                  obtain ⟨k, hk, rfl, hb⟩ := hrel
                  by_cases hlt : k < KD.length
                  · have hl := HKD1.out
                    have hV := HVD.out.later hb
                    obtain ⟨_, hV, hby, _⟩ := hV
                    have hV1 := HVK.out.later hb
                    obtain ⟨_, hV1, _, _⟩ := hV1
                    rcases hV with h0 | ⟨b2, o2, ea2, hcells2⟩
                    · omega
                    rcases hV1 with h0 | ⟨b1, o1, ea1, hcells1⟩
                    · omega
                    subst ea1 ea2
                    obtain ⟨p0, p1⟩ := hcells2 k hlt
                    obtain ⟨r0, r1⟩ := hcells1 (L + k) (by omega)
                    have hbx := hby k hlt
                    try dsimp only at p0 p1 r0 r1 hbx
                    rw [HKD2.out k] at p0 p1 hbx
                    clear hcells1 hcells2 hby
                    generalize KK.getD (L + k) 0 = x at p0 p1 r0 r1 hbx
                    generalize (V x).a = va at p0 r0 hbx
                    generalize (V x).l = vl at p0 r0 hbx
                    generalize (V x).c = vc at p0 r0
                    generalize (V x).t = vt at p1 r1
                    have Hb := hid hb
                    have HBd := hid (hbx.later (Below.refl wr.heap.size wr).drew)
                    have Hbd := hid hb.drew
                    clear hb hbx
                    have hlt' : (k : Int) < (KD.length : Int) := by omega
                    have hlk' : (L : Int) + (k : Int) < (KK.length : Int) := by omega
                    have hlk0 : (0 : Int) ≤ (L : Int) + (k : Int) := by omega
                    have hton : ((L : Int) + (k : Int)).toNat = L + k := by omega
                    rw [← hton] at r0 r1
                    clear hton
                    have hwr : IntKind.i64.wrap ((L : Int) + (k : Int)) = (L : Int) + (k : Int) := wrap_small _ hlk0 (by omega)
                    clear hl
                    go_wp2
                    go_region_held3 (fun w' => w'.cell? ⟨b2, o2 + k * 2, none⟩ = some (.slice va vl vc) ∧ w'.cell? ⟨b2, o2 + k * 2 + 1, none⟩ = some (.int .u64 (vt : Int)) ∧ w'.cell? ⟨b1, o1 + ((L : Int) + (k : Int)).toNat * 2, none⟩ = some (.slice va vl vc) ∧ w'.cell? ⟨b1, o1 + ((L : Int) + (k : Int)).toNat * 2 + 1, none⟩ = some (.int .u64 (vt : Int)))
                      (first | exact ⟨p0, p1, r0, r1⟩ | exact ⟨p0', p1', r0', r1'⟩)
                      (first
                        | (go_at_call 18; refine (samek_any _ _ _ _ _ HBd.out).mono ?_; rintro e w11 ⟨rfl, hb11⟩; have p0' := below_cell hb11 p0; have p1' := below_cell hb11 p1; have r0' := below_cell hb11 r0; have r1' := below_cell hb11 r1; have Hb' := hid (Hbd.out.trans (hb11.mono Hb.out.size)); clear hb11))
                    go_wp2
                    go_roundw
                    case rel => exact ⟨k + 1, hlt, by go_num, Hb'.out⟩
                    case measure => simp [intOf]; omega
                  · have HUz := hid (HU2.out.later hb)
                    have HUk : Hid (UsOk wr (some ⟨G1, 0, none⟩) L fun i => (V (KK.getD i 0)).t) := hid (by
                      obtain ⟨h1, h2, h3⟩ := HU1.out.later hb
                      have hl := HL1.out
                      refine ⟨by omega, ?_, fun i hi => h3 i (by omega)⟩
                      rcases h2 with h0 | ⟨b, o, e, hc⟩
                      · exact .inl (by omega)
                      · exact .inr ⟨b, o, e, fun i hi => hc i (by omega)⟩)
                    have Hb := hid hb
                    clear hb
                    have hcut := cutTo G1 KK.length L HL1.out
                    have hLl : L ≤ 131072 := by have := HL1.out; omega
                    go_wp2_with fail
                    clear hcut
                    refine (merge_any _ _ _ _ _ _ _ _ _ (by omega) hLl HUz.out HUk.out).mono ?_
                    rintro e w11 ⟨⟨G4, hG4, he, hr11⟩, hb11⟩
                    have hzD : zK.length + L = zD.length := by
                      rw [← Hmer2.out, mergeL_len]
                      simp [Nat.min_eq_left HL1.out]
                    rw [hzD] at he hr11
                    subst he
                    have Hr11 : Hid (w11.rowIs G4 24 zD.length (rowN .u64 zD)) := hid (by
                      have e1 := lst_take KK L HL1.out (fun i => (V i).t)
                      have e2 := lst_self zK
                      rw [e1, e2, Hmer2.out] at hr11
                      exact hr11)
                    have Hb11 := hid (Hb.out.trans (hb11.mono Hb.out.size))
                    have HzD : Hid (zD.length ≤ 32768 + 32768) := hid (by have := HL1.out; omega)
                    clear hr11 hb11 hG4 hzD Hb HUz HUk
                    go_wp2
                    go_loopw [21] (fun j wq => ∃ k : Nat, k ≤ zD.length ∧ j = .int .i64 (k : Int) ∧ Below w11.heap.size w11 wq) (fun j _ => zD.length - (intOf j).toNat)
                    case atStart => exact ⟨0, Nat.zero_le _, rfl, Below.refl _ _⟩
                    case round =>
                      obtain ⟨k, hk, rfl, hb⟩ := hrel
                      by_cases hlt : k < zD.length
                      · have hR := (HDD.out.later Hb11.out).later hb
                        obtain ⟨_, hR, _⟩ := hR
                        rcases hR with h0 | ⟨bd, od, ead, hcells⟩
                        · omega
                        subst ead
                        have p0 := hcells k hlt
                        have q0 := (Hr11.out.of_block (hb.block _ Hr11.out.lt)).cell (i := k) hlt
                        unfold rowN at q0
                        try dsimp only at p0
                        generalize zD.getD k 0 = z0 at p0 q0
                        clear hcells
                        have Hb'' := hid hb
                        clear hb
                        have hlt' : (k : Int) < (zD.length : Int) := by omega
                        have hz' : (zD.length : Int) ≤ 65536 := by have := HzD.out; omega
                        go_wp2
                        go_quiet (fail)
                        go_wp2
                        go_roundw
                        case rel => exact ⟨k + 1, hlt, by go_num, below_drewN Hb''.out _⟩
                        case measure => simp [intOf]; omega
                      · obtain ⟨wA, rfl⟩ : ∃ wA, wA = wr := ⟨wr, rfl⟩
                        have Hb12 := hid (Hb11.out.trans (hb.mono Hb11.out.size))
                        have HVD12 := hid (HVD.out.later Hb12.out)
                        have HUo12 := hid (HUo.out.later Hb12.out)
                        have HXo12 : Hid (∀ x, ao = some x → x.block < wA.heap.size) := hid fun x e => Nat.lt_of_lt_of_le (HXo.out x e) Hb12.out.size
                        have HB12 := hid (HB10.out.trans (Hb12.out.mono HB10.out.size))
                        clear hb
                        have hkd : KD.length ≤ 32768 := by have := HKD1.out; omega
                        have hmk := make36 KD.length (by omega)
                        go_wp2
                        clear hmk
                        go_loopw [23] (fun j wq => ∃ k : Nat, k ≤ KD.length ∧ j = .int .i64 (k : Int) ∧ Below wA.heap.size wA wq ∧ wq.rowIs wA.heap.size 46 (KD.length * 2) (cellV fun j => if j < k then V (KD.getD j 0) else zeroVer)) (fun j _ => KD.length - (intOf j).toNat)
                        case atStart => exact ⟨0, Nat.zero_le _, rfl, below_one _ _, by simpa using row_made36 wA KD.length⟩
                        case round =>
                          obtain ⟨k, hk, rfl, hb, hrow⟩ := hrel
                          by_cases hlt : k < KD.length
                          · have hV := HVD12.out.later hb
                            obtain ⟨_, hV, _, _⟩ := hV
                            rcases hV with h0 | ⟨b2, o2, ea2, hcells2⟩
                            · omega
                            subst ea2
                            obtain ⟨p0, p1⟩ := hcells2 k hlt
                            try dsimp only at p0 p1
                            clear hcells2
                            have g0 := hrow.cell (i := k * 2) (by omega)
                            have g1 := hrow.cell (i := k * 2 + 1) (by omega)
                            have g2 := hrow.frozen (k * 2)
                            have g3 := hrow.frozen (k * 2 + 1)
                            have Hb := hid hb
                            have Hrow := hid hrow
                            clear hb hrow
                            generalize cellV (fun j => if j < k then V (KD.getD j 0) else zeroVer) (k * 2) = z0 at g0
                            generalize cellV (fun j => if j < k then V (KD.getD j 0) else zeroVer) (k * 2 + 1) = z1 at g1
                            have HV1 : Hid (∀ va vl vc vt, va = (V (KD.getD k 0)).a → vl = (V (KD.getD k 0)).l → vc = (V (KD.getD k 0)).c → vt = (V (KD.getD k 0)).t → (⟨va, vl, vc, vt⟩ : Ver) = V (KD.getD k 0)) := hid (by rintro _ _ _ _ rfl rfl rfl rfl; rfl)
                            generalize eaa : (V (KD.getD k 0)).a = va at p0
                            generalize ell : (V (KD.getD k 0)).l = vl at p0
                            generalize ecc : (V (KD.getD k 0)).c = vc at p0
                            generalize ett : (V (KD.getD k 0)).t = vt at p1
                            have HV2 := hid (HV1.out va vl vc vt eaa.symm ell.symm ecc.symm ett.symm)
                            clear eaa ell ecc ett HV1
                            have hlt' : (k : Int) < (KD.length : Int) := by omega
                            go_wp2
                            go_roundw
                            case rel =>
                              refine ⟨k + 1, hlt, by go_num, (Hb.out.setCell (Nat.le_refl _) _).setCell (Nat.le_refl _) _, (row_put (k := k) Hrow.out ⟨va, vl, vc, vt⟩).congr fun j hj => ?_⟩
                              refine cellV_congr (n := KD.length) (fun i hi => ?_) hj
                              rw [HV2.out]
                              by_cases hik : i = k
                              · subst hik; simp
                              · simp only [hik, if_false]
                                by_cases h2 : i < k
                                · simp [h2, show i < k + 1 by omega]
                                · simp [h2, show ¬ i < k + 1 by omega]
                            case measure => simp [intOf]; omega
                          · have HCh : Hid (ChainAt wr wA.heap.size (some ⟨wA.heap.size, 0, none⟩) KD.length fun j => V (KD.getD j 0)) := hid (.inr ⟨_, Nat.le_refl _, rfl, hrow.congr fun j hj => cellV_congr (n := KD.length) (fun i hi => by simp [show i < k by omega]) hj⟩)
                            have Hbr := hid hb
                            have HByt : Hid (∀ w'', Below wA.heap.size wr w'' → ∀ i, i < KD.length → BytesOk w'' (V (KD.getD i 0)).a (V (KD.getD i 0)).l) := hid fun w'' hb'' => (HVD12.out.later (Hbr.out.trans hb'')).2.2.1
                            clear hb hrow
                            go_wp2_with fail
                            refine (prune_use wr wA.heap.size _ KD.length (fun j => V (KD.getD j 0)) ao m _ U fl 0 hkd hm HCh.out Hbr.out.size (HUo12.out.later Hbr.out) HXo12.out HAsc'.out HByt.out HVD12.out.2.2.2 _ rfl (List.range KD.length) [] (congrArg Prod.fst Hst3.out) (by have e3 := congrArg Prod.snd Hst3.out; exact congrArg (List.map _) e3)).mono ?_
                            rintro e w13 ⟨ak3, ad3, cd3, he, hvk, hdk, hb13⟩
                            rw [List.length_range] at he hvk
                            subst he
                            have HVk3 := hid hvk
                            have Hb13 := hid (Hbr.out.trans hb13)
                            have HVD13 := hid (HVD12.out.later Hb13.out)
                            have HB13 := hid (HB12.out.trans (Hb13.out.mono HB12.out.size))
                            clear hvk hdk hb13
                            go_wp2
                            go_loopw [26] (fun j wq => ∃ k : Nat, k ≤ KD.length ∧ j = .int .i64 (k : Int) ∧ Below w13.heap.size w13 wq) (fun j _ => KD.length - (intOf j).toNat)
                            case atStart => exact ⟨0, Nat.zero_le _, rfl, Below.refl _ _⟩
                            case round =>
                              obtain ⟨k, hk, rfl, hb⟩ := hrel
                              by_cases hlt : k < KD.length
                              · have hV := HVD13.out.later hb
                                obtain ⟨_, hV, hby, _⟩ := hV
                                have hV1 := HVk3.out.later hb
                                obtain ⟨_, hV1, _, _⟩ := hV1
                                rcases hV with h0 | ⟨b2, o2, ea2, hcells2⟩
                                · omega
                                rcases hV1 with h0 | ⟨b4, o4, ea4, hcells4⟩
                                · omega
                                subst ea2 ea4
                                obtain ⟨r0, r1⟩ := hcells2 k hlt
                                obtain ⟨p0, p1⟩ := hcells4 k hlt
                                have hbx := hby k hlt
                                try dsimp only at p0 p1 r0 r1 hbx
                                have hgr : (List.range KD.length).getD k 0 = k := by simp [List.getD, hlt]
                                rw [hgr] at p0 p1
                                clear hcells2 hcells4 hby hgr
                                generalize KD.getD k 0 = x at p0 p1 r0 r1 hbx
                                generalize (V x).a = va at p0 r0 hbx
                                generalize (V x).l = vl at p0 r0 hbx
                                generalize (V x).c = vc at p0 r0
                                generalize (V x).t = vt at p1 r1
                                have Hb := hid hb
                                have HBd := hid (hbx.later (Below.refl wr.heap.size wr).drew)
                                have Hbd := hid hb.drew
                                clear hb hbx
                                have hlt' : (k : Int) < (KD.length : Int) := by omega
                                go_wp2
                                go_region_held3 (fun w' => w'.cell? ⟨b4, o4 + k * 2, none⟩ = some (.slice va vl vc) ∧ w'.cell? ⟨b4, o4 + k * 2 + 1, none⟩ = some (.int .u64 (vt : Int)) ∧ w'.cell? ⟨b2, o2 + k * 2, none⟩ = some (.slice va vl vc) ∧ w'.cell? ⟨b2, o2 + k * 2 + 1, none⟩ = some (.int .u64 (vt : Int)))
                                  (first | exact ⟨p0, p1, r0, r1⟩ | exact ⟨p0', p1', r0', r1'⟩)
                                  (first
                                    | (go_at_call 18; refine (samek_any _ _ _ _ _ HBd.out).mono ?_; rintro e w14 ⟨rfl, hb14⟩; have p0' := below_cell hb14 p0; have p1' := below_cell hb14 p1; have r0' := below_cell hb14 r0; have r1' := below_cell hb14 r1; have Hb' := hid (Hbd.out.trans (hb14.mono Hb.out.size)); clear hb14))
                                go_wp2
                                go_roundw
                                case rel => exact ⟨k + 1, hlt, by go_num, Hb'.out⟩
                                case measure => simp [intOf]; omega
                              · have Hb := hid hb
                                clear hb
                                go_wp2
                                go_ret
                                exact ⟨rfl, HB13.out.trans (Hb.out.mono HB13.out.size)⟩
end Go.Proofs.Qxb6632328a
