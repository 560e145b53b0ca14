import Derived.Test.Qxb6632328aHole
import Derived.Lib.SliceRun
import Derived.BigFrame
namespace Go.Proofs.Qxb6632328a
open Go.RowKit
set_option linter.unusedVariables false
set_option linter.unusedSimpArgs false

def Wk (V : Nat → Ver) (ks : List Nat) (i : Nat) : Ver := if i < ks.length then V (ks.getD i 0) else V i
theorem Wk_at {V : Nat → Ver} {ks : List Nat} {i : Nat} (h : ks.length ≤ i) : Wk V ks i = V i := by simp [Wk, Nat.not_lt.2 h]
theorem Wk_snoc (V : Nat → Ver) (ks : List Nat) (k i : Nat) : (if i = ks.length then V k else Wk V ks i) = Wk V (ks ++ [k]) i := by
  by_cases h : i = ks.length
  · subst h; simp [Wk, List.getD]
  · rw [if_neg h]
    by_cases h2 : i < ks.length
    · simp [Wk, h2, show i < ks.length + 1 by omega, List.getD, List.getElem?_append_left h2]
    · simp [Wk, h2, show ¬ i < ks.length + 1 by omega]

/-- 'append(kept, v)', room there is: v laid in a block of its own first. -/
theorem wpList_keep {w : World} {ops : Array Oper} {rest : List Oper} {o : Oper} {a : Act} {Q : Exit → Act → World → Prop} (hgd : o.guard = none) (s x : Operand)
    (ho : o.op = .call { callee := .builtin .append, args := #[s, x], argTypes := #[36, 36] }) (B q n : Nat) (W : Nat → Ver) (v : Ver) (hs : a.eval s = .slice (some ⟨B, 0, none⟩) q n) (g : Nat) (hx : a.eval x = .slice (some ⟨g, 0, none⟩) 1 1) (hg : g = w.heap.size)
    (hrow : w.rowIs B 46 (n * 2) (cellV W)) (hq : q < n)
    (hK : ∀ w', w'.rowIs B 46 (n * 2) (cellV fun i => if i = q then v else W i) → Hole w.heap.size B w w' → wpList Try.prog ops Q rest (a.put o.dst (.slice (some ⟨B, 0, none⟩) (q + 1) n)) w') :
    wpList Try.prog ops Q (o :: rest) a (w.alloc (.cells #[.slice v.a v.l v.c, .int .u64 (v.t : Int)] 46)) := by
  subst hg
  obtain ⟨i0, hi, hz0, hz1, hz2⟩ := info_parts info46
  refine wpList_plain hgd fun K hK' => ?_
  have hrow' := hrow.alloc (.cells #[.slice v.a v.l v.c, .int .u64 (v.t : Int)] 46)
  have hrun := run_append_room_cells (P := Try.prog) (w.alloc (.cells #[.slice v.a v.l v.c, .int .u64 (v.t : Int)] 46)) 36 o.type 46 i0 Try.underlying36 hi B 0 q n ⟨w.heap.size, 0, none⟩ 1 1 [.slice v.a v.l v.c, .int .u64 (v.t : Int)] (by rw [hz1]; rfl)
    (by
      intro j u hu
      match j, hu with
      | 0, hu => simp at hu; subst hu; simp [Addr.add]
      | 1, hu => simp at hu; subst hu; simp [Addr.add])
    (by intro u hu; simp at hu; rcases hu with rfl | rfl <;> rfl) (by omega)
    (by
      rw [hz1]; intro j hj
      simp at hj
      rw [hrow'.cell (i := 0 + q * 2 + j) (by omega)]; rfl)
    (by intro j hj; exact hrow'.frozen _)
  rw [hz1, Nat.zero_add] at hrun
  unfold Oper.wp
  simp [execOp, ho, resolve, invoke, builtin, hs, hx, hrun, Result.andThen]
  refine hK' _ _ (hK _ ?_ ?_)
  · refine (rowIs_setCells _ _ _ _ hrow').congr fun j hj => ?_
    by_cases h0 : j = q * 2
    · subst h0
      rw [if_pos (by simp), Nat.sub_self, cellV_even]
      simp
    · by_cases h1 : j = q * 2 + 1
      · subst h1
        rw [if_pos (by simp), show q * 2 + 1 - q * 2 = 1 by omega, cellV_odd]
        simp
      · rw [if_neg (by simp; omega)]
        have : j / 2 ≠ q := by omega
        simp [cellV, this]
  · exact (Hole.of (below_one _ _)).setCells _ _

/-! ### clear(chain[len(kept):]) -/
theorem zero46 (w : World) : (zeroValue 46).run Try.prog w = .ok (.agg #[.slice none 0 0, .int .u64 0]) w := by kernel_rfl
theorem clear_none (w : World) (ty : TypeId) (a : Option Addr) (c : Nat) : (Builtin.clear_ #[36] ty #[.slice a 0 c]).run Try.prog w = .ok (.tuple #[]) w := by
  cases a <;> simp [Builtin.clear_, run_underlying Try.underlying36]
def zeros2 (m : Nat) : List Value := (Builtin.zeroCells #[.slice none 0 0, .int .u64 0] m).toList
theorem zeros2_len (m : Nat) : (zeros2 m).length = m * 2 := by simp [zeros2, Builtin.zeroCells]
theorem zeros2_at (m j : Nat) (h : j < m * 2) : (zeros2 m)[j]?.getD default = cellV (fun _ => zeroVer) j := by
  rcases Nat.mod_two_eq_zero_or_one j with e | e <;> simp [zeros2, Builtin.zeroCells, h, cellV, zeroVer, e]
theorem zeros2_one (m : Nat) : ∀ v ∈ zeros2 m, v.oneCell' = true := by
  intro v hv
  simp [zeros2, Builtin.zeroCells] at hv
  obtain ⟨a, ha, rfl⟩ := hv
  rcases Nat.mod_two_eq_zero_or_one a with e | e <;> simp [e] <;> rfl
theorem clear_some (w : World) (ty : TypeId) (B q n : Nat) (hq : q < n) (W : Nat → Ver) (h : w.rowIs B 46 (n * 2) (cellV W)) :
    (Builtin.clear_ #[36] ty #[.slice (some ⟨B, q * 2, none⟩) (n - q) (n - q)]).run Try.prog w = .ok (.tuple #[]) (w.setCells B (q * 2) (zeros2 (n - q))) := by
  have hst := run_storeCells_cells (P := Try.prog) B (q * 2) (zeros2 (n - q)) 0 w (by intro j hj; rw [zeros2_len] at hj; rw [h.cell (i := q * 2 + 0 + j) (by omega)]; rfl) (by intro j hj; exact h.frozen _) (zeros2_one _)
  simp only [Nat.add_zero] at hst
  obtain ⟨m, hm⟩ : ∃ m, n - q = m + 1 := ⟨n - q - 1, by omega⟩
  rw [hm] at hst ⊢
  have hz : (Builtin.zeroCells (Value.agg #[.slice none 0 0, .int .u64 0]).cells (m + 1)).toList = zeros2 (m + 1) := rfl
  simp [Builtin.clear_, run_underlying Try.underlying36, zero46, hz, hst]
theorem row_cleared {w : World} {B q n : Nat} (hq : q < n) {W : Nat → Ver} (h : w.rowIs B 46 (n * 2) (cellV W)) :
    (w.setCells B (q * 2) (zeros2 (n - q))).rowIs B 46 (n * 2) (cellV fun i => if i < q then W i else zeroVer) := by
  refine (rowIs_setCells _ _ _ _ h).congr fun j hj => ?_
  rw [zeros2_len]
  by_cases h1 : q * 2 ≤ j
  · rw [if_pos (by omega), zeros2_at _ _ (by omega)]
    have h2 : ¬ j / 2 < q := by omega
    have h3 : (j - q * 2) % 2 = j % 2 := by omega
    simp [cellV, h2, h3, zeroVer]
  · rw [if_neg (by omega)]
    have h2 : j / 2 < q := by omega
    simp [cellV, h2]
theorem cut36 (B n p : Nat) (hp : p < n) : ∀ w : World, (Instr.slice 36 (.slice (some ⟨B, 0, none⟩) n n) (some (.int .i64 (p : Int))) none none).run Try.prog w = .ok (.slice (some ⟨B, p * 2, none⟩) (n - p) (n - p)) w := by
  intro w
  obtain ⟨i, hi, _, hs, _⟩ := info_parts info46
  have := run_slice_l (P := Try.prog) w 36 (some ⟨B, 0, none⟩) n n Try.underlying36 .i64 (p : Int) (by omega) (by omega)
  rw [this]
  have e : Try.prog.elem 36 = 46 := by kernel_rfl
  rw [e]
  have h : ¬ n = p := by omega
  simp [sizeOf, typeInfo, hi, hs, sliced, h, Addr.add_lit]
theorem cut36n (B n : Nat) : ∃ q : Nat, ∀ w : World, (Instr.slice 36 (.slice (some ⟨B, 0, none⟩) n n) (some (.int .i64 (n : Int))) none none).run Try.prog w = .ok (.slice (some ⟨B, q, none⟩) 0 0) w := by
  obtain ⟨i, hi, _, hs, _⟩ := info_parts info46
  refine ⟨0, fun w => ?_⟩
  have := run_slice_l (P := Try.prog) w 36 (some ⟨B, 0, none⟩) n n Try.underlying36 .i64 (n : Int) (by omega) (by omega)
  rw [this]
  have e : Try.prog.elem 36 = 46 := by kernel_rfl
  rw [e]
  simp [sizeOf, typeInfo, hi, hs, sliced, Addr.add_lit]

/-! ### Prune -/
def LoopRel (w : World) (B n : Nat) (V : Nat → Ver) (keep : Nat → Bool → Bool) (kv dv iv : Value) (wr : World) : Prop :=
  ∃ k, k ≤ n ∧ iv = .int .i64 (k : Nat) ∧ kv = .slice (some ⟨B, 0, none⟩) (st keep k).1.length n ∧ OwnT 42 wr w.heap.size dv ((st keep k).2.map fun i => (V i).t) ∧
    wr.rowIs B 46 (n * 2) (cellV (Wk V (st keep k).1)) ∧ Hole w.heap.size B w wr
def PruneSome (w : World) (B n : Nat) (V : Nat → Ver) (keep : Nat → Bool → Bool) (e : Ending) (w' : World) : Prop :=
  ∃ dv, e = .returned (.tuple #[.slice (some ⟨B, 0, none⟩) (st keep n).1.length n, dv]) ∧ OwnT 42 w' w.heap.size dv ((st keep n).2.map fun i => (V i).t) ∧
    w'.rowIs B 46 (n * 2) (cellV fun i => if i < (st keep n).1.length then V ((st keep n).1.getD i 0) else zeroVer) ∧ Hole w.heap.size B w w'

theorem next_drop {w wr Y w' : World} {B n k : Nat} {V : Nat → Ver} {keep : Nat → Bool → Bool} {ks ds : List Nat} {dv : Value} (hB : B < w.heap.size) (hk : k < n) (h1 : (st keep k).1 = ks) (h2 : (st keep k).2 = ds) (hkeep : keep k ks.isEmpty = false)
    (hown : OwnT 42 w' w.heap.size dv ((ds.map fun i => (V i).t) ++ [(V k).t])) (hrow : wr.rowIs B 46 (n * 2) (cellV (Wk V ks))) (hh : Hole w.heap.size B w wr) (hb : Below wr.heap.size wr Y) (hb2 : Below w.heap.size Y w') :
    LoopRel w B n V keep (.slice (some ⟨B, 0, none⟩) ks.length n) dv (.int .i64 ((k : Int) + 1)) w' := by
  have e : st keep (k + 1) = (ks, ds ++ [k]) := by simp [st, h1, h2, hkeep]
  refine ⟨k + 1, hk, by simp, by rw [e], by rw [e]; simpa using hown, ?_, hh.trans ((Hole.of (hb.mono hh.size)).trans (Hole.of hb2))⟩
  rw [e]
  exact hrow.of_block ((hb2.block B hB).trans (hb.block B hrow.lt))
theorem next_keep {w wr Y w' : World} {B n k : Nat} {V : Nat → Ver} {keep : Nat → Bool → Bool} {ks ds : List Nat} {dv : Value} (hB : B < w.heap.size) (hk : k < n) (h1 : (st keep k).1 = ks) (h2 : (st keep k).2 = ds) (hkeep : keep k ks.isEmpty = true)
    (hown : OwnT 42 wr w.heap.size dv (ds.map fun i => (V i).t)) (hh : Hole w.heap.size B w wr) (hb : Below wr.heap.size wr Y) (hrow : w'.rowIs B 46 (n * 2) (cellV fun i => if i = ks.length then V k else Wk V ks i)) (hb2 : Hole Y.heap.size B Y w') :
    LoopRel w B n V keep (.slice (some ⟨B, 0, none⟩) (ks.length + 1) n) dv (.int .i64 ((k : Int) + 1)) w' := by
  have e : st keep (k + 1) = (ks ++ [k], ds) := by simp [st, h1, h2, hkeep]
  refine ⟨k + 1, hk, by simp, by rw [e]; simp, by rw [e]; exact (hown.later hb).hole hb2 hB, ?_, hh.trans ((Hole.of (hb.mono hh.size)).trans (hb2.mono (Nat.le_trans hh.size hb.size)))⟩
  rw [e]
  exact hrow.congr fun j hj => by simp only [cellV, Wk_snoc]

set_option maxHeartbeats 4000000 in
theorem prune_some (w : World) (B n : Nat) (V : Nat → Ver) (a' : Option Addr) (m c' : Nat) (U : Nat → Nat) (fl : Nat) (dl : Int) (hn : n ≤ 32768) (hn0 : 0 < n) (hm : m ≤ 131072)
    (h : w.rowIs B 46 (n * 2) (cellV V)) (hu : UsOk w a' m U) (hx : ∀ x, a' = some x → x.block ≠ B) (ha : ∀ i, i + 1 < m → U i ≤ U (i + 1))
    (keep : Nat → Bool → Bool) (hkeep : keep = keepOf (k1 n m (fun i => (V i).t) U fl) (fun i => (V i).a.isNone) (decide (dl = 0))) :
    Calls Try.prog 11 #[.slice (some ⟨B, 0, none⟩) n n, .slice a' m c', .int .u64 (fl : Int), .int .i64 dl] w fun e w' => PruneSome w B n V keep e w' := by
  have HB := hid h.lt
  have HR := hid h
  have HU := hid hu
  have HX := hid hx
  have HA := hid ha
  have HK := hid hkeep
  clear h hu hx ha hkeep
  have hn' : (0 : Int) < (n : Int) := by omega
  go_enter Try.func11, Try.ntmps11
  go_wp2
  go_loopw [8, 9, 17] (LoopRel w B n V keep) (fun _ _ i _ => n - (intOf i).toNat)
  case atStart => exact ⟨0, Nat.zero_le _, rfl, rfl, OwnT.nil _ _ _, HR.out.congr fun j hj => by simp [st, cellV, Wk], Hole.refl _ _ _⟩
  case round =>
    obtain ⟨k, hk, rfl, hkv, hown, hrow, hhole⟩ := hrel
    by_cases hlt : k < n
    · have hlen := st_len keep k
      obtain ⟨ks, H1⟩ : ∃ ks, Hid ((st keep k).1 = ks) := ⟨_, hid rfl⟩
      obtain ⟨ds, H2⟩ : ∃ ds, Hid ((st keep k).2 = ds) := ⟨_, hid rfl⟩
      rw [H1.out] at hlen hkv hrow
      rw [H2.out] at hlen hown
      subst hkv
      have g0 := hrow.cell (i := k * 2) (by omega)
      have g1 := hrow.cell (i := k * 2 + 1) (by omega)
      rw [cellV_even, Wk_at (by omega)] at g0
      rw [cellV_odd, Wk_at (by omega)] at g1
      have hBlt := hrow.lt
      have Hlen := hid hlen
      have Hown := hid hown
      have Hrow := hid hrow
      have Hhole := hid hhole
      clear hlen hown hrow hhole
      have hlt' : (k : Int) < (n : Int) := by omega
      obtain ⟨va, ea⟩ : ∃ va, va = (V k).a := ⟨_, rfl⟩
      obtain ⟨vl, el⟩ : ∃ vl, vl = (V k).l := ⟨_, rfl⟩
      obtain ⟨vc, ec⟩ : ∃ vc, vc = (V k).c := ⟨_, rfl⟩
      obtain ⟨tv, et⟩ : ∃ tv, tv = (V k).t := ⟨_, rfl⟩
      have HV : Hid ((⟨va, vl, vc, tv⟩ : Ver) = V k) := hid (by rw [ea, el, ec, et])
      have HT : Hid ((V k).t = tv) := hid et.symm
      rw [← ea, ← el, ← ec] at g0
      rw [← et] at g1
      have HUX := hid ((HU.out.hole Hhole.out HX.out).later (below_one wr (.cells #[.slice va vl vc, .int .u64 (tv : Int)] 46)))
      have Hq : Hid (ks.length < n) := hid (by have := Hlen.out; omega)
      have hKf : ∀ b em, k1 n m (fun i => (V i).t) U fl k = b → keep k em = (b && !(em && va.isNone && decide (dl = 0))) := by
        intro b em hb; rw [HK.out]; simp only [keepOf, hb, ea]
      have D1 : Hid (k1 n m (fun i => (V i).t) U fl k = false → keep k ks.isEmpty = false) := hid fun h => by rw [hKf _ _ h]; rfl
      have D2 : Hid (k1 n m (fun i => (V i).t) U fl k = true → ks.length ≠ 0 → keep k ks.isEmpty = true) := hid fun h h2 => by
        rw [hKf _ _ h]
        have : ks.isEmpty = false := by cases ks with
          | nil => exact absurd rfl h2
          | cons => rfl
        simp [this]
      have D3 : Hid (k1 n m (fun i => (V i).t) U fl k = true → ks.length = 0 → keep k ks.isEmpty = !(va.isNone && decide (dl = 0))) := hid fun h h2 => by
        rw [hKf _ _ h]
        have : ks.isEmpty = true := by cases ks with
          | nil => rfl
          | cons => cases h2
        simp [this]
      clear hKf
      -- the six roads
      have HC : Hid (∃ (t6 : Bool), (k + 1 = n ∧ t6 = true) ∨ (k + 1 < n ∧ fl < (V (k + 1)).t ∧ t6 = true) ∨ (k + 1 < n ∧ (V (k + 1)).t ≤ fl ∧ seenB m U (V k).t (V (k + 1)).t = t6)) := hid (by
        by_cases hl : k + 1 < n
        · by_cases hf : fl < (V (k + 1)).t
          · exact ⟨_, .inr (.inl ⟨hl, hf, rfl⟩)⟩
          · exact ⟨_, .inr (.inr ⟨hl, by omega, rfl⟩)⟩
        · exact ⟨_, .inl ⟨by omega, rfl⟩⟩)
      by_cases hlast : k + 1 < n
      · have g2 := Hrow.out.cell (i := (k + 1) * 2 + 1) (by omega)
        rw [cellV_odd, Wk_at (by have := Hlen.out; omega)] at g2
        have hlast' : (k : Int) < (n : Int) - 1 := by omega
        have D4 : Hid (fl < (V (k + 1)).t → k1 n m (fun i => (V i).t) U fl k = true) := hid fun h => by simp [k1, h]
        have D5 : Hid (∀ b, ¬ fl < (V (k + 1)).t → seenB m U (V k).t (V (k + 1)).t = b → k1 n m (fun i => (V i).t) U fl k = b) := hid fun b h h2 => by
          simp [k1, h, h2]; omega
        rw [HT.out] at D5
        generalize (V (k + 1)).t = tn at g2 D4 D5
        clear ea el ec et HC
        by_cases hfl : tn ≤ fl
        · have hfl' : (tn : Int) ≤ (fl : Int) := by omega
          have nfl : ¬ fl < tn := by omega
          by_cases hsb : seenB m U tv tn = true
          · have K1 := hid (D5.out _ nfl hsb)
            have HOX := hid (Hown.out.later (below_one wr (.cells #[.slice va vl vc, .int .u64 (tv : Int)] 46)))
            have HRX := hid (Hrow.out.alloc (.cells #[.slice va vl vc, .int .u64 (tv : Int)] 46))
            have Hlen2 : Hid ((ds.map fun i => (V i).t).length ≤ 2000000) := hid (by have := Hlen.out; simp; omega)
            have Hbase := Hhole.out.size
            have HF0 : Hid ((wr.alloc (.cells #[.slice va vl vc, .int .u64 (tv : Int)] 46)).cell? ⟨wr.heap.size, 0, none⟩ = some (.slice va vl vc)) := hid (by simp)
            have HF1 : Hid ((wr.alloc (.cells #[.slice va vl vc, .int .u64 (tv : Int)] 46)).cell? ⟨wr.heap.size, 1, none⟩ = some (.int .u64 (tv : Int))) := hid (by simp)
            by_cases hks : ks.length = 0
            · have D3' := hid (D3.out K1.out hks)
              obtain rfl : ks = [] := List.eq_nil_of_length_eq_zero hks
              clear D1 D2 D3 hks D4 D5 nfl
              cases va with
              | none =>
                by_cases hdl : dl = 0
                · subst hdl
                  have K2 : Hid (keep k ([] : List Nat).isEmpty = false) := hid (by rw [D3'.out]; rfl)
                  clear D3'
                  go_wp2_with (first | (go_at_call 19; refine (seen_any _ _ _ _ U tv tn hm HUX.out HA.out).mono ?_; rintro e w1 ⟨rfl, hw1⟩; have hw1' := hw1.symm; subst hw1'; clear hw1) | (go_at_call 20; refine (present_any _ _ _ _ _).mono ?_; rintro e w3 ⟨rfl, hb3⟩; have fb0 := below_cell hb3 HF0.out; have fb1 := below_cell hb3 HF1.out; have HOY := hid (HOX.out.later hb3); have HRY := hid (HRX.out.of_block (hb3.block B (by simp; omega))); have HbY := hid ((below_one wr _).trans (hb3.mono (by simp))); have hs3 := HbY.out.size; clear hb3) | (at_builtin; refine wpList_push rfl (.tmp 61) (.tmp 64) 38 42 Try.underlying38 info42 rfl w.heap.size u9 (ds.map fun i => (V i).t) rfl tv _ rfl (by simp) HOY.out Hlen2.out (by omega) ?_; intro v' w2 hown2 hbel2; have Hown2 := hid hown2; have Hbel2 := hid hbel2; clear hown2 hbel2))
                  refine ⟨next_drop HB.out hlt H1.out H2.out K2.out (by rw [HT.out]; exact Hown2.out) Hrow.out Hhole.out HbY.out Hbel2.out, ?_⟩
                  simp [intOf]; omega
                · have K2 : Hid (keep k ([] : List Nat).isEmpty = true) := hid (by rw [D3'.out]; simp [hdl])
                  have hdl' : (dl == 0) = false := by simpa using hdl
                  clear D3'
                  go_wp2_with (first | (go_at_call 19; refine (seen_any _ _ _ _ U tv tn hm HUX.out HA.out).mono ?_; rintro e w1 ⟨rfl, hw1⟩; have hw1' := hw1.symm; subst hw1'; clear hw1) | (go_at_call 20; refine (present_any _ _ _ _ _).mono ?_; rintro e w3 ⟨rfl, hb3⟩; have fb0 := below_cell hb3 HF0.out; have fb1 := below_cell hb3 HF1.out; have HOY := hid (HOX.out.later hb3); have HRY := hid (HRX.out.of_block (hb3.block B (by simp; omega))); have HbY := hid ((below_one wr _).trans (hb3.mono (by simp))); have hs3 := HbY.out.size; clear hb3) | (at_builtin; refine wpList_keep rfl (.tmp 66) (.tmp 68) rfl B 0 n (Wk V []) ⟨none, vl, vc, tv⟩ rfl _ rfl (by simp) HRY.out Hq.out ?_; intro w2 hrow2 hhole2; have Hrow2 := hid hrow2; have Hhole2 := hid hhole2; clear hrow2 hhole2))
                  refine ⟨next_keep HB.out hlt H1.out H2.out K2.out Hown.out Hhole.out HbY.out (by rw [← HV.out]; exact Hrow2.out) Hhole2.out, ?_⟩
                  simp [intOf]; omega
              | some vx =>
                have K2 : Hid (keep k ([] : List Nat).isEmpty = true) := hid (by rw [D3'.out]; rfl)
                clear D3'
                go_wp2_with (first | (go_at_call 19; refine (seen_any _ _ _ _ U tv tn hm HUX.out HA.out).mono ?_; rintro e w1 ⟨rfl, hw1⟩; have hw1' := hw1.symm; subst hw1'; clear hw1) | (go_at_call 20; refine (present_any _ _ _ _ _).mono ?_; rintro e w3 ⟨rfl, hb3⟩; have fb0 := below_cell hb3 HF0.out; have fb1 := below_cell hb3 HF1.out; have HOY := hid (HOX.out.later hb3); have HRY := hid (HRX.out.of_block (hb3.block B (by simp; omega))); have HbY := hid ((below_one wr _).trans (hb3.mono (by simp))); have hs3 := HbY.out.size; clear hb3) | (at_builtin; refine wpList_keep rfl (.tmp 66) (.tmp 68) rfl B 0 n (Wk V []) ⟨(some vx), vl, vc, tv⟩ rfl _ rfl (by simp) HRY.out Hq.out ?_; intro w2 hrow2 hhole2; have Hrow2 := hid hrow2; have Hhole2 := hid hhole2; clear hrow2 hhole2))
                refine ⟨next_keep HB.out hlt H1.out H2.out K2.out Hown.out Hhole.out HbY.out (by rw [← HV.out]; exact Hrow2.out) Hhole2.out, ?_⟩
                simp [intOf]; omega
            · have K2 := hid (D2.out K1.out hks)
              have hks' : (0 : Int) < (ks.length : Int) := by omega
              clear D1 D2 D3 D4 D5 nfl
              have HRY := HRX
              go_wp2_with (first | (go_at_call 19; refine (seen_any _ _ _ _ U tv tn hm HUX.out HA.out).mono ?_; rintro e w1 ⟨rfl, hw1⟩; have hw1' := hw1.symm; subst hw1'; clear hw1) | (at_builtin; refine wpList_keep rfl (.tmp 66) (.tmp 68) rfl B ks.length n (Wk V ks) ⟨va, vl, vc, tv⟩ rfl _ rfl (by simp) HRY.out Hq.out ?_; intro w2 hrow2 hhole2; have Hrow2 := hid hrow2; have Hhole2 := hid hhole2; clear hrow2 hhole2))
              refine ⟨next_keep HB.out hlt H1.out H2.out K2.out Hown.out Hhole.out (below_one _ _) (by rw [← HV.out]; exact Hrow2.out) Hhole2.out, ?_⟩
              simp [intOf]; omega
          · have hsb' : seenB m U tv tn = false := Bool.eq_false_iff.2 hsb
            have K1 := hid (D1.out (D5.out _ nfl hsb'))
            clear D1 D2 D3 D4 D5 hsb nfl
            have HOX := hid (Hown.out.later (below_one wr (.cells #[.slice va vl vc, .int .u64 (tv : Int)] 46)))
            have Hlen2 : Hid ((ds.map fun i => (V i).t).length ≤ 2000000) := hid (by have := Hlen.out; simp; omega)
            have Hbase := Hhole.out.size
            go_wp2_with (first
              | (go_at_call 19; refine (seen_any _ _ _ _ U tv tn hm HUX.out HA.out).mono ?_; rintro e w1 ⟨rfl, hw1⟩; have hw1' := hw1.symm; subst hw1'; clear hw1)
              | (at_builtin; refine wpList_push rfl (.tmp 44) (.tmp 47) 38 42 Try.underlying38 info42 rfl w.heap.size u9 (ds.map fun i => (V i).t) rfl tv _ rfl (by simp) HOX.out Hlen2.out (by simp; omega) ?_; intro v' w2 hown2 hbel2; have Hown2 := hid hown2; have Hbel2 := hid hbel2; clear hown2 hbel2))
            refine ⟨next_drop HB.out hlt H1.out H2.out K1.out (by rw [HT.out]; exact Hown2.out) Hrow.out Hhole.out (below_one _ _) Hbel2.out, ?_⟩
            simp [intOf]; omega
        · have hfl' : (fl : Int) < (tn : Int) := by omega
          have K1 := hid (D4.out (by omega))
          have HOX := hid (Hown.out.later (below_one wr (.cells #[.slice va vl vc, .int .u64 (tv : Int)] 46)))
          have HRX := hid (Hrow.out.alloc (.cells #[.slice va vl vc, .int .u64 (tv : Int)] 46))
          have Hlen2 : Hid ((ds.map fun i => (V i).t).length ≤ 2000000) := hid (by have := Hlen.out; simp; omega)
          have Hbase := Hhole.out.size
          have HF0 : Hid ((wr.alloc (.cells #[.slice va vl vc, .int .u64 (tv : Int)] 46)).cell? ⟨wr.heap.size, 0, none⟩ = some (.slice va vl vc)) := hid (by simp)
          have HF1 : Hid ((wr.alloc (.cells #[.slice va vl vc, .int .u64 (tv : Int)] 46)).cell? ⟨wr.heap.size, 1, none⟩ = some (.int .u64 (tv : Int))) := hid (by simp)
          by_cases hks : ks.length = 0
          · have D3' := hid (D3.out K1.out hks)
            obtain rfl : ks = [] := List.eq_nil_of_length_eq_zero hks
            clear D1 D2 D3 hks D4 D5
            cases va with
            | none =>
              by_cases hdl : dl = 0
              · subst hdl
                have K2 : Hid (keep k ([] : List Nat).isEmpty = false) := hid (by rw [D3'.out]; rfl)
                clear D3'
                go_wp2_with (first | (go_at_call 20; refine (present_any _ _ _ _ _).mono ?_; rintro e w3 ⟨rfl, hb3⟩; have fb0 := below_cell hb3 HF0.out; have fb1 := below_cell hb3 HF1.out; have HOY := hid (HOX.out.later hb3); have HRY := hid (HRX.out.of_block (hb3.block B (by simp; omega))); have HbY := hid ((below_one wr _).trans (hb3.mono (by simp))); have hs3 := HbY.out.size; clear hb3) | (at_builtin; refine wpList_push rfl (.tmp 61) (.tmp 64) 38 42 Try.underlying38 info42 rfl w.heap.size u9 (ds.map fun i => (V i).t) rfl tv _ rfl (by simp) HOY.out Hlen2.out (by omega) ?_; intro v' w2 hown2 hbel2; have Hown2 := hid hown2; have Hbel2 := hid hbel2; clear hown2 hbel2))
                refine ⟨next_drop HB.out hlt H1.out H2.out K2.out (by rw [HT.out]; exact Hown2.out) Hrow.out Hhole.out HbY.out Hbel2.out, ?_⟩
                simp [intOf]; omega
              · have K2 : Hid (keep k ([] : List Nat).isEmpty = true) := hid (by rw [D3'.out]; simp [hdl])
                have hdl' : (dl == 0) = false := by simpa using hdl
                clear D3'
                go_wp2_with (first | (go_at_call 20; refine (present_any _ _ _ _ _).mono ?_; rintro e w3 ⟨rfl, hb3⟩; have fb0 := below_cell hb3 HF0.out; have fb1 := below_cell hb3 HF1.out; have HOY := hid (HOX.out.later hb3); have HRY := hid (HRX.out.of_block (hb3.block B (by simp; omega))); have HbY := hid ((below_one wr _).trans (hb3.mono (by simp))); have hs3 := HbY.out.size; clear hb3) | (at_builtin; refine wpList_keep rfl (.tmp 66) (.tmp 68) rfl B 0 n (Wk V []) ⟨none, vl, vc, tv⟩ rfl _ rfl (by simp) HRY.out Hq.out ?_; intro w2 hrow2 hhole2; have Hrow2 := hid hrow2; have Hhole2 := hid hhole2; clear hrow2 hhole2))
                refine ⟨next_keep HB.out hlt H1.out H2.out K2.out Hown.out Hhole.out HbY.out (by rw [← HV.out]; exact Hrow2.out) Hhole2.out, ?_⟩
                simp [intOf]; omega
            | some vx =>
              have K2 : Hid (keep k ([] : List Nat).isEmpty = true) := hid (by rw [D3'.out]; rfl)
              clear D3'
              go_wp2_with (first | (go_at_call 20; refine (present_any _ _ _ _ _).mono ?_; rintro e w3 ⟨rfl, hb3⟩; have fb0 := below_cell hb3 HF0.out; have fb1 := below_cell hb3 HF1.out; have HOY := hid (HOX.out.later hb3); have HRY := hid (HRX.out.of_block (hb3.block B (by simp; omega))); have HbY := hid ((below_one wr _).trans (hb3.mono (by simp))); have hs3 := HbY.out.size; clear hb3) | (at_builtin; refine wpList_keep rfl (.tmp 66) (.tmp 68) rfl B 0 n (Wk V []) ⟨(some vx), vl, vc, tv⟩ rfl _ rfl (by simp) HRY.out Hq.out ?_; intro w2 hrow2 hhole2; have Hrow2 := hid hrow2; have Hhole2 := hid hhole2; clear hrow2 hhole2))
              refine ⟨next_keep HB.out hlt H1.out H2.out K2.out Hown.out Hhole.out HbY.out (by rw [← HV.out]; exact Hrow2.out) Hhole2.out, ?_⟩
              simp [intOf]; omega
          · have K2 := hid (D2.out K1.out hks)
            have hks' : (0 : Int) < (ks.length : Int) := by omega
            clear D1 D2 D3 D4 D5
            have HRY := HRX
            go_wp2_with (first | (at_builtin; refine wpList_keep rfl (.tmp 66) (.tmp 68) rfl B ks.length n (Wk V ks) ⟨va, vl, vc, tv⟩ rfl _ rfl (by simp) HRY.out Hq.out ?_; intro w2 hrow2 hhole2; have Hrow2 := hid hrow2; have Hhole2 := hid hhole2; clear hrow2 hhole2))
            refine ⟨next_keep HB.out hlt H1.out H2.out K2.out Hown.out Hhole.out (below_one _ _) (by rw [← HV.out]; exact Hrow2.out) Hhole2.out, ?_⟩
            simp [intOf]; omega
      · have K1 : Hid (k1 n m (fun i => (V i).t) U fl k = true) := hid (by simp [k1, show k + 1 = n by omega])
        have hlast' : (n : Int) - 1 ≤ (k : Int) := by omega
        clear ea el ec et HC
        have HOX := hid (Hown.out.later (below_one wr (.cells #[.slice va vl vc, .int .u64 (tv : Int)] 46)))
        have HRX := hid (Hrow.out.alloc (.cells #[.slice va vl vc, .int .u64 (tv : Int)] 46))
        have Hlen2 : Hid ((ds.map fun i => (V i).t).length ≤ 2000000) := hid (by have := Hlen.out; simp; omega)
        have Hbase := Hhole.out.size
        have HF0 : Hid ((wr.alloc (.cells #[.slice va vl vc, .int .u64 (tv : Int)] 46)).cell? ⟨wr.heap.size, 0, none⟩ = some (.slice va vl vc)) := hid (by simp)
        have HF1 : Hid ((wr.alloc (.cells #[.slice va vl vc, .int .u64 (tv : Int)] 46)).cell? ⟨wr.heap.size, 1, none⟩ = some (.int .u64 (tv : Int))) := hid (by simp)
        by_cases hks : ks.length = 0
        · have D3' := hid (D3.out K1.out hks)
          obtain rfl : ks = [] := List.eq_nil_of_length_eq_zero hks
          clear D1 D2 D3 hks
          cases va with
          | none =>
            by_cases hdl : dl = 0
            · subst hdl
              have K2 : Hid (keep k ([] : List Nat).isEmpty = false) := hid (by rw [D3'.out]; rfl)
              clear D3'
              go_wp2_with (first | (go_at_call 20; refine (present_any _ _ _ _ _).mono ?_; rintro e w3 ⟨rfl, hb3⟩; have fb0 := below_cell hb3 HF0.out; have fb1 := below_cell hb3 HF1.out; have HOY := hid (HOX.out.later hb3); have HRY := hid (HRX.out.of_block (hb3.block B (by simp; omega))); have HbY := hid ((below_one wr _).trans (hb3.mono (by simp))); have hs3 := HbY.out.size; clear hb3) | (at_builtin; refine wpList_push rfl (.tmp 61) (.tmp 64) 38 42 Try.underlying38 info42 rfl w.heap.size u9 (ds.map fun i => (V i).t) rfl tv _ rfl (by simp) HOY.out Hlen2.out (by omega) ?_; intro v' w2 hown2 hbel2; have Hown2 := hid hown2; have Hbel2 := hid hbel2; clear hown2 hbel2))
              refine ⟨next_drop HB.out hlt H1.out H2.out K2.out (by rw [HT.out]; exact Hown2.out) Hrow.out Hhole.out HbY.out Hbel2.out, ?_⟩
              simp [intOf]; omega
            · have K2 : Hid (keep k ([] : List Nat).isEmpty = true) := hid (by rw [D3'.out]; simp [hdl])
              have hdl' : (dl == 0) = false := by simpa using hdl
              clear D3'
              go_wp2_with (first | (go_at_call 20; refine (present_any _ _ _ _ _).mono ?_; rintro e w3 ⟨rfl, hb3⟩; have fb0 := below_cell hb3 HF0.out; have fb1 := below_cell hb3 HF1.out; have HOY := hid (HOX.out.later hb3); have HRY := hid (HRX.out.of_block (hb3.block B (by simp; omega))); have HbY := hid ((below_one wr _).trans (hb3.mono (by simp))); have hs3 := HbY.out.size; clear hb3) | (at_builtin; refine wpList_keep rfl (.tmp 66) (.tmp 68) rfl B 0 n (Wk V []) ⟨none, vl, vc, tv⟩ rfl _ rfl (by simp) HRY.out Hq.out ?_; intro w2 hrow2 hhole2; have Hrow2 := hid hrow2; have Hhole2 := hid hhole2; clear hrow2 hhole2))
              refine ⟨next_keep HB.out hlt H1.out H2.out K2.out Hown.out Hhole.out HbY.out (by rw [← HV.out]; exact Hrow2.out) Hhole2.out, ?_⟩
              simp [intOf]; omega
          | some vx =>
            have K2 : Hid (keep k ([] : List Nat).isEmpty = true) := hid (by rw [D3'.out]; rfl)
            clear D3'
            go_wp2_with (first | (go_at_call 20; refine (present_any _ _ _ _ _).mono ?_; rintro e w3 ⟨rfl, hb3⟩; have fb0 := below_cell hb3 HF0.out; have fb1 := below_cell hb3 HF1.out; have HOY := hid (HOX.out.later hb3); have HRY := hid (HRX.out.of_block (hb3.block B (by simp; omega))); have HbY := hid ((below_one wr _).trans (hb3.mono (by simp))); have hs3 := HbY.out.size; clear hb3) | (at_builtin; refine wpList_keep rfl (.tmp 66) (.tmp 68) rfl B 0 n (Wk V []) ⟨(some vx), vl, vc, tv⟩ rfl _ rfl (by simp) HRY.out Hq.out ?_; intro w2 hrow2 hhole2; have Hrow2 := hid hrow2; have Hhole2 := hid hhole2; clear hrow2 hhole2))
            refine ⟨next_keep HB.out hlt H1.out H2.out K2.out Hown.out Hhole.out HbY.out (by rw [← HV.out]; exact Hrow2.out) Hhole2.out, ?_⟩
            simp [intOf]; omega
        · have K2 := hid (D2.out K1.out hks)
          have hks' : (0 : Int) < (ks.length : Int) := by omega
          clear D1 D2 D3
          have HRY := HRX
          go_wp2_with (first | (at_builtin; refine wpList_keep rfl (.tmp 66) (.tmp 68) rfl B ks.length n (Wk V ks) ⟨va, vl, vc, tv⟩ rfl _ rfl (by simp) HRY.out Hq.out ?_; intro w2 hrow2 hhole2; have Hrow2 := hid hrow2; have Hhole2 := hid hhole2; clear hrow2 hhole2))
          refine ⟨next_keep HB.out hlt H1.out H2.out K2.out Hown.out Hhole.out (below_one _ _) (by rw [← HV.out]; exact Hrow2.out) Hhole2.out, ?_⟩
          simp [intOf]; omega
    · obtain rfl : n = k := by omega
      subst hkv
      have Hlen := hid (st_len keep n)
      have HE : Hid (∀ dv w', OwnT 42 w' w.heap.size dv ((st keep n).2.map fun i => (V i).t) → w'.rowIs B 46 (n * 2) (cellV fun i => if i < (st keep n).1.length then V ((st keep n).1.getD i 0) else zeroVer) → Hole w.heap.size B w w' →
        PruneSome w B n V keep (.returned (.tuple #[.slice (some ⟨B, 0, none⟩) (st keep n).1.length n, dv])) w') := hid fun dv w' h1 h2 h3 => ⟨dv, rfl, h1, h2, h3⟩
      generalize (st keep n).1 = ks at hrow Hlen HE
      generalize (st keep n).2 = ds at hown Hlen HE
      by_cases hq : ks.length = n
      · obtain ⟨z, hcut⟩ := cut36n B n
        have hcl := clear_none wr
        have Hown := hid hown
        have Hrow := hid hrow
        have Hhole := hid hhole
        clear hown hrow hhole
        go_wp2_with (simp only [hcl])
        go_ret2
        exact HE.out _ _ Hown.out (Hrow.out.congr fun j hj => cellV_congr (n := n) (fun i hi => by simp [Wk, hq, hi]) hj) Hhole.out
      · have hq' : ks.length < n := by have := Hlen.out; omega
        have hcut := cut36 B n ks.length hq'
        have hcl := fun ty => clear_some wr ty B ks.length n hq' _ hrow
        have Hown := hid hown
        have Hrow := hid hrow
        have Hhole := hid hhole
        clear hown hrow hhole
        go_wp2_with (simp only [hcl])
        go_ret2
        exact HE.out _ _ (Hown.out.hole ((Hole.refl _ _ _).setCells _ _) HB.out) ((row_cleared hq' Hrow.out).congr fun j hj => cellV_congr (n := n) (fun i hi => by by_cases h2 : i < ks.length <;> simp [Wk, h2]) hj) (Hhole.out.setCells _ _)

/-- A chain of no versions. -/
theorem prune_zero (w : World) (a a' : Option Addr) (m c' : Nat) (fl dl : Int) :
    Calls Try.prog 11 #[.slice a 0 0, .slice a' m c', .int .u64 fl, .int .i64 dl] w fun e w' => (∃ ak, e = .returned (.tuple #[.slice ak 0 0, .slice none 0 0])) ∧ w' = w := by
  have hcl := clear_none w
  cases a with
  | none =>
    go_enter Try.func11, Try.ntmps11
    go_wp2
    refine wp_loop_rounds 1 ?_
    rw [rounds_succ]
    go_wp2_with (simp only [hcl])
    go_ret2
    exact ⟨⟨_, rfl⟩, rfl⟩
  | some x =>
    go_enter Try.func11, Try.ntmps11
    go_wp2
    refine wp_loop_rounds 1 ?_
    rw [rounds_succ]
    go_wp2_with (simp only [hcl])
    go_ret2
    exact ⟨⟨_, rfl⟩, rfl⟩

theorem st_lt (keep : Nat → Bool → Bool) (k : Nat) : ∀ x ∈ (st keep k).1, x < k := by
  induction k with
  | zero => intro x hx; cases hx
  | succ k ih =>
    intro x hx
    simp only [st] at hx
    split at hx
    · rcases List.mem_append.1 hx with h | h
      · have := ih x h; omega
      · simp at h; omega
    · have := ih x hx; omega
theorem st_getD (keep : Nat → Bool → Bool) (k j : Nat) (h : j < (st keep k).1.length) : (st keep k).1.getD j 0 < k := by
  refine st_lt keep k _ ?_
  simp [List.getD, h]

/-- What Prune hands back. -/
def PruneOut (w : World) (a : Option Addr) (n : Nat) (V : Nat → Ver) (keep : Nat → Bool → Bool) (e : Ending) (w' : World) : Prop :=
  ∃ ak dv, e = .returned (.tuple #[.slice ak (st keep n).1.length n, dv]) ∧ OwnT 42 w' w.heap.size dv ((st keep n).2.map fun i => (V i).t) ∧
    ((n = 0 ∧ w' = w) ∨ ∃ B, 0 < n ∧ a = some ⟨B, 0, none⟩ ∧ ak = some ⟨B, 0, none⟩ ∧ w'.rowIs B 46 (n * 2) (cellV fun i => if i < (st keep n).1.length then V ((st keep n).1.getD i 0) else zeroVer) ∧ Hole w.heap.size B w w')
theorem prune_any (w : World) (base : Nat) (a : Option Addr) (n : Nat) (V : Nat → Ver) (a' : Option Addr) (m c' : Nat) (U : Nat → Nat) (fl : Nat) (dl : Int) (hn : n ≤ 32768) (hm : m ≤ 131072)
    (h : ChainAt w base a n V) (hu : UsOk w a' m U) (hx : n = 0 ∨ ∀ x y, a' = some x → a = some y → x.block ≠ y.block) (ha : ∀ i, i + 1 < m → U i ≤ U (i + 1))
    (keep : Nat → Bool → Bool) (hkeep : keep = keepOf (k1 n m (fun i => (V i).t) U fl) (fun i => (V i).a.isNone) (decide (dl = 0))) :
    Calls Try.prog 11 #[.slice a n n, .slice a' m c', .int .u64 (fl : Int), .int .i64 dl] w fun e w' => PruneOut w a n V keep e w' := by
  by_cases h0 : n = 0
  · subst h0
    refine (prune_zero w a a' m c' fl dl).mono ?_
    rintro e w' ⟨⟨ak, rfl⟩, rfl⟩
    exact ⟨ak, _, rfl, OwnT.nil _ _ _, .inl ⟨rfl, rfl⟩⟩
  · rcases h with h | ⟨B, hB, rfl, hr⟩
    · exact absurd h h0
    · refine (prune_some w B n V a' m c' U fl dl hn (by omega) hm hr hu (fun x hx' => ?_) ha keep hkeep).mono ?_
      · rcases hx with h | h
        · exact absurd h h0
        · exact h x _ hx' rfl
      · rintro e w' ⟨dv, rfl, h1, h2, h3⟩
        exact ⟨_, dv, rfl, h1, .inr ⟨B, by omega, rfl, rfl, h2, h3⟩⟩
end Go.Proofs.Qxb6632328a
