import Derived.Test.Qxb6632227aBase
namespace Go.Proofs.Qxb6632227a
open Go.RowKit Plain
set_option linter.unusedSimpArgs false
set_option linter.unusedVariables false

theorem one_cell (w : World) (x : Value) : ∀ j u, [x][j]? = some u → (w.alloc (.cells #[x] 5)).cell? ((⟨w.heap.size, 0, none⟩ : Addr).add j) = some u := by
  intro j u hu
  match j, hu with
  | 0, hu => simp at hu; subst hu; simp [Addr.add]
theorem one_one (n : Int) : ∀ u ∈ [Value.int .u8 n], u.oneCell' = true := by intro u hu; simp at hu; subst hu; rfl

/-- A slice onto which one may append: a row of the call's own, or one without spare room. -/
def Pushable (w : World) (base : Nat) (sv : Value) (zs : List Int) : Prop :=
  Own w base sv zs ∨ ∃ ao, sv = .slice ao zs.length zs.length ∧ (ao = none → zs = []) ∧ Rd w ao zs

/-- 'append(b, x)' of one byte, the byte laid in a block of its own first. -/
theorem wpList_push {w : World} {ops : Array Oper} {rest : List Oper} {o : Oper} {a : Act} {Q : Exit → Act → World → Prop} (hgd : o.guard = none) (s x : Operand)
    (ho : o.op = .call { callee := .builtin .append, args := #[s, x], argTypes := #[22, 22] }) (base : Nat) (sv : Value) (zs : List Int) (hs : a.eval s = sv) (n : Int) (hx : a.eval x = .slice (some ⟨w.heap.size, 0, none⟩) 1 1)
    (h : Pushable w base sv zs) (hlen : zs.length ≤ 2000000) (hb : base ≤ w.heap.size)
    (hK : ∀ v' w', Own w' base v' (zs ++ [n]) → Below base w w' → wpList Try.prog ops Q rest (a.put o.dst v') w') : wpList Try.prog ops Q (o :: rest) a (w.alloc (.cells #[.int .u8 n] 5)) := by
  obtain ⟨i0, hi, hz0, hz1, hz2⟩ := info_parts info5
  rcases h with h | ⟨ao, rfl, hnil, hrd⟩
  · refine wpList_append_own _ hgd s x 22 ho base 5 i0 (.int .u8 0) 1 1 Try.underlying22 hi hz0 hz1 hz2 rfl (by decide) sv zs.length _ hs (World.ownsRow.alloc h _) ⟨w.heap.size, 0, none⟩ 1 1 [.int .u8 n] hx rfl (one_cell _ _) (one_one _) (by unfold maxLen; omega) (by omega) (by simp; omega) ?_
    intro v' w' h1 h2 _
    refine hK v' w' (own_of _ h1 (by simp) (by simp)) ?_
    exact ((Below.refl base w).alloc hb _).grown h2 (by simp; omega) (fun k hk => (World.ownsRow.lt h k hk).1)
  · refine wpList_append_grows _ hgd s x 22 ho 5 i0 (.int .u8 0) 1 1 Try.underlying22 hi hz0 hz1 hz2 rfl (by decide) ao zs.length zs.length (zs.map (Value.int .u8)) hs (fun e => by rw [hnil e]; exact ⟨rfl, rfl⟩) (by simp) ?_ ⟨w.heap.size, 0, none⟩ 1 1 [.int .u8 n] hx rfl (one_cell _ _) (one_one _) (by omega) (by unfold maxLen; omega) (by omega) ?_
    · intro b hb' j u hu
      rcases hrd with rfl | ⟨b', o', e, hc⟩
      · simp at hu
      · rw [hb'] at e
        obtain rfl := Option.some.inj e
        have hj : j < zs.length := by simpa using (List.getElem?_eq_some_iff.1 hu).1
        have hcj := hc j hj
        rw [Addr.add_lit, World.cell?_alloc_lt _ _ _ (cell_lt hcj), hcj]
        rw [List.getElem?_map, List.getElem?_eq_getElem hj] at hu
        simp at hu
        rw [← hu]
        simp [List.getD, hj]
    · intro v' w' h1 h2
      refine hK v' w' (Own.lower (own_of _ h1 (by simp) (by simp)) (by simp; omega)) ?_
      exact ((Below.refl base w).alloc hb _).grown h2 (by simp; omega) (by rintro k ⟨⟩)

theorem Pushable.own {w : World} {base : Nat} {sv : Value} {zs : List Int} (h : Own w base sv zs) : Pushable w base sv zs := .inl h

/-- What AppendUint hands back. -/
def AppOut (w : World) (base : Nat) (zs : List Int) (e : Ending) (w' : World) : Prop := ∃ v', e = .returned v' ∧ Own w' base v' zs ∧ Below base w w'

theorem app_small (w : World) (base : Nat) (sv : Value) (zs : List Int) (v : Nat) (hv : v < 240) (hb : base ≤ w.heap.size) (hn : zs.length ≤ 2000000) (h : Pushable w base sv zs) :
    Calls Try.prog 7 #[sv, .int .u64 (v : Int)] w fun e w' => AppOut w base (zs ++ enc v) e w' := by
  have hv' : (v : Int) < 240 := by omega
  have H := hid h
  clear h
  go_enter Try.func7, Try.ntmps7
  go_wp2_with (at_builtin; refine wpList_push rfl _ _ rfl base sv zs rfl (v : Int) rfl H.out hn hb ?_; intro v' w1 hown hbel; have Hown := hid hown; have Hbel := hid hbel; clear hown hbel)
  go_ret
  exact ⟨v', rfl, by simpa [enc, hv] using Hown.out, Hbel.out⟩
theorem or240F : ∀ n : Fin 256, bits BinOp.or IntKind.u8 (n.val : Int) 240 = ((240 + n.val % 16 : Nat) : Int) := by decide +kernel
theorem or128F : ∀ n : Fin 256, bits BinOp.or IntKind.u8 (n.val : Int) 128 = ((128 + n.val % 128 : Nat) : Int) := by decide +kernel
theorem and127F : ∀ n : Fin 256, bits BinOp.and IntKind.u8 (n.val : Int) 127 = ((n.val % 128 : Nat) : Int) := by decide +kernel
theorem and15F : ∀ n : Fin 256, bits BinOp.and IntKind.u8 (n.val : Int) 15 = ((n.val % 16 : Nat) : Int) := by decide +kernel

theorem or240 (v : Nat) : bits BinOp.or IntKind.u8 ((v : Int) % 256) 240 = ((240 + v % 16 : Nat) : Int) := by
  have := or240F ⟨v % 256, by omega⟩
  simp only at this
  rw [show ((v % 256 : Nat) : Int) = (v : Int) % 256 by omega] at this
  rw [this]; omega
theorem or128 (v : Nat) : bits BinOp.or IntKind.u8 ((v : Int) % 256) 128 = ((128 + v % 128 : Nat) : Int) := by
  have := or128F ⟨v % 256, by omega⟩
  simp only at this
  rw [show ((v % 256 : Nat) : Int) = (v : Int) % 256 by omega] at this
  rw [this]; omega
theorem and127 (x : Nat) (h : x < 256) : bits BinOp.and IntKind.u8 (x : Int) 127 = ((x % 128 : Nat) : Int) := and127F ⟨x, h⟩
theorem and15 (x : Nat) (h : x < 256) : bits BinOp.and IntKind.u8 (x : Int) 15 = ((x % 16 : Nat) : Int) := and15F ⟨x, h⟩
end Go.Proofs.Qxb6632227a
