import Derived.Test.Qxb6632280aConcat
import Derived.Laws.BytesArg
namespace Go.Proofs.Qxb6632280a
open Go.RowKit
set_option linter.unusedVariables false

theorem prep_out (c : Int) (s : ByteArray) (w : World) (hs : s.size ≤ 9223372036854775807) (h : 1048575 < s.size) :
    Calls Try.prog 4 #[.int .u8 c, .string s] w fun e w' => e = .returned (.bool true) ∧ Grown w w' := by
  go_enter Try.func4, Try.ntmps4
  go_wp2_with fail
  refine (zz8 _ _ _ hs).mono ?_
  rintro e w1 ⟨⟨t, rfl⟩, hw1⟩
  have hw1' := hw1.symm
  subst hw1'
  clear hw1
  go_wp2
  all_goals go_ret
  all_goals exact ⟨rfl, Grown.refl _⟩

theorem prep_in (c : Int) (s : ByteArray) (w : World) (hc0 : 0 ≤ c) (hc1 : c ≤ 255) (h : s.size ≤ 1048575) :
    Calls Try.prog 4 #[.int .u8 c, .string s] w fun e w' => e = .returned (.bool true) ∧ Grown w w' := by
  have d1 : decide (1048575 < (s.size : Int)) = false := decide_eq_false (by omega)
  obtain ⟨n, rfl⟩ := Int.eq_ofNat_of_zero_le hc0
  have hcv := run_convert_bytes_arg (P := Try.prog) (w.alloc (.cells #[.int .u8 (n : Int)] 5)) 26 5 Try.underlying26 Try.underlying5 w.heap.size 0 1 1 [(n : Int)] rfl (by
    intro i hi
    obtain rfl : i = 0 := by omega
    simp [go_sem]) 9 Try.underlying9
  obtain ⟨t, ht⟩ : ∃ t, strOfNums [(n : Int)] = t := ⟨_, rfl⟩
  rw [ht] at hcv
  have htl : t.data.toList = [UInt8.ofNat n] := by rw [← ht]; simp [strOfNums]
  have hts : t.size = 1 := by
    have : t.data.toList.length = 1 := by rw [htl]; rfl
    simpa using this
  have hto : ((UInt8.ofNat n).toNat : Int) = (n : Int) := by
    rw [UInt8.toNat_ofNat']
    omega
  obtain ⟨z, hz⟩ : ∃ z, t ++ s = z := ⟨_, rfl⟩
  have hzl : z.data.toList = UInt8.ofNat n :: s.data.toList := by rw [← hz]; simp [htl]
  have hzs : z.size = 1 + s.size := by rw [← hz]; simp [hts]
  have hld : ld z.data.toList = if digB (UInt8.ofNat n) then ld s.data.toList + 1 else 0 := by rw [hzl]; rfl
  have hle := ld_le s.data.toList
  rw [show s.data.toList.length = s.size by simp] at hle
  have Hz := hid hz
  have Hld := hid hld
  have Hto := hid hto
  have Hzs := hid hzs
  have hts' : t.size ≤ 1 := by omega
  clear ht htl hts hto hz hzl hzs hld hc0
  go_enter Try.func4, Try.ntmps4
  go_wp2_with fail
  refine (zz8 _ _ _ (by omega)).mono ?_
  rintro e w1 ⟨⟨b, rfl⟩, hw1⟩
  have hw1' := hw1.symm
  subst hw1'
  clear hw1
  cases b
  · go_wp2
    go_ret
    exact ⟨rfl, Grown.refl _⟩
  go_wp2_with fail
  rw [Hz.out]
  refine (lead_any z _ (by rw [Hzs.out]; omega)).mono ?_
  rintro e w1 ⟨rfl, hw1⟩
  have hw1' := hw1.symm
  subst hw1'
  clear hw1 hcv
  go_wp2_with fail
  refine (lead_any s _ (by omega)).mono ?_
  rintro e w1 ⟨rfl, hw1⟩
  have hw1' := hw1.symm
  subst hw1'
  clear hw1
  generalize ld s.data.toList = rs at *
  generalize ld z.data.toList = r at *
  go_wp2_with fail
  refine (dig_any _ _).mono ?_
  rintro e w1 ⟨rfl, hw1⟩
  have hw1' := hw1.symm
  subst hw1'
  clear hw1
  have hd : digB (UInt8.ofNat n) = (decide (48 ≤ (n : Int)) && decide ((n : Int) ≤ 57)) := by unfold digB; rw [Hto.out]
  have hr := Hld.out
  rw [hd] at hr
  clear hd
  cases hb : (decide (48 ≤ (n : Int)) && decide ((n : Int) ≤ 57))
  · rw [hb] at hr
    simp only [Bool.false_eq_true, if_false] at hr
    subst hr
    go_wp2
    go_ret
    exact ⟨rfl, (Grown.refl _).alloc _ _⟩
  · rw [hb] at hr
    simp only [if_true] at hr
    subst hr
    go_wp2
    go_ret
    exact ⟨by simp, (Grown.refl _).alloc _ _⟩

theorem prep_any (c : Int) (s : ByteArray) (w : World) (hc0 : 0 ≤ c) (hc1 : c ≤ 255) (hs : s.size ≤ 9223372036854775807) :
    Calls Try.prog 4 #[.int .u8 c, .string s] w fun e w' => e = .returned (.bool true) ∧ Grown w w' := by
  by_cases h : s.size ≤ 1048575
  · exact prep_in c s w hc0 hc1 h
  · exact prep_out c s w hs (by omega)
end Go.Proofs.Qxb6632280a
