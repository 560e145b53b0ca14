import Derived.Test.Qxb6631315aRow
import Derived.Test.Qxb6631315aCalls
namespace Go.Proofs.Qxb6631315a
open Go.RowKit
set_option linter.unusedSimpArgs false
set_option linter.unusedVariables false

def hitOf (ID : Nat → ByteArray) (id : ByteArray) (i : Nat) : Bool := (ID i).toList == id.toList

/-- What (*Config).Client answers: the first client that is hit, or the zero client. -/
def Found (n : Nat) (ID : Nat → ByteArray) (A : Nat → Option Addr) (L C : Nat → Nat) (R : Nat → Option Addr) (id s : ByteArray) (a : Option Addr) (l c : Nat) (p : Option Addr) (ok : Bool) : Prop :=
  (∃ k, FirstAt (hitOf ID id) n k ∧ s = ID k ∧ a = A k ∧ l = L k ∧ c = C k ∧ p = R k ∧ ok = true) ∨ (NoneAt (hitOf ID id) n ∧ s = ⟨#[]⟩ ∧ a = none ∧ l = 0 ∧ c = 0 ∧ p = none ∧ ok = false)

def ClientOut (n : Nat) (ID : Nat → ByteArray) (A : Nat → Option Addr) (L C : Nat → Nat) (R : Nat → Option Addr) (id : ByteArray) (e : Ending) : Prop :=
  ∃ (s : ByteArray) (a : Option Addr) (l c : Nat) (p : Option Addr) (ok : Bool), e = .returned (.tuple #[.agg #[.string s, .slice a l c, .pointer p], .bool ok]) ∧ Found n ID A L C R id s a l c p ok

theorem client_at (w : World) (cb B o n c : Nat) (ID : Nat → ByteArray) (A : Nat → Option Addr) (L C : Nat → Nat) (R : Nat → Option Addr) (id : ByteArray) (hn : n ≤ 9223372036854775807)
    (hs : w.cell? ⟨cb, 14, none⟩ = some (.slice (some ⟨B, o, none⟩) n c)) (h0 : RowAt w B o n ID A L C R) :
    Calls Try.prog 8 #[.pointer (some ⟨cb, 0, none⟩), .string id] w fun e w' => ClientOut n ID A L C R id e ∧ Below w.heap.size w w' := by
  refine (client_any w cb B o n c ID A L C R id hn hs h0).mono ?_
  rintro e w' ⟨h | h, hb⟩
  · obtain ⟨k, h1, h2, h3, rfl⟩ := h
    exact ⟨⟨_, _, _, _, _, _, rfl, .inl ⟨k, ⟨h1, h2, h3⟩, rfl, rfl, rfl, rfl, rfl, rfl⟩⟩, hb⟩
  · obtain ⟨h1, rfl⟩ := h
    exact ⟨⟨_, _, _, _, _, _, rfl, .inr ⟨h1, rfl, rfl, rfl, rfl, rfl, rfl⟩⟩, hb⟩

theorem hit_put (p : Nat) (xs : ByteArray) (ID : Nat → ByteArray) (id : ByteArray) : hitOf (put p xs ID) id = put p (xs.toList == id.toList) (hitOf ID id) := by
  funext i
  simp only [hitOf, put]
  split
  · rfl
  · split <;> rfl

theorem roles_zero (w : World) (a : Option Addr) : RolesOk w a 0 := ⟨by omega, .inl rfl⟩

theorem Found.roles {w : World} {n : Nat} {ID : Nat → ByteArray} {A : Nat → Option Addr} {L C : Nat → Nat} {R : Nat → Option Addr} {id s : ByteArray} {a : Option Addr} {l c : Nat} {p : Option Addr} {ok : Bool}
    (h : Found n ID A L C R id s a l c p ok) (hr : ∀ i, i < n → RolesOk w (A i) (L i)) : RolesOk w a l := by
  rcases h with ⟨k, hk, rfl, rfl, rfl, _⟩ | ⟨_, _, rfl, rfl, _⟩
  · exact hr k hk.1
  · exact roles_zero w none

theorem Found.any {n : Nat} {ID : Nat → ByteArray} {A : Nat → Option Addr} {L C : Nat → Nat} {R : Nat → Option Addr} {id s : ByteArray} {a : Option Addr} {l c : Nat} {p : Option Addr} {ok : Bool}
    (h : Found n ID A L C R id s a l c p ok) : ok = anyB (hitOf ID id) n := by
  rcases h with ⟨k, hk, _, _, _, _, _, rfl⟩ | ⟨hn, _, _, _, _, _, rfl⟩
  · exact (anyB_true hk.1 hk.2.1).symm
  · exact (anyB_false hn).symm

theorem anyB_put {hit : Nat → Bool} {n p : Nat} {x : Bool} (hp : p ≤ n) : anyB (put p x hit) (n + 1) = (anyB hit n || x) := by
  cases h : (anyB hit n || x)
  · simp only [Bool.or_eq_false_iff] at h
    obtain ⟨h1, rfl⟩ := h
    refine anyB_false (none_put hp fun i hi => ?_)
    cases e : hit i
    · rfl
    · rw [anyB_true hi e] at h1; cases h1
  · simp only [Bool.or_eq_true] at h
    rcases h with h | rfl
    · by_cases e : ∃ i, i < n ∧ hit i = true
      · obtain ⟨i, hi, e⟩ := e
        by_cases hip : i < p
        · exact anyB_true (i := i) (by omega) (by simp [put, hip, e])
        · exact anyB_true (i := i + 1) (by omega) (by rw [put, if_neg (by omega), if_neg (by omega)]; simpa using e)
      · have hz : ∀ i, i < n → hit i = false := fun i hi => by
          cases e' : hit i
          · rfl
          · exact absurd ⟨i, hi, e'⟩ e
        rw [anyB_false hz] at h
        cases h
    · exact anyB_true (i := p) (by omega) (by simp [put])

theorem anyB_succ_t {hit : Nat → Bool} {k : Nat} (h : hit k = true) : anyB hit (k + 1) = true := by simp [anyB, h]
theorem anyB_succ_f {hit : Nat → Bool} {k : Nat} (h : hit k = false) : anyB hit (k + 1) = anyB hit k := by simp [anyB, h]
theorem anyB_min_t {hit : Nat → Bool} {k p : Nat} (h : hit k = true) (hk : k < p) : anyB hit (min (k + 1) p) = true := by rw [Nat.min_eq_left hk]; exact anyB_succ_t h
theorem anyB_min_f {hit : Nat → Bool} {k p : Nat} (h : hit k = false ∨ ¬ k < p) : anyB hit (min (k + 1) p) = anyB hit (min k p) := by
  by_cases hk : k < p
  · rw [Nat.min_eq_left hk, Nat.min_eq_left (by omega)]
    exact anyB_succ_f (h.resolve_right (fun n => n hk))
  · rw [Nat.min_eq_right (by omega), Nat.min_eq_right (by omega)]

theorem ClientsOk.idCell {w : World} {b o n : Nat} {ID : Nat → ByteArray} {A : Nat → Option Addr} {L C : Nat → Nat} {R : Nat → Option Addr} (h : ClientsOk w (some ⟨b, o, none⟩) n ID A L C R) {i : Nat} (hi : i < n) : w.cell? ⟨b, o + i * 3, none⟩ = some (.string (ID i)) := by
  rcases h.2 with h0 | ⟨b', o', e, hc⟩
  · omega
  · simp only [Option.some.injEq, Addr.mk.injEq, and_true] at e
    obtain ⟨rfl, rfl⟩ := e
    exact (hc i hi).1

theorem put_trip_fun (p : Nat) (s : ByteArray) (a : Option Addr) (l c : Nat) (r : Option Addr) (ID : Nat → ByteArray) (A : Nat → Option Addr) (L C : Nat → Nat) (R : Nat → Option Addr) :
    put p (trip s a l c r) (fun i => trip (ID i) (A i) (L i) (C i) (R i)) = fun i => trip (put p s ID i) (put p a A i) (put p l L i) (put p c C i) (put p r R i) := funext (put_trip p s a l c r ID A L C R)

/-- THE PLAIN LAW: one client put in at place p: what the look-up answers behind it. -/
theorem found_put {n p : Nat} (hp : p ≤ n) {ID : Nat → ByteArray} {A : Nat → Option Addr} {L C : Nat → Nat} {R : Nat → Option Addr} {xs : ByteArray} {xa : Option Addr} {xl xc : Nat} {xp : Option Addr} {id sb : ByteArray} {ab : Option Addr} {lb cb : Nat} {pb : Option Addr} {bok : Bool}
    {sa : ByteArray} {aa : Option Addr} {la ca : Nat} {pa : Option Addr} {aok : Bool}
    (hb : Found n ID A L C R id sb ab lb cb pb bok) (ha : Found (n + 1) (put p xs ID) (put p xa A) (put p xl L) (put p xc C) (put p xp R) id sa aa la ca pa aok) :
    bok = anyB (hitOf ID id) n ∧ aok = (anyB (hitOf ID id) n || (xs.toList == id.toList)) ∧
    ((xs.toList == id.toList) = true → anyB (hitOf ID id) p = false → sa = xs ∧ aa = xa ∧ la = xl ∧ ca = xc ∧ pa = xp) ∧
    ((xs.toList == id.toList) = true → anyB (hitOf ID id) p = true → sa = sb ∧ aa = ab ∧ la = lb ∧ ca = cb ∧ pa = pb) ∧
    ((xs.toList == id.toList) = false → sa = sb ∧ aa = ab ∧ la = lb ∧ ca = cb ∧ pa = pb) := by
  refine ⟨hb.any, ?_, ?_, ?_, ?_⟩
  · rw [ha.any, hit_put, anyB_put hp]
  · intro hx hpre
    have hf : FirstAt (hitOf (put p xs ID) id) (n + 1) p := by
      rw [hit_put, hx]
      refine first_put_at hp fun i hi => ?_
      cases e : hitOf ID id i
      · rfl
      · rw [anyB_true hi e] at hpre; cases hpre
    rcases ha with ⟨k, hk, rfl, rfl, rfl, rfl, rfl, rfl⟩ | ⟨hn, _⟩
    · obtain rfl := hk.unique hf
      simp [put]
    · exact (hf.not_none hn).elim
  · intro hx hpre
    rcases hb with ⟨k, hk, rfl, rfl, rfl, rfl, rfl, rfl⟩ | ⟨hn, _⟩
    · have hkp : k < p := by
        by_cases h : k < p
        · exact h
        · rw [anyB_false (fun i hi => hk.2.2 i (by omega))] at hpre; cases hpre
      have hf : FirstAt (hitOf (put p xs ID) id) (n + 1) k := by rw [hit_put]; exact first_put_before hk hkp
      rcases ha with ⟨k', hk', rfl, rfl, rfl, rfl, rfl, rfl⟩ | ⟨hn, _⟩
      · obtain rfl := hk'.unique hf
        simp [put, hkp]
      · exact (hf.not_none hn).elim
    · rw [anyB_false (fun i hi => hn i (by omega))] at hpre; cases hpre
  · intro hx
    rcases hb with ⟨k, hk, rfl, rfl, rfl, rfl, rfl, rfl⟩ | ⟨hn, rfl, rfl, rfl, rfl, rfl, rfl⟩
    · by_cases hkp : k < p
      · have hf : FirstAt (hitOf (put p xs ID) id) (n + 1) k := by rw [hit_put]; exact first_put_before hk hkp
        rcases ha with ⟨k', hk', rfl, rfl, rfl, rfl, rfl, rfl⟩ | ⟨hn, _⟩
        · obtain rfl := hk'.unique hf
          simp [put, hkp]
        · exact (hf.not_none hn).elim
      · have hf : FirstAt (hitOf (put p xs ID) id) (n + 1) (k + 1) := by rw [hit_put, hx]; exact first_put_behind hk (by omega)
        rcases ha with ⟨k', hk', rfl, rfl, rfl, rfl, rfl, rfl⟩ | ⟨hn, _⟩
        · obtain rfl := hk'.unique hf
          have e1 : ¬ k + 1 < p := by omega
          have e2 : ¬ k + 1 = p := by omega
          simp [put, e1, e2]
        · exact (hf.not_none hn).elim
    · have hno : NoneAt (hitOf (put p xs ID) id) (n + 1) := by rw [hit_put, hx]; exact none_put hp hn
      rcases ha with ⟨k', hk', _⟩ | ⟨_, rfl, rfl, rfl, rfl, rfl, rfl⟩
      · exact (hk'.not_none hno).elim
      · simp
end Go.Proofs.Qxb6631315a
