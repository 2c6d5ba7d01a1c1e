/-
  THE PLAIN LAW of the automaton's loop: what state, point, mark and expFrom say of the bytes read so far. No Go in sight.
-/
import Derived.Test.Qxb6602706aModsExpPlain
namespace Go.Proofs.Qxb6602706aMods.Rd
open Dig

/-- The bytes from a up to b. -/
def seg (l : List UInt8) (a b : Nat) : List UInt8 := (l.drop a).take (b - a)
theorem seg_self (l : List UInt8) (a : Nat) : seg l a a = [] := by simp [seg]
theorem seg_snoc (l : List UInt8) (a i : Nat) (ha : a ≤ i) (hi : i < l.length) : seg l a (i + 1) = seg l a i ++ [l[i]] := by
  unfold seg
  rw [show i + 1 - a = (i - a) + 1 by omega, List.take_succ_eq_append_getElem (by simp; omega), List.getElem_drop]
  congr 2
  simp [show a + (i - a) = i by omega]
theorem seg_one (l : List UInt8) (i : Nat) (hi : i < l.length) : seg l i (i + 1) = [l[i]] := by rw [seg_snoc l i i (Nat.le_refl _) hi, seg_self]; rfl
theorem seg_end (l : List UInt8) (a : Nat) : seg l a l.length = l.drop a := List.take_of_length_le (by simp)
theorem seg_ne (l : List UInt8) (a b : Nat) (h : a < b) (hb : b ≤ l.length) : seg l a b ≠ [] := fun e => by
  have := congrArg List.length e
  simp [seg] at this
  omega
theorem drop_at (l : List UInt8) (i : Nat) (hi : i < l.length) : l.drop i = l[i] :: l.drop (i + 1) := List.drop_eq_getElem_cons hi

/-- The automaton's step, as the code writes it. -/
def nextOf (st : Int) (c : Nat) : Int :=
  if 48 ≤ c ∧ c ≤ 57 then (if st = 0 ∨ st = 2 then 2 else if st = 3 ∨ st = 4 ∨ st = 5 then 5 else 8)
  else if c = 46 then (if st = 0 then 4 else if st = 2 then 3 else -1)
  else if c = 101 ∨ c = 69 then (if st = 2 ∨ st = 3 ∨ st = 5 then 6 else -1)
  else if c = 43 ∨ c = 45 then (if st = 6 then 7 else -1)
  else -1

theorem nextOf_range (st : Int) (c : Nat) : nextOf st c = -1 ∨ nextOf st c = 2 ∨ nextOf st c = 3 ∨ nextOf st c = 4 ∨ nextOf st c = 5 ∨ nextOf st c = 6 ∨ nextOf st c = 7 ∨ nextOf st c = 8 := by
  unfold nextOf
  repeat' split
  all_goals simp

/-- The mantissa's two parts, by the point's place (or -1) and the mark's. -/
def Parts (l : List UInt8) (a : Nat) (pt : Int) (m : Nat) (wh fr : List UInt8) : Prop :=
  (pt = -1 ∧ a < m ∧ wh = seg l a m ∧ fr = []) ∨ ∃ p : Nat, pt = p ∧ a ≤ p ∧ p < m ∧ wh = seg l a p ∧ fr = seg l (p + 1) m

/-- What holds behind the bytes up to i: t is the answer that the rest will give. -/
def Inv (l : List UInt8) (neg : Bool) (a : Nat) (t : Res) (i : Nat) (st pt mk ef : Int) : Prop :=
  (st = 0 ∧ i = a ∧ pt = -1 ∧ mk = -1 ∧ ef = -1 ∧ f0 neg (l.drop i) = t) ∨
  (st = 2 ∧ a < i ∧ pt = -1 ∧ mk = -1 ∧ ef = -1 ∧ f2 neg (seg l a i) (l.drop i) = t) ∨
  (st = 3 ∧ ∃ p : Nat, a < p ∧ i = p + 1 ∧ pt = p ∧ mk = -1 ∧ ef = -1 ∧ f5 neg (seg l a p) (seg l (p + 1) i) (l.drop i) = t) ∨
  (st = 4 ∧ i = a + 1 ∧ pt = a ∧ mk = -1 ∧ ef = -1 ∧ f5 neg (seg l a a) (seg l (a + 1) i) (l.drop i) = t) ∨
  (st = 5 ∧ ∃ p : Nat, a ≤ p ∧ p + 1 < i ∧ pt = p ∧ mk = -1 ∧ ef = -1 ∧ f5 neg (seg l a p) (seg l (p + 1) i) (l.drop i) = t) ∨
  (st = 6 ∧ ∃ (m : Nat) (wh fr : List UInt8), i = m + 1 ∧ mk = m ∧ ef = -1 ∧ Parts l a pt m wh fr ∧ f6 neg wh fr (l.drop i) = t) ∨
  (st = 7 ∧ ∃ (m : Nat) (wh fr : List UInt8) (c : UInt8), i = m + 2 ∧ mk = m ∧ ef = -1 ∧ Parts l a pt m wh fr ∧ l[m + 1]? = some c ∧ f7 neg wh fr (decide (c.toNat = 45)) (l.drop i) = t) ∨
  (st = 8 ∧ ∃ (m e : Nat) (wh fr : List UInt8) (c : UInt8), m < e ∧ e < i ∧ mk = m ∧ ef = e ∧ Parts l a pt m wh fr ∧ l[m + 1]? = some c ∧ (∀ d ∈ seg l e i, dig d = true) ∧ f8 neg wh fr (decide (c.toNat = 45)) (seg l e i) (l.drop i) = t)

theorem Inv.start (l : List UInt8) (neg : Bool) (a : Nat) : Inv l neg a (f0 neg (l.drop a)) a 0 (-1) (-1) (-1) := Or.inl ⟨rfl, rfl, rfl, rfl, rfl, rfl⟩

/-- The five kinds of a byte. -/
theorem kinds (c : UInt8) : (dig c = true ∧ 48 ≤ c.toNat ∧ c.toNat ≤ 57) ∨ (dig c = false ∧ c.toNat = 46) ∨ (dig c = false ∧ (c.toNat = 101 ∨ c.toNat = 69)) ∨ (dig c = false ∧ (c.toNat = 43 ∨ c.toNat = 45)) ∨
    (dig c = false ∧ ¬ (48 ≤ c.toNat ∧ c.toNat ≤ 57) ∧ ¬ c.toNat = 46 ∧ ¬ (c.toNat = 101 ∨ c.toNat = 69) ∧ ¬ (c.toNat = 43 ∨ c.toNat = 45)) := by
  by_cases h1 : 48 ≤ c.toNat ∧ c.toNat ≤ 57
  · exact Or.inl ⟨(dig_iff c).2 h1, h1⟩
  · have hd := not_dig h1
    by_cases h2 : c.toNat = 46
    · exact Or.inr (Or.inl ⟨hd, h2⟩)
    · by_cases h3 : c.toNat = 101 ∨ c.toNat = 69
      · exact Or.inr (Or.inr (Or.inl ⟨hd, h3⟩))
      · by_cases h4 : c.toNat = 43 ∨ c.toNat = 45
        · exact Or.inr (Or.inr (Or.inr (Or.inl ⟨hd, h4⟩)))
        · exact Or.inr (Or.inr (Or.inr (Or.inr ⟨hd, h1, h2, h3, h4⟩)))

theorem next_dig {st : Int} {c : Nat} (h : 48 ≤ c ∧ c ≤ 57) : nextOf st c = if st = 0 ∨ st = 2 then 2 else if st = 3 ∨ st = 4 ∨ st = 5 then 5 else 8 := by
  unfold nextOf; rw [if_pos h]
theorem next_dot {st : Int} {c : Nat} (h : c = 46) : nextOf st c = if st = 0 then 4 else if st = 2 then 3 else -1 := by
  unfold nextOf; rw [if_neg (by omega), if_pos h]
theorem next_e {st : Int} {c : Nat} (h : c = 101 ∨ c = 69) : nextOf st c = if st = 2 ∨ st = 3 ∨ st = 5 then 6 else -1 := by
  unfold nextOf; rw [if_neg (by omega), if_neg (by omega), if_pos h]
theorem next_sign {st : Int} {c : Nat} (h : c = 43 ∨ c = 45) : nextOf st c = if st = 6 then 7 else -1 := by
  unfold nextOf; rw [if_neg (by omega), if_neg (by omega), if_neg (by omega), if_pos h]
theorem next_other {st : Int} {c : Nat} (h1 : ¬ (48 ≤ c ∧ c ≤ 57)) (h2 : ¬ c = 46) (h3 : ¬ (c = 101 ∨ c = 69)) (h4 : ¬ (c = 43 ∨ c = 45)) : nextOf st c = -1 := by
  unfold nextOf; rw [if_neg h1, if_neg h2, if_neg h3, if_neg h4]

/-- What a step makes of the invariant: dead, and the answer is 'no'; or the invariant one byte on. -/
def Step (l : List UInt8) (neg : Bool) (a : Nat) (t : Res) (i : Nat) (st pt mk ef nx : Int) : Prop :=
  (nx = -1 ∧ t = no) ∨ (0 ≤ nx ∧ Inv l neg a t (i + 1) nx (if nx = 3 ∨ nx = 4 then (i : Int) else pt) (if nx = 6 then (i : Int) else mk) (if nx = 8 ∧ st ≠ 8 then (i : Int) else ef))

theorem step0 {l : List UInt8} {neg : Bool} {a : Nat} {t : Res} {i : Nat} (hi : i < l.length) (h0 : i = a) (h : f0 neg (l.drop i) = t) : Step l neg a t i 0 (-1) (-1) (-1) (nextOf 0 l[i].toNat) := by
  rw [drop_at l i hi, f0] at h
  rcases kinds l[i] with ⟨hd, k⟩ | ⟨hd, k⟩ | ⟨hd, k⟩ | ⟨hd, k⟩ | ⟨hd, k1, k2, k3, k4⟩
  · rw [next_dig k]
    rw [if_pos hd] at h
    exact Or.inr ⟨by decide, Or.inr (Or.inl ⟨rfl, by omega, rfl, rfl, rfl, by rw [← h0, seg_one l i hi]; exact h⟩)⟩
  · rw [next_dot k]
    rw [hd, if_neg (by simp), if_pos k] at h
    exact Or.inr ⟨by decide, Or.inr (Or.inr (Or.inr (Or.inl ⟨rfl, by omega, by rw [← h0]; rfl, rfl, rfl, by rw [← h0, seg_self, seg_self]; exact h⟩)))⟩
  · rw [next_e k]
    rw [hd, if_neg (by simp), if_neg (by omega)] at h
    exact Or.inl ⟨rfl, h.symm⟩
  · rw [next_sign k]
    rw [hd, if_neg (by simp), if_neg (by omega)] at h
    exact Or.inl ⟨rfl, h.symm⟩
  · rw [next_other k1 k2 k3 k4]
    rw [hd, if_neg (by simp), if_neg k2] at h
    exact Or.inl ⟨rfl, h.symm⟩

theorem step2 {l : List UInt8} {neg : Bool} {a : Nat} {t : Res} {i : Nat} (hi : i < l.length) (h0 : a < i) (h : f2 neg (seg l a i) (l.drop i) = t) : Step l neg a t i 2 (-1) (-1) (-1) (nextOf 2 l[i].toNat) := by
  rw [drop_at l i hi, f2] at h
  rcases kinds l[i] with ⟨hd, k⟩ | ⟨hd, k⟩ | ⟨hd, k⟩ | ⟨hd, k⟩ | ⟨hd, k1, k2, k3, k4⟩
  · rw [next_dig k]
    rw [if_pos hd] at h
    exact Or.inr ⟨by decide, Or.inr (Or.inl ⟨rfl, by omega, rfl, rfl, rfl, by rw [seg_snoc l a i (by omega) hi]; exact h⟩)⟩
  · rw [next_dot k]
    rw [hd, if_neg (by simp), if_pos k] at h
    exact Or.inr ⟨by decide, Or.inr (Or.inr (Or.inl ⟨rfl, i, h0, rfl, rfl, rfl, rfl, by rw [seg_self]; exact h⟩))⟩
  · rw [next_e k]
    rw [hd, if_neg (by simp), if_neg (by omega), if_pos k] at h
    exact Or.inr ⟨by decide, Or.inr (Or.inr (Or.inr (Or.inr (Or.inr (Or.inl ⟨rfl, i, _, _, rfl, rfl, rfl, Or.inl ⟨rfl, h0, rfl, rfl⟩, h⟩)))))⟩
  · rw [next_sign k]
    rw [hd, if_neg (by simp), if_neg (by omega), if_neg (by omega)] at h
    exact Or.inl ⟨rfl, h.symm⟩
  · rw [next_other k1 k2 k3 k4]
    rw [hd, if_neg (by simp), if_neg k2, if_neg k3] at h
    exact Or.inl ⟨rfl, h.symm⟩

/-- The states 3 and 5: at least one digit stands. -/
theorem step5 {l : List UInt8} {neg : Bool} {a : Nat} {t : Res} {i p : Nat} {st : Int} (hs : st = 3 ∨ st = 5) (hi : i < l.length) (hp : a ≤ p) (hpi : p < i) (hne : a < p ∨ p + 1 < i) (h : f5 neg (seg l a p) (seg l (p + 1) i) (l.drop i) = t) :
    Step l neg a t i st p (-1) (-1) (nextOf st l[i].toNat) := by
  have hn : ¬ (seg l a p = [] ∧ seg l (p + 1) i = []) := fun hh => by
    rcases hne with hne | hne
    · exact seg_ne l a p hne (by omega) hh.1
    · exact seg_ne l (p + 1) i hne (by omega) hh.2
  rw [drop_at l i hi, f5] at h
  rcases kinds l[i] with ⟨hd, k⟩ | ⟨hd, k⟩ | ⟨hd, k⟩ | ⟨hd, k⟩ | ⟨hd, k1, k2, k3, k4⟩
  · rw [next_dig k, if_neg (by omega), if_pos (by omega)]
    rw [if_pos hd] at h
    exact Or.inr ⟨by decide, Or.inr (Or.inr (Or.inr (Or.inr (Or.inl ⟨rfl, p, hp, by omega, rfl, rfl, rfl, by rw [seg_snoc l (p + 1) i (by omega) hi]; exact h⟩))))⟩
  · rw [next_dot k, if_neg (by omega), if_neg (by omega)]
    rw [hd, if_neg (by simp), if_neg (fun hh => by omega)] at h
    exact Or.inl ⟨rfl, h.symm⟩
  · rw [next_e k, if_pos (by omega)]
    rw [hd, if_neg (by simp), if_pos ⟨k, hn⟩] at h
    exact Or.inr ⟨by decide, Or.inr (Or.inr (Or.inr (Or.inr (Or.inr (Or.inl ⟨rfl, i, _, _, rfl, rfl, rfl, Or.inr ⟨p, rfl, hp, hpi, rfl, rfl⟩, h⟩)))))⟩
  · rw [next_sign k, if_neg (by omega)]
    rw [hd, if_neg (by simp), if_neg (fun hh => by omega)] at h
    exact Or.inl ⟨rfl, h.symm⟩
  · rw [next_other k1 k2 k3 k4]
    rw [hd, if_neg (by simp), if_neg (fun hh => k3 hh.1)] at h
    exact Or.inl ⟨rfl, h.symm⟩

theorem step4 {l : List UInt8} {neg : Bool} {a : Nat} {t : Res} {i : Nat} (hi : i < l.length) (h0 : i = a + 1) (h : f5 neg (seg l a a) (seg l (a + 1) i) (l.drop i) = t) : Step l neg a t i 4 a (-1) (-1) (nextOf 4 l[i].toNat) := by
  rw [drop_at l i hi, f5] at h
  rcases kinds l[i] with ⟨hd, k⟩ | ⟨hd, k⟩ | ⟨hd, k⟩ | ⟨hd, k⟩ | ⟨hd, k1, k2, k3, k4⟩
  · rw [next_dig k]
    rw [if_pos hd] at h
    exact Or.inr ⟨by decide, Or.inr (Or.inr (Or.inr (Or.inr (Or.inl ⟨rfl, a, Nat.le_refl _, by omega, rfl, rfl, rfl, by rw [seg_snoc l (a + 1) i (by omega) hi]; exact h⟩))))⟩
  · rw [next_dot k]
    rw [hd, if_neg (by simp), if_neg (fun hh => by omega)] at h
    exact Or.inl ⟨rfl, h.symm⟩
  · rw [next_e k]
    rw [hd, if_neg (by simp), if_neg (fun hh => hh.2 ⟨seg_self l a, by rw [h0, seg_self]⟩)] at h
    exact Or.inl ⟨rfl, h.symm⟩
  · rw [next_sign k]
    rw [hd, if_neg (by simp), if_neg (fun hh => by omega)] at h
    exact Or.inl ⟨rfl, h.symm⟩
  · rw [next_other k1 k2 k3 k4]
    rw [hd, if_neg (by simp), if_neg (fun hh => k3 hh.1)] at h
    exact Or.inl ⟨rfl, h.symm⟩

theorem seg_one_dig {l : List UInt8} {i : Nat} (hi : i < l.length) (hd : dig l[i] = true) : ∀ d ∈ seg l i (i + 1), dig d = true := fun d h => by
  rw [seg_one l i hi, List.mem_singleton] at h
  rw [h]; exact hd

theorem step6 {l : List UInt8} {neg : Bool} {a : Nat} {t : Res} {i m : Nat} {pt : Int} {wh fr : List UInt8} (hi : i < l.length) (h0 : i = m + 1) (hP : Parts l a pt m wh fr) (h : f6 neg wh fr (l.drop i) = t) :
    Step l neg a t i 6 pt m (-1) (nextOf 6 l[i].toNat) := by
  rw [drop_at l i hi, f6] at h
  have hc : l[m + 1]? = some l[i] := by subst h0; exact List.getElem?_eq_getElem hi
  rcases kinds l[i] with ⟨hd, k⟩ | ⟨hd, k⟩ | ⟨hd, k⟩ | ⟨hd, k⟩ | ⟨hd, k1, k2, k3, k4⟩
  · rw [next_dig k]
    rw [if_pos hd] at h
    have e : decide (l[i].toNat = 45) = false := decide_eq_false (by omega)
    exact Or.inr ⟨by decide, Or.inr (Or.inr (Or.inr (Or.inr (Or.inr (Or.inr (Or.inr ⟨rfl, m, i, wh, fr, l[i], by omega, by omega, rfl, rfl, hP, hc, seg_one_dig hi hd, by rw [e, seg_one l i hi]; exact h⟩))))))⟩
  · rw [next_dot k]
    rw [hd, if_neg (by simp), if_neg (by omega)] at h
    exact Or.inl ⟨rfl, h.symm⟩
  · rw [next_e k]
    rw [hd, if_neg (by simp), if_neg (by omega)] at h
    exact Or.inl ⟨rfl, h.symm⟩
  · rw [next_sign k]
    rw [hd, if_neg (by simp), if_pos k] at h
    exact Or.inr ⟨by decide, Or.inr (Or.inr (Or.inr (Or.inr (Or.inr (Or.inr (Or.inl ⟨rfl, m, wh, fr, l[i], by omega, rfl, rfl, hP, hc, h⟩))))))⟩
  · rw [next_other k1 k2 k3 k4]
    rw [hd, if_neg (by simp), if_neg k4] at h
    exact Or.inl ⟨rfl, h.symm⟩

theorem step7 {l : List UInt8} {neg : Bool} {a : Nat} {t : Res} {i m : Nat} {pt : Int} {wh fr : List UInt8} {c : UInt8} (hi : i < l.length) (h0 : i = m + 2) (hP : Parts l a pt m wh fr) (hc : l[m + 1]? = some c) (h : f7 neg wh fr (decide (c.toNat = 45)) (l.drop i) = t) :
    Step l neg a t i 7 pt m (-1) (nextOf 7 l[i].toNat) := by
  rw [drop_at l i hi, f7] at h
  rcases kinds l[i] with ⟨hd, k⟩ | ⟨hd, k⟩ | ⟨hd, k⟩ | ⟨hd, k⟩ | ⟨hd, k1, k2, k3, k4⟩
  · rw [next_dig k]
    rw [if_pos hd] at h
    exact Or.inr ⟨by decide, Or.inr (Or.inr (Or.inr (Or.inr (Or.inr (Or.inr (Or.inr ⟨rfl, m, i, wh, fr, c, by omega, by omega, rfl, rfl, hP, hc, seg_one_dig hi hd, by rw [seg_one l i hi]; exact h⟩))))))⟩
  · rw [next_dot k]
    rw [hd, if_neg (by simp)] at h
    exact Or.inl ⟨rfl, h.symm⟩
  · rw [next_e k]
    rw [hd, if_neg (by simp)] at h
    exact Or.inl ⟨rfl, h.symm⟩
  · rw [next_sign k]
    rw [hd, if_neg (by simp)] at h
    exact Or.inl ⟨rfl, h.symm⟩
  · rw [next_other k1 k2 k3 k4]
    rw [hd, if_neg (by simp)] at h
    exact Or.inl ⟨rfl, h.symm⟩

theorem step8 {l : List UInt8} {neg : Bool} {a : Nat} {t : Res} {i m e : Nat} {pt : Int} {wh fr : List UInt8} {c : UInt8} (hi : i < l.length) (hme : m < e) (hei : e < i) (hP : Parts l a pt m wh fr) (hc : l[m + 1]? = some c)
    (hdg : ∀ d ∈ seg l e i, dig d = true) (h : f8 neg wh fr (decide (c.toNat = 45)) (seg l e i) (l.drop i) = t) : Step l neg a t i 8 pt m e (nextOf 8 l[i].toNat) := by
  rw [drop_at l i hi, f8] at h
  rcases kinds l[i] with ⟨hd, k⟩ | ⟨hd, k⟩ | ⟨hd, k⟩ | ⟨hd, k⟩ | ⟨hd, k1, k2, k3, k4⟩
  · rw [next_dig k]
    rw [if_pos hd] at h
    refine Or.inr ⟨by decide, Or.inr (Or.inr (Or.inr (Or.inr (Or.inr (Or.inr (Or.inr ⟨rfl, m, e, wh, fr, c, hme, by omega, rfl, rfl, hP, hc, ?_, by rw [seg_snoc l e i (by omega) hi]; exact h⟩))))))⟩
    intro d hdm
    rw [seg_snoc l e i (by omega) hi, List.mem_append, List.mem_singleton] at hdm
    rcases hdm with hdm | rfl
    · exact hdg d hdm
    · exact hd
  · rw [next_dot k]
    rw [hd, if_neg (by simp)] at h
    exact Or.inl ⟨rfl, h.symm⟩
  · rw [next_e k]
    rw [hd, if_neg (by simp)] at h
    exact Or.inl ⟨rfl, h.symm⟩
  · rw [next_sign k]
    rw [hd, if_neg (by simp)] at h
    exact Or.inl ⟨rfl, h.symm⟩
  · rw [next_other k1 k2 k3 k4]
    rw [hd, if_neg (by simp)] at h
    exact Or.inl ⟨rfl, h.symm⟩

theorem Inv.step {l : List UInt8} {neg : Bool} {a : Nat} {t : Res} {i : Nat} {st pt mk ef : Int} (h : Inv l neg a t i st pt mk ef) (hi : i < l.length) : Step l neg a t i st pt mk ef (nextOf st l[i].toNat) := by
  rcases h with ⟨rfl, h0, rfl, rfl, rfl, h⟩ | ⟨rfl, h0, rfl, rfl, rfl, h⟩ | ⟨rfl, p, h0, hp, rfl, rfl, rfl, h⟩ | ⟨rfl, h0, rfl, rfl, rfl, h⟩ | ⟨rfl, p, h0, hp, rfl, rfl, rfl, h⟩ | ⟨rfl, m, wh, fr, h0, rfl, rfl, hP, h⟩ | ⟨rfl, m, wh, fr, c, h0, rfl, rfl, hP, hc, h⟩ |
    ⟨rfl, m, e, wh, fr, c, hme, hei, rfl, rfl, hP, hc, hdg, h⟩
  · exact step0 hi h0 h
  · exact step2 hi h0 h
  · exact step5 (Or.inl rfl) hi (by omega) (by omega) (Or.inl h0) h
  · exact step4 hi h0 h
  · exact step5 (Or.inr rfl) hi h0 (by omega) (Or.inr hp) h
  · exact step6 hi h0 hP h
  · exact step7 hi h0 hP hc h
  · exact step8 hi hme hei hP hc hdg h

/-- At the end of the bytes. -/
theorem Inv.fin {l : List UInt8} {neg : Bool} {a : Nat} {t : Res} {st pt mk ef : Int} (h : Inv l neg a t l.length st pt mk ef) :
    ((st = 0 ∨ st = 4 ∨ st = 6 ∨ st = 7) ∧ t = no) ∨
    (st = 2 ∧ pt = -1 ∧ mk = -1 ∧ t = ⟨neg, false, seg l a l.length, [], 0, 1⟩) ∨
    ((st = 3 ∨ st = 5) ∧ mk = -1 ∧ ∃ p : Nat, pt = p ∧ a ≤ p ∧ p < l.length ∧ t = ⟨neg, false, seg l a p, seg l (p + 1) l.length, 0, 4⟩) ∨
    (st = 8 ∧ ∃ (m e : Nat) (c : UInt8), mk = m ∧ ef = e ∧ m < e ∧ e < l.length ∧ l[m + 1]? = some c ∧ (∀ d ∈ seg l e l.length, dig d = true) ∧
      ((pt = -1 ∧ a < m ∧ t = ⟨neg, false, seg l a m, [], expo (seg l e l.length) (decide (c.toNat = 45)), 4⟩) ∨
        ∃ p : Nat, pt = p ∧ a ≤ p ∧ p < m ∧ t = ⟨neg, false, seg l a p, seg l (p + 1) m, expo (seg l e l.length) (decide (c.toNat = 45)), 4⟩)) := by
  have hz : l.drop l.length = [] := List.drop_length
  rcases h with ⟨rfl, h0, rfl, rfl, rfl, h⟩ | ⟨rfl, h0, rfl, rfl, rfl, h⟩ | ⟨rfl, p, h0, hp, rfl, rfl, rfl, h⟩ | ⟨rfl, h0, rfl, rfl, rfl, h⟩ | ⟨rfl, p, h0, hp, rfl, rfl, rfl, h⟩ | ⟨rfl, m, wh, fr, h0, rfl, rfl, hP, h⟩ | ⟨rfl, m, wh, fr, c, h0, rfl, rfl, hP, hc, h⟩ |
    ⟨rfl, m, e, wh, fr, c, hme, hei, rfl, rfl, hP, hc, hdg, h⟩
  · rw [hz] at h
    exact Or.inl ⟨Or.inl rfl, h.symm⟩
  · rw [hz] at h
    exact Or.inr (Or.inl ⟨rfl, rfl, rfl, h.symm⟩)
  · rw [hz, f5, if_neg (fun hh => seg_ne l a p h0 (by omega) hh.1)] at h
    exact Or.inr (Or.inr (Or.inl ⟨Or.inl rfl, rfl, p, rfl, by omega, by omega, h.symm⟩))
  · rw [hz, f5, if_pos ⟨seg_self l a, by rw [h0, seg_self]⟩] at h
    exact Or.inl ⟨Or.inr (Or.inl rfl), h.symm⟩
  · rw [hz, f5, if_neg (fun hh => seg_ne l (p + 1) l.length hp (Nat.le_refl _) hh.2)] at h
    exact Or.inr (Or.inr (Or.inl ⟨Or.inr rfl, rfl, p, rfl, h0, by omega, h.symm⟩))
  · rw [hz] at h
    exact Or.inl ⟨Or.inr (Or.inr (Or.inl rfl)), h.symm⟩
  · rw [hz] at h
    exact Or.inl ⟨Or.inr (Or.inr (Or.inr rfl)), h.symm⟩
  · rw [hz, f8] at h
    refine Or.inr (Or.inr (Or.inr ⟨rfl, m, e, c, rfl, rfl, hme, hei, hc, hdg, ?_⟩))
    rcases hP with ⟨rfl, ha, rfl, rfl⟩ | ⟨p, rfl, hp, hpm, rfl, rfl⟩
    · exact Or.inl ⟨rfl, ha, h.symm⟩
    · exact Or.inr ⟨p, rfl, hp, hpm, h.symm⟩

end Go.Proofs.Qxb6602706aMods.Rd
