/-
  THE PLAIN LAW of readNumber: as the code reads it ('read'), as the automaton reads it ('auto'): one answer. No Go in sight.
-/
import Derived.Test.Qxb6602706aModsDigPlain
namespace Go.Proofs.Qxb6602706aMods.Rd
open Dig

/-- An answer: sign, infinity, the digits before and after the point, the exponent held, the form. -/
structure Res where
  neg : Bool
  inf : Bool
  whole : List UInt8
  frac : List UInt8
  ex : Int
  form : Int

def no : Res := ⟨false, false, [], [], 0, 0⟩

/-- The value of decimal digits. -/
def val (l : List UInt8) : Nat := l.foldl (fun v c => v * 10 + (c.toNat - 48)) 0
def lim : Nat := 576460752303423488
def held (l : List UInt8) : Nat := min (val l) lim
def expo (l : List UInt8) (neg : Bool) : Int := if neg then -(held l : Int) else (held l : Int)

def unsign : List UInt8 → List UInt8
  | c :: r => if c.toNat = 43 ∨ c.toNat = 45 then r else c :: r
  | [] => []
def isMinus : List UInt8 → Bool
  | c :: _ => decide (c.toNat = 45)
  | [] => false

def tw (l : List UInt8) : List UInt8 := l.take (cnt 10 l)
def dw (l : List UInt8) : List UInt8 := l.drop (cnt 10 l)

/-! ### As the code reads it -/
def expTail (neg : Bool) (wh fr : List UInt8) (r : List UInt8) : Res :=
  if tw (unsign r) = [] then no else if dw (unsign r) = [] then ⟨neg, false, wh, fr, expo (tw (unsign r)) (isMinus r), 4⟩ else no
def expPart (neg : Bool) (wh fr : List UInt8) (form : Int) : List UInt8 → Res
  | [] => ⟨neg, false, wh, fr, 0, form⟩
  | c :: r => if c.toNat = 101 ∨ c.toNat = 69 then expTail neg wh fr r else no
def fracPart (neg : Bool) (wh : List UInt8) : List UInt8 → Res
  | [] => if wh = [] then no else expPart neg wh [] 1 []
  | c :: r => if c.toNat = 46 then (if wh = [] ∧ tw r = [] then no else expPart neg wh (tw r) 4 (dw r)) else if wh = [] then no else expPart neg wh [] 1 (c :: r)
def dec (neg : Bool) (u : List UInt8) : Res := fracPart neg (tw u) (dw u)

def based (l : List UInt8) (x b : Nat) : Bool :=
  match l with
  | c0 :: c1 :: r => decide (c0.toNat = 48) && decide (c1.toNat = x) && decide (r ≠ []) && decide (cnt b r = r.length)
  | _ => false
def isInf (l : List UInt8) : Bool := l == [46, 105, 110, 102] || l == [46, 73, 110, 102] || l == [46, 73, 78, 70]
def isNan (l : List UInt8) : Bool := l == [46, 110, 97, 110] || l == [46, 78, 97, 78] || l == [46, 78, 65, 78]

def rest (l : List UInt8) : Res :=
  if isInf (unsign l) then ⟨isMinus l, true, [], [], 0, 5⟩
  else if isNan (unsign l) then (if unsign l = l then ⟨false, false, [], [], 0, 6⟩ else no)
  else dec (isMinus l) (unsign l)
def read (l : List UInt8) : Res :=
  if based l 111 8 then ⟨false, false, [], [], 0, 2⟩ else if based l 120 16 then ⟨false, false, [], [], 0, 3⟩ else rest l

/-! ### As the automaton reads it -/
def dig (c : UInt8) : Bool := isDig 10 c

def f8 (neg : Bool) (wh fr : List UInt8) (en : Bool) (ds : List UInt8) : List UInt8 → Res
  | [] => ⟨neg, false, wh, fr, expo ds en, 4⟩
  | c :: r => if dig c then f8 neg wh fr en (ds ++ [c]) r else no
def f7 (neg : Bool) (wh fr : List UInt8) (en : Bool) : List UInt8 → Res
  | [] => no
  | c :: r => if dig c then f8 neg wh fr en [c] r else no
def f6 (neg : Bool) (wh fr : List UInt8) : List UInt8 → Res
  | [] => no
  | c :: r => if dig c then f8 neg wh fr false [c] r else if c.toNat = 43 ∨ c.toNat = 45 then f7 neg wh fr (decide (c.toNat = 45)) r else no
def f5 (neg : Bool) (wh : List UInt8) (fr : List UInt8) : List UInt8 → Res
  | [] => if wh = [] ∧ fr = [] then no else ⟨neg, false, wh, fr, 0, 4⟩
  | c :: r => if dig c then f5 neg wh (fr ++ [c]) r else if (c.toNat = 101 ∨ c.toNat = 69) ∧ ¬ (wh = [] ∧ fr = []) then f6 neg wh fr r else no
def f2 (neg : Bool) (wh : List UInt8) : List UInt8 → Res
  | [] => ⟨neg, false, wh, [], 0, 1⟩
  | c :: r => if dig c then f2 neg (wh ++ [c]) r else if c.toNat = 46 then f5 neg wh [] r else if c.toNat = 101 ∨ c.toNat = 69 then f6 neg wh [] r else no
def f0 (neg : Bool) : List UInt8 → Res
  | [] => no
  | c :: r => if dig c then f2 neg [c] r else if c.toNat = 46 then f5 neg [] [] r else no
def auto (l : List UInt8) : Res :=
  if based l 111 8 then ⟨false, false, [], [], 0, 2⟩ else if based l 120 16 then ⟨false, false, [], [], 0, 3⟩
  else if isNan l then ⟨false, false, [], [], 0, 6⟩
  else if isInf (unsign l) then ⟨isMinus l, true, [], [], 0, 5⟩
  else f0 (isMinus l) (unsign l)

/-! ### They agree -/
theorem cnt_cons_yes {b : Nat} {c : UInt8} (r : List UInt8) (h : isDig b c = true) : cnt b (c :: r) = cnt b r + 1 := by simp [cnt, h]
theorem cnt_cons_no {b : Nat} {c : UInt8} (r : List UInt8) (h : isDig b c = false) : cnt b (c :: r) = 0 := by simp [cnt, h]
theorem tw_yes {c : UInt8} (r : List UInt8) (h : dig c = true) : tw (c :: r) = c :: tw r := by simp [tw, cnt_cons_yes r h]
theorem tw_no {c : UInt8} (r : List UInt8) (h : dig c = false) : tw (c :: r) = [] := by simp [tw, cnt_cons_no r h]
theorem dw_yes {c : UInt8} (r : List UInt8) (h : dig c = true) : dw (c :: r) = dw r := by simp [dw, cnt_cons_yes r h]
theorem dw_no {c : UInt8} (r : List UInt8) (h : dig c = false) : dw (c :: r) = c :: r := by simp [dw, cnt_cons_no r h]
theorem tw_nil : tw [] = [] := rfl
theorem dw_nil : dw [] = [] := rfl
theorem dig_iff (c : UInt8) : dig c = true ↔ 48 ≤ c.toNat ∧ c.toNat ≤ 57 := by
  unfold dig
  rw [isDig_dec (by omega), decide_eq_true_eq]
  omega
theorem not_dig {c : UInt8} (h : ¬ (48 ≤ c.toNat ∧ c.toNat ≤ 57)) : dig c = false := by
  cases e : dig c with
  | false => rfl
  | true => exact absurd ((dig_iff c).1 e) h

theorem f8_eq (neg : Bool) (wh fr : List UInt8) (en : Bool) : ∀ (r ds : List UInt8), f8 neg wh fr en ds r = if dw r = [] then ⟨neg, false, wh, fr, expo (ds ++ tw r) en, 4⟩ else no
  | [], ds => by simp [f8, tw_nil, dw_nil]
  | c :: r, ds => by
    cases h : dig c with
    | true => rw [f8, if_pos h, f8_eq neg wh fr en r, tw_yes r h, dw_yes r h, List.append_assoc]; rfl
    | false => rw [f8, h, dw_no r h]; simp

theorem f6_eq (neg : Bool) (wh fr r : List UInt8) : f6 neg wh fr r = expTail neg wh fr r := by
  match r with
  | [] => rfl
  | c :: r =>
    unfold expTail
    by_cases hs : c.toNat = 43 ∨ c.toNat = 45
    · have hd : dig c = false := not_dig (by omega)
      have eu : unsign (c :: r) = r := by simp [unsign, hs]
      have em : isMinus (c :: r) = decide (c.toNat = 45) := rfl
      rw [eu, em, f6, hd, if_neg (by simp), if_pos hs]
      match r with
      | [] => simp [f7, tw_nil]
      | c1 :: r1 =>
        cases h1 : dig c1 with
        | true => rw [f7, if_pos h1, f8_eq, tw_yes r1 h1, dw_yes r1 h1, if_neg (List.cons_ne_nil _ _)]; rfl
        | false => rw [f7, h1, tw_no r1 h1]; simp
    · have eu : unsign (c :: r) = c :: r := by simp only [unsign, if_neg hs]
      have em : isMinus (c :: r) = false := by simp only [isMinus, decide_eq_false_iff_not]; omega
      rw [eu, em]
      cases h : dig c with
      | true => rw [f6, if_pos h, f8_eq, tw_yes r h, dw_yes r h, if_neg (List.cons_ne_nil _ _)]; rfl
      | false => rw [f6, h, tw_no r h, if_neg (by simp), if_neg hs, if_pos rfl]

theorem f5_eq (neg : Bool) (wh : List UInt8) : ∀ (r fr : List UInt8), f5 neg wh fr r = if wh = [] ∧ fr ++ tw r = [] then no else expPart neg wh (fr ++ tw r) 4 (dw r)
  | [], fr => by simp [f5, tw_nil, dw_nil, expPart]
  | c :: r, fr => by
    cases h : dig c with
    | true => rw [f5, if_pos h, f5_eq neg wh r, tw_yes r h, dw_yes r h, List.append_assoc]; rfl
    | false =>
      rw [f5, h, tw_no r h, dw_no r h, List.append_nil, if_neg (by simp)]
      by_cases he : wh = [] ∧ fr = []
      · rw [if_pos he, if_neg (fun hh => hh.2 he)]
      · rw [if_neg he, expPart]
        by_cases hc : c.toNat = 101 ∨ c.toNat = 69
        · rw [if_pos ⟨hc, he⟩, if_pos hc, f6_eq]
        · rw [if_neg (fun hh => hc hh.1), if_neg hc]

theorem f2_eq (neg : Bool) : ∀ (r wh : List UInt8), wh ≠ [] → f2 neg wh r = fracPart neg (wh ++ tw r) (dw r)
  | [], wh, hw => by simp [f2, tw_nil, dw_nil, fracPart, expPart, hw]
  | c :: r, wh, hw => by
    cases h : dig c with
    | true => rw [f2, if_pos h, f2_eq neg r _ (by simp), tw_yes r h, dw_yes r h, List.append_assoc]; rfl
    | false =>
      rw [f2, h, tw_no r h, dw_no r h, List.append_nil, if_neg (by simp), fracPart]
      by_cases hc : c.toNat = 46
      · rw [if_pos hc, if_pos hc, f5_eq, List.nil_append]
      · rw [if_neg hc, if_neg hc, if_neg hw, expPart]
        by_cases hc : c.toNat = 101 ∨ c.toNat = 69
        · rw [if_pos hc, if_pos hc, f6_eq]
        · rw [if_neg hc, if_neg hc]

theorem f0_eq (neg : Bool) (u : List UInt8) : f0 neg u = dec neg u := by
  unfold dec
  match u with
  | [] => rfl
  | c :: r =>
    cases h : dig c with
    | true => rw [f0, if_pos h, f2_eq neg r _ (by simp), tw_yes r h, dw_yes r h]; rfl
    | false =>
      rw [f0, h, tw_no r h, dw_no r h, if_neg (by simp), fracPart]
      by_cases hc : c.toNat = 46
      · rw [if_pos hc, if_pos hc, f5_eq, List.nil_append]
      · rw [if_neg hc, if_neg hc, if_pos rfl]

theorem isNan_cases {l : List UInt8} (h : isNan l = true) : l = [46, 110, 97, 110] ∨ l = [46, 78, 97, 78] ∨ l = [46, 78, 65, 78] := by
  simpa [isNan, or_assoc] using h

theorem agree (l : List UInt8) : auto l = read l := by
  unfold auto read
  by_cases h1 : based l 111 8 = true
  · rw [if_pos h1, if_pos h1]
  · rw [if_neg h1, if_neg h1]
    by_cases h2 : based l 120 16 = true
    · rw [if_pos h2, if_pos h2]
    · rw [if_neg h2, if_neg h2]
      unfold rest
      by_cases hn : isNan l = true
      · rw [if_pos hn]
        rcases isNan_cases hn with rfl | rfl | rfl <;> rfl
      · rw [if_neg hn, f0_eq]
        by_cases hi : isInf (unsign l) = true
        · rw [if_pos hi, if_pos hi]
        · rw [if_neg hi, if_neg hi]
          by_cases hu : isNan (unsign l) = true
          · rw [if_pos hu]
            have hne : ¬ unsign l = l := fun e => hn (by rw [← e]; exact hu)
            rw [if_neg hne]
            rcases isNan_cases hu with e | e | e <;> rw [e] <;> rfl
          · rw [if_neg hu]

end Go.Proofs.Qxb6602706aMods.Rd
