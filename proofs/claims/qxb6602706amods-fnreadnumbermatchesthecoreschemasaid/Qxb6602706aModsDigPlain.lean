/-
  THE PLAIN LAW on digits: no Go in sight.
-/
namespace Go.Proofs.Qxb6602706aMods.Dig

/-- The value of a digit: '0'..'9', 'a'..'f', 'A'..'F'; of any other byte 256. -/
def dval (c : UInt8) : Nat :=
  if 48 ≤ c.toNat ∧ c.toNat ≤ 57 then c.toNat - 48
  else if 97 ≤ c.toNat ∧ c.toNat ≤ 102 then c.toNat - 87
  else if 65 ≤ c.toNat ∧ c.toNat ≤ 70 then c.toNat - 55
  else 256
def isDig (b : Nat) (c : UInt8) : Bool := decide (dval c < b)
/-- How many bytes at the head are digits in base b. -/
def cnt (b : Nat) (l : List UInt8) : Nat := (l.takeWhile (isDig b)).length

theorem cnt_le (b : Nat) (l : List UInt8) : cnt b l ≤ l.length := by
  unfold cnt
  exact (List.takeWhile_sublist _).length_le

/-- The first k bytes are digits. -/
def AllDig (b : Nat) (s : ByteArray) (k : Nat) : Prop := ∀ j (hj : j < s.size), j < k → isDig b s[j] = true

theorem AllDig.zero (b : Nat) (s : ByteArray) : AllDig b s 0 := fun _ _ h => absurd h (Nat.not_lt_zero _)

theorem AllDig.succ {b : Nat} {s : ByteArray} {k : Nat} (h : AllDig b s k) (hk : k < s.size) (hd : isDig b s[k] = true) : AllDig b s (k + 1) := by
  intro j hj hlt
  by_cases e : j = k
  · subst e; exact hd
  · exact h j hj (by omega)

theorem takeWhile_len {α : Type} (p : α → Bool) : ∀ (l : List α) (k : Nat), k ≤ l.length → (∀ j (hj : j < l.length), j < k → p l[j] = true) → (∀ hk : k < l.length, p l[k] = false) → (l.takeWhile p).length = k
  | [], k, hk, _, _ => by simp at hk; simp [hk]
  | a :: l, 0, _, _, h2 => by
    have := h2 (by simp)
    simp at this
    simp [this]
  | a :: l, k + 1, hk, h1, h2 => by
    have h0 := h1 0 (by simp) (by omega)
    simp at h0
    have ih := takeWhile_len p l k (by simpa using hk) (fun j hj hlt => by
      have := h1 (j + 1) (by simpa using hj) (by omega)
      simpa using this) (fun hk' => by
      have := h2 (by simpa using hk')
      simpa using this)
    simp [h0, ih]

theorem cnt_stop {b : Nat} {s : ByteArray} {k : Nat} (h : AllDig b s k) (hk : k < s.size) (hd : isDig b s[k] = false) : cnt b s.data.toList = k :=
  takeWhile_len _ _ _ (by simp; omega) (fun j hj hlt => by
    rw [Array.getElem_toList]
    exact h j (by simpa using hj) hlt) (fun _ => by rw [Array.getElem_toList]; exact hd)

theorem cnt_end {b : Nat} {s : ByteArray} {k : Nat} (h : AllDig b s k) (hk : s.size ≤ k) : cnt b s.data.toList = s.size :=
  takeWhile_len _ _ _ (by simp) (fun j hj _ => by
    rw [Array.getElem_toList]
    exact h j (by simpa using hj) (by simp at hj; omega)) (fun hk' => by simp at hk')

/-! ### Which byte is a digit, in the tests' own words -/

theorem dval_dec {c : UInt8} (h1 : 48 ≤ c.toNat) (h2 : c.toNat ≤ 57) : dval c = c.toNat - 48 := by simp [dval, h1, h2]
theorem dval_low {c : UInt8} (h1 : 97 ≤ c.toNat) (h2 : c.toNat ≤ 102) : dval c = c.toNat - 87 := by
  have : ¬ c.toNat ≤ 57 := by omega
  simp [dval, h1, h2, this]
theorem dval_up {c : UInt8} (h1 : 65 ≤ c.toNat) (h2 : c.toNat ≤ 70) : dval c = c.toNat - 55 := by
  have : ¬ c.toNat ≤ 57 := by omega
  have : ¬ 97 ≤ c.toNat := by omega
  simp [dval, *]
theorem dval_cases (c : UInt8) : (48 ≤ c.toNat ∧ c.toNat ≤ 57 ∧ dval c = c.toNat - 48) ∨ (97 ≤ c.toNat ∧ c.toNat ≤ 102 ∧ dval c = c.toNat - 87) ∨
    (65 ≤ c.toNat ∧ c.toNat ≤ 70 ∧ dval c = c.toNat - 55) ∨ (¬ (48 ≤ c.toNat ∧ c.toNat ≤ 57) ∧ ¬ (97 ≤ c.toNat ∧ c.toNat ≤ 102) ∧ ¬ (65 ≤ c.toNat ∧ c.toNat ≤ 70) ∧ dval c = 256) := by
  by_cases h1 : 48 ≤ c.toNat ∧ c.toNat ≤ 57
  · exact Or.inl ⟨h1.1, h1.2, dval_dec h1.1 h1.2⟩
  · by_cases h2 : 97 ≤ c.toNat ∧ c.toNat ≤ 102
    · exact Or.inr (Or.inl ⟨h2.1, h2.2, dval_low h2.1 h2.2⟩)
    · by_cases h3 : 65 ≤ c.toNat ∧ c.toNat ≤ 70
      · exact Or.inr (Or.inr (Or.inl ⟨h3.1, h3.2, dval_up h3.1 h3.2⟩))
      · refine Or.inr (Or.inr (Or.inr ⟨h1, h2, h3, ?_⟩))
        unfold dval
        rw [if_neg h1, if_neg h2, if_neg h3]

/-- In a base of at most ten the digits are the bytes from '0' on. -/
theorem isDig_dec {b : Nat} (hb : b ≤ 10) (c : UInt8) : isDig b c = decide (48 ≤ c.toNat ∧ c.toNat < 48 + b) := by
  unfold isDig
  rw [decide_eq_decide]
  rcases dval_cases c with ⟨h1, h2, e⟩ | ⟨h1, h2, e⟩ | ⟨h1, h2, e⟩ | ⟨h1, h2, h3, e⟩ <;> rw [e] <;> omega

/-! ### Eight bytes in one word -/

/-- The number that the bytes spell, the least first. -/
def le : List Nat → Nat
  | [] => 0
  | a :: l => a + 256 * le l

theorem and_byte (a b x y : Nat) (ha : a < 256) (hx : x < 256) : (a + 256 * b) &&& (x + 256 * y) = (a &&& x) + 256 * (b &&& y) := by
  have e1 : a + 256 * b = 2 ^ 8 * b + a := by omega
  have e2 : x + 256 * y = 2 ^ 8 * y + x := by omega
  have h3 : a &&& x < 2 ^ 8 := Nat.lt_of_le_of_lt Nat.and_le_left (by omega)
  have e3 : (a &&& x) + 256 * (b &&& y) = 2 ^ 8 * (b &&& y) + (a &&& x) := by omega
  rw [e1, e2, e3]
  apply Nat.eq_of_testBit_eq
  intro i
  rw [Nat.testBit_and, Nat.testBit_two_pow_mul_add _ (by omega), Nat.testBit_two_pow_mul_add _ (by omega), Nat.testBit_two_pow_mul_add _ h3]
  split
  · rw [Nat.testBit_and]
  · rw [Nat.testBit_and]

theorem le_and : ∀ (l m : List Nat), l.length = m.length → (∀ x ∈ l, x < 256) → (∀ x ∈ m, x < 256) → le l &&& le m = le (List.zipWith (· &&& ·) l m)
  | [], [], _, _, _ => rfl
  | [], _ :: _, h, _, _ => by simp at h
  | _ :: _, [], h, _, _ => by simp at h
  | a :: l, x :: m, h, h1, h2 => by
    show (a + 256 * le l) &&& (x + 256 * le m) = (a &&& x) + 256 * le (List.zipWith (· &&& ·) l m)
    rw [and_byte a _ x _ (h1 a (by simp)) (h2 x (by simp)), le_and l m (by simpa using h) (fun y hy => h1 y (by simp [hy])) (fun y hy => h2 y (by simp [hy]))]

theorem le_inj : ∀ (l m : List Nat), l.length = m.length → (∀ x ∈ l, x < 256) → (∀ x ∈ m, x < 256) → le l = le m → l = m
  | [], [], _, _, _, _ => rfl
  | [], _ :: _, h, _, _, _ => by simp at h
  | _ :: _, [], h, _, _, _ => by simp at h
  | a :: l, x :: m, h, h1, h2, e => by
    have e' : a + 256 * le l = x + 256 * le m := e
    have ha := h1 a (by simp)
    have hx := h2 x (by simp)
    have e1 : a = x := by omega
    have e2 : le l = le m := by omega
    rw [e1, le_inj l m (by simpa using h) (fun y hy => h1 y (by simp [hy])) (fun y hy => h2 y (by simp [hy])) e2]

theorem le_lt : ∀ (l : List Nat), (∀ x ∈ l, x < 256) → le l < 256 ^ l.length
  | [], _ => by simp [le]
  | a :: l, h => by
    have ih := le_lt l (fun y hy => h y (by simp [hy]))
    have ha := h a (by simp)
    show a + 256 * le l < 256 ^ (l.length + 1)
    rw [Nat.pow_succ]
    omega

theorem le_add (k : Nat) : ∀ (l : List Nat), le (l.map (· + k)) = le l + k * le (l.map fun _ => 1)
  | [] => by simp [le]
  | a :: l => by
    have ih := le_add k l
    show (a + k) + 256 * le (l.map (· + k)) = (a + 256 * le l) + k * (1 + 256 * le (l.map fun _ => 1))
    rw [ih, Nat.mul_add k, Nat.mul_left_comm k 256, Nat.mul_add 256]
    omega

theorem and_f0 (a : Nat) (h : a < 256) : a &&& 240 = 16 * (a / 16) := by
  have h' : ∀ a : Fin 256, (a.val &&& 240) = 16 * (a.val / 16) := by decide +kernel
  exact h' ⟨a, h⟩

/-- The test of the loop: the high half of each of eight bytes is 3. -/
theorem highs_three (b0 b1 b2 b3 b4 b5 b6 b7 : Nat) (h0 : b0 < 256) (h1 : b1 < 256) (h2 : b2 < 256) (h3 : b3 < 256) (h4 : b4 < 256) (h5 : b5 < 256) (h6 : b6 < 256) (h7 : b7 < 256)
    (h : le [b0, b1, b2, b3, b4, b5, b6, b7] &&& 17361641481138401520 = 3472328296227680304) :
    b0 / 16 = 3 ∧ b1 / 16 = 3 ∧ b2 / 16 = 3 ∧ b3 / 16 = 3 ∧ b4 / 16 = 3 ∧ b5 / 16 = 3 ∧ b6 / 16 = 3 ∧ b7 / 16 = 3 := by
  have e1 : (17361641481138401520 : Nat) = le [240, 240, 240, 240, 240, 240, 240, 240] := by decide
  have e2 : (3472328296227680304 : Nat) = le [48, 48, 48, 48, 48, 48, 48, 48] := by decide
  rw [e1, e2, le_and [b0, b1, b2, b3, b4, b5, b6, b7] [240, 240, 240, 240, 240, 240, 240, 240] rfl (by simp [*]) (by simp)] at h
  simp only [List.zipWith_cons_cons, List.zipWith_nil_right] at h
  clear e1 e2
  have hlt : ∀ a : Nat, a &&& 240 < 256 := fun a => Nat.lt_of_le_of_lt Nat.and_le_right (by omega)
  have hm : ∀ x ∈ [b0 &&& 240, b1 &&& 240, b2 &&& 240, b3 &&& 240, b4 &&& 240, b5 &&& 240, b6 &&& 240, b7 &&& 240], x < 256 := fun x hx => by
    simp only [List.mem_cons, List.not_mem_nil, or_false] at hx
    rcases hx with rfl | rfl | rfl | rfl | rfl | rfl | rfl | rfl <;> exact hlt _
  have hl := le_inj [b0 &&& 240, b1 &&& 240, b2 &&& 240, b3 &&& 240, b4 &&& 240, b5 &&& 240, b6 &&& 240, b7 &&& 240] [48, 48, 48, 48, 48, 48, 48, 48] rfl hm (by simp) h
  simp only [List.cons.injEq, and_true, and_f0 _ h0, and_f0 _ h1, and_f0 _ h2, and_f0 _ h3, and_f0 _ h4, and_f0 _ h5, and_f0 _ h6, and_f0 _ h7] at hl
  clear h hm
  omega

/-- Both tests passed: each of the eight bytes is a digit in the base. -/
theorem eight_digits (b : Nat) (hb : b ≤ 10) (b0 b1 b2 b3 b4 b5 b6 b7 : Nat) (h0 : b0 < 256) (h1 : b1 < 256) (h2 : b2 < 256) (h3 : b3 < 256) (h4 : b4 < 256) (h5 : b5 < 256) (h6 : b6 < 256) (h7 : b7 < 256)
    (ha : le [b0, b1, b2, b3, b4, b5, b6, b7] &&& 17361641481138401520 = 3472328296227680304)
    (hc : ((le [b0, b1, b2, b3, b4, b5, b6, b7] + (16 - b) * 72340172838076673) % 18446744073709551616) &&& 17361641481138401520 = 3472328296227680304) :
    (48 ≤ b0 ∧ b0 < 48 + b) ∧ (48 ≤ b1 ∧ b1 < 48 + b) ∧ (48 ≤ b2 ∧ b2 < 48 + b) ∧ (48 ≤ b3 ∧ b3 < 48 + b) ∧ (48 ≤ b4 ∧ b4 < 48 + b) ∧ (48 ≤ b5 ∧ b5 < 48 + b) ∧ (48 ≤ b6 ∧ b6 < 48 + b) ∧ (48 ≤ b7 ∧ b7 < 48 + b) := by
  obtain ⟨g0, g1, g2, g3, g4, g5, g6, g7⟩ := highs_three b0 b1 b2 b3 b4 b5 b6 b7 h0 h1 h2 h3 h4 h5 h6 h7 ha
  have e : le [b0, b1, b2, b3, b4, b5, b6, b7] + (16 - b) * 72340172838076673 = le [b0 + (16 - b), b1 + (16 - b), b2 + (16 - b), b3 + (16 - b), b4 + (16 - b), b5 + (16 - b), b6 + (16 - b), b7 + (16 - b)] := by
    have := le_add (16 - b) [b0, b1, b2, b3, b4, b5, b6, b7]
    simp only [List.map_cons, List.map_nil] at this
    rw [this]
    rfl
  have hlt : le [b0 + (16 - b), b1 + (16 - b), b2 + (16 - b), b3 + (16 - b), b4 + (16 - b), b5 + (16 - b), b6 + (16 - b), b7 + (16 - b)] < 18446744073709551616 := by
    refine Nat.lt_of_lt_of_le (le_lt _ fun x hx => ?_) (by simp)
    simp only [List.mem_cons, List.not_mem_nil, or_false] at hx
    omega
  rw [e, Nat.mod_eq_of_lt hlt] at hc
  have := highs_three _ _ _ _ _ _ _ _ (by omega) (by omega) (by omega) (by omega) (by omega) (by omega) (by omega) (by omega) hc
  omega

end Go.Proofs.Qxb6602706aMods.Dig
