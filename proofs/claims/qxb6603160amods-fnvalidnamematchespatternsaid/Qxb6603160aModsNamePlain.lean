/-
  THE PLAIN LAW on names: a lower-case letter, then lower-case letters, digits and '-'. No Go in sight.
-/
namespace Go.Proofs.Qxb6603160aMods.Nm

def low (c : UInt8) : Bool := decide (97 ≤ c.toNat) && decide (c.toNat ≤ 122)
def tl (c : UInt8) : Bool := (decide (48 ≤ c.toNat) && decide (c.toNat ≤ 57)) || decide (c.toNat = 45)
def ok (c : UInt8) : Bool := low c || tl c
def valid : List UInt8 → Bool
  | [] => false
  | c :: r => low c && r.all ok

theorem low_iff (c : UInt8) : low c = true ↔ 97 ≤ c.toNat ∧ c.toNat ≤ 122 := by simp [low]
theorem low_no {c : UInt8} (h : ¬ (97 ≤ c.toNat ∧ c.toNat ≤ 122)) : low c = false := by
  cases e : low c with
  | false => rfl
  | true => exact absurd ((low_iff c).1 e) h
theorem tl_iff (c : UInt8) : tl c = true ↔ (48 ≤ c.toNat ∧ c.toNat ≤ 57) ∨ c.toNat = 45 := by simp [tl]
theorem tl_no {c : UInt8} (h : ¬ ((48 ≤ c.toNat ∧ c.toNat ≤ 57) ∨ c.toNat = 45)) : tl c = false := by
  cases e : tl c with
  | false => rfl
  | true => exact absurd ((tl_iff c).1 e) h

theorem valid_snoc (l : List UInt8) (c : UInt8) (h : l ≠ []) : valid (l ++ [c]) = (valid l && ok c) := by
  cases l with
  | nil => exact absurd rfl h
  | cons a r => simp [valid, Bool.and_assoc]
theorem valid_one (c : UInt8) : valid [c] = low c := by simp [valid]
theorem valid_take (l : List UInt8) (k : Nat) (h : valid (l.take (k + 1)) = false) (hk : k < l.length) : valid l = false := by
  cases l with
  | nil => rfl
  | cons a r =>
    rw [List.take_succ_cons, valid] at h
    rw [valid]
    rcases Bool.and_eq_false_iff.1 h with h | h
    · rw [h]; rfl
    · have h' : r.all ok = false := by
        rw [List.all_eq_false] at h ⊢
        obtain ⟨x, hx, hxn⟩ := h
        exact ⟨x, List.mem_of_mem_take hx, hxn⟩
      rw [h']; simp

/-- Does the list hold the byte? -/
def mem (t : List UInt8) (c : UInt8) : Bool := t.any (· == c)

def letters : List UInt8 := [97, 98, 99, 100, 101, 102, 103, 104, 105, 106, 107, 108, 109, 110, 111, 112, 113, 114, 115, 116, 117, 118, 119, 120, 121, 122]
def tail : List UInt8 := [48, 49, 50, 51, 52, 53, 54, 55, 56, 57, 45]

theorem ofNat_toNat (c : UInt8) : c = UInt8.ofNat (⟨c.toNat, UInt8.toNat_lt c⟩ : Fin 256).val := by simp

theorem mem_letters (c : UInt8) : mem letters c = low c := by
  have h : ∀ n : Fin 256, mem letters (UInt8.ofNat n.val) = low (UInt8.ofNat n.val) := by decide +kernel
  rw [ofNat_toNat c]
  exact h _
theorem mem_tail (c : UInt8) : mem tail c = tl c := by
  have h : ∀ n : Fin 256, mem tail (UInt8.ofNat n.val) = tl (UInt8.ofNat n.val) := by decide +kernel
  rw [ofNat_toNat c]
  exact h _

theorem mem_at {t : ByteArray} {c : UInt8} {k : Nat} (hk : k < t.size) (h : t[k].toNat = c.toNat) : mem t.data.toList c = true := by
  have e : t[k] = c := UInt8.toNat_inj.1 h
  unfold mem
  rw [List.any_eq_true]
  exact ⟨t[k], by rw [Array.mem_toList_iff]; exact Array.getElem_mem (xs := t.data) hk, by rw [e]; simp⟩
theorem mem_none {t : ByteArray} {c : UInt8} (h : ∀ k (hk : k < t.size), t[k].toNat ≠ c.toNat) : mem t.data.toList c = false := by
  unfold mem
  rw [List.any_eq_false]
  intro x hx
  obtain ⟨n, hn, rfl⟩ := List.getElem_of_mem hx
  intro he
  exact h n (by simpa using hn) (congrArg UInt8.toNat (eq_of_beq he))

end Go.Proofs.Qxb6603160aMods.Nm
