/-
  THE PLAIN LAW of the exponent: the value of decimal digits, held to the limit. No Go in sight.
-/
import Derived.Test.Qxb6602706aModsReadPlain
namespace Go.Proofs.Qxb6602706aMods.Rd
open Dig

theorem val_snoc (l : List UInt8) (c : UInt8) : val (l ++ [c]) = val l * 10 + (c.toNat - 48) := by simp [val, List.foldl_append]

theorem val_from (l : List UInt8) (v : Nat) : v ≤ l.foldl (fun v c => v * 10 + (c.toNat - 48)) v := by
  induction l generalizing v with
  | nil => exact Nat.le_refl _
  | cons c l ih => exact Nat.le_trans (by omega) (ih (v * 10 + (c.toNat - 48)))

theorem val_append_le (l m : List UInt8) : val l ≤ val (l ++ m) := by
  unfold val
  rw [List.foldl_append]
  exact val_from m _

theorem val_take_le (l : List UInt8) (k : Nat) : val (l.take k) ≤ val l := by
  have := val_append_le (l.take k) (l.drop k)
  rwa [List.take_append_drop] at this

theorem foldl_pow (l : List UInt8) (v : Nat) : v * 10 ^ l.length ≤ l.foldl (fun v c => v * 10 + (c.toNat - 48)) v := by
  induction l generalizing v with
  | nil => simp
  | cons c l ih =>
    refine Nat.le_trans ?_ (ih (v * 10 + (c.toNat - 48)))
    rw [List.length_cons, Nat.pow_succ, Nat.mul_comm (10 ^ l.length) 10, ← Nat.mul_assoc]
    exact Nat.mul_le_mul_right _ (by omega)

/-- A first digit that is no zero. -/
theorem val_great (c : UInt8) (l : List UInt8) (h : 49 ≤ c.toNat) : 10 ^ l.length ≤ val (c :: l) := by
  have h1 := foldl_pow l (0 * 10 + (c.toNat - 48))
  have h2 : 1 * 10 ^ l.length ≤ (0 * 10 + (c.toNat - 48)) * 10 ^ l.length := Nat.mul_le_mul_right _ (by omega)
  rw [Nat.one_mul] at h2
  exact Nat.le_trans h2 h1

theorem val_zero (c : UInt8) (l : List UInt8) (h : c.toNat = 48) : val (c :: l) = val l := by
  unfold val
  rw [List.foldl_cons, h]

theorem val_zeros : ∀ (l : List UInt8) (k : Nat), (∀ j (hj : j < l.length), j < k → l[j].toNat = 48) → val (l.drop k) = val l
  | l, 0, _ => by simp
  | [], k + 1, _ => by simp
  | c :: l, k + 1, h => by
    have h0 := h 0 (by simp) (by omega)
    rw [List.drop_succ_cons, val_zeros l k (fun j hj hlt => by
      have := h (j + 1) (by simpa using hj) (by omega)
      simpa using this), val_zero c l (by simpa using h0)]

theorem foldl_lt (l : List UInt8) (v n : Nat) (hv : v < 10 ^ n) (h : ∀ c ∈ l, c.toNat ≤ 57) : l.foldl (fun v c => v * 10 + (c.toNat - 48)) v < 10 ^ (n + l.length) := by
  induction l generalizing v n with
  | nil => simpa using hv
  | cons c l ih =>
    have hc := h c (by simp)
    have := ih (v * 10 + (c.toNat - 48)) (n + 1) (by rw [Nat.pow_succ]; omega) (fun d hd => h d (by simp [hd]))
    rw [List.foldl_cons, List.length_cons, show n + (l.length + 1) = n + 1 + l.length by omega]
    exact this

theorem val_lt (l : List UInt8) (h : ∀ c ∈ l, c.toNat ≤ 57) : val l < 10 ^ l.length := by
  have := foldl_lt l 0 0 (by simp) h
  rwa [Nat.zero_add] at this

theorem held_of_ge {l : List UInt8} (h : lim ≤ val l) : held l = lim := by unfold held; omega
theorem held_of_lt {l : List UInt8} (h : val l < lim) : held l = val l := by unfold held; omega

end Go.Proofs.Qxb6602706aMods.Rd
