/-
  THE WALKS: zzIsDigitOf, zzLeadingDigits, digitsIn compute Dig.isDig, Dig.cnt.
-/
import Derived.Test.Qxb6602706aModsRows
import Derived.Test.Qxb6602706aModsDigPlain
import Derived.WalkKit
import Derived.Deep.Draws
import Derived.Deep.QuietTactic
import Derived.BigQuiet
import Derived.Lib.EndianBits
namespace Go.Proofs.Qxb6602706aMods.Dig
open Go.RowKit

theorem ret_bool {a b : Bool} (h : a = b) : Ending.returned (.bool a) = .returned (.bool b) := by rw [h]
theorem ret_int {k : IntKind} {a b : Int} (h : a = b) : Ending.returned (.int k a) = .returned (.int k b) := by rw [h]

theorem chars_at (k : Nat) (hk : k < (⟨#[48, 49, 50, 51, 52, 53, 54, 55, 56, 57, 97, 98, 99, 100, 101, 102]⟩ : ByteArray).size) :
    ((⟨#[48, 49, 50, 51, 52, 53, 54, 55, 56, 57, 97, 98, 99, 100, 101, 102]⟩ : ByteArray)[k]'hk).toNat = if k < 10 then 48 + k else 87 + k := by
  have h : ∀ k : Fin 16, ((⟨#[48, 49, 50, 51, 52, 53, 54, 55, 56, 57, 97, 98, 99, 100, 101, 102]⟩ : ByteArray)[k.val]'k.isLt).toNat = if k.val < 10 then 48 + k.val else 87 + k.val := by decide +kernel
  exact h ⟨k, hk⟩

theorem hit1 (c : UInt8) (b k : Nat) (hk : k < (⟨#[48, 49, 50, 51, 52, 53, 54, 55, 56, 57, 97, 98, 99, 100, 101, 102]⟩ : ByteArray).size) (hlt : k < b)
    (h1 : ((c.toNat : Int) == (((⟨#[48, 49, 50, 51, 52, 53, 54, 55, 56, 57, 97, 98, 99, 100, 101, 102]⟩ : ByteArray)[k]'hk).toNat : Int)) = true) : isDig b c = true := by
  have h16 : k < 16 := hk
  rw [chars_at k hk, beq_iff_eq] at h1
  unfold isDig
  rw [decide_eq_true_eq]
  rcases dval_cases c with ⟨_, _, e⟩ | ⟨_, _, e⟩ | ⟨_, _, e⟩ | ⟨_, _, _, e⟩ <;> rw [e] <;> split at h1 <;> omega

theorem hit2 (c : UInt8) (b k : Nat) (hk : k < (⟨#[48, 49, 50, 51, 52, 53, 54, 55, 56, 57, 97, 98, 99, 100, 101, 102]⟩ : ByteArray).size) (hlt : k < b)
    (h1 : (97 : Int) ≤ (((⟨#[48, 49, 50, 51, 52, 53, 54, 55, 56, 57, 97, 98, 99, 100, 101, 102]⟩ : ByteArray)[k]'hk).toNat : Int))
    (h2 : ((c.toNat : Int) == ((((⟨#[48, 49, 50, 51, 52, 53, 54, 55, 56, 57, 97, 98, 99, 100, 101, 102]⟩ : ByteArray)[k]'hk).toNat : Int) - 32) % 256) = true) : isDig b c = true := by
  have h16 : k < 16 := hk
  rw [chars_at k hk] at h1
  rw [chars_at k hk, beq_iff_eq] at h2
  unfold isDig
  rw [decide_eq_true_eq]
  rcases dval_cases c with ⟨_, _, e⟩ | ⟨_, _, e⟩ | ⟨_, _, e⟩ | ⟨_, _, _, e⟩ <;> rw [e] <;> split at h1 <;> simp only [*, if_true, if_false] at h2 <;> omega

theorem miss (c : UInt8) (k : Nat) (hk : k < (⟨#[48, 49, 50, 51, 52, 53, 54, 55, 56, 57, 97, 98, 99, 100, 101, 102]⟩ : ByteArray).size) (hu : ¬ dval c < k)
    (h1 : ((c.toNat : Int) == (((⟨#[48, 49, 50, 51, 52, 53, 54, 55, 56, 57, 97, 98, 99, 100, 101, 102]⟩ : ByteArray)[k]'hk).toNat : Int)) = false)
    (h2 : (97 : Int) ≤ (((⟨#[48, 49, 50, 51, 52, 53, 54, 55, 56, 57, 97, 98, 99, 100, 101, 102]⟩ : ByteArray)[k]'hk).toNat : Int) →
      ((c.toNat : Int) == ((((⟨#[48, 49, 50, 51, 52, 53, 54, 55, 56, 57, 97, 98, 99, 100, 101, 102]⟩ : ByteArray)[k]'hk).toNat : Int) - 32) % 256) = false) : ¬ dval c < k + 1 := by
  have h16 : k < 16 := hk
  rw [chars_at k hk, beq_eq_false_iff_ne] at h1
  rw [chars_at k hk, beq_eq_false_iff_ne] at h2
  have hc : c.toNat < 256 := UInt8.toNat_lt _
  by_cases h10 : k < 10
  · rw [if_pos h10] at h1 h2
    rcases dval_cases c with ⟨_, _, e⟩ | ⟨_, _, e⟩ | ⟨_, _, e⟩ | ⟨_, _, _, e⟩ <;> rw [e] at hu ⊢ <;> omega
  · rw [if_neg h10] at h1 h2
    have h2' := h2 (by omega)
    rcases dval_cases c with ⟨_, _, e⟩ | ⟨_, _, e⟩ | ⟨_, _, e⟩ | ⟨_, _, _, e⟩ <;> rw [e] at hu ⊢ <;> omega

set_option maxHeartbeats 400000 in
theorem isDigitOf_any (c : UInt8) (b : Nat) (hb : b ≤ 16) (w : World) :
    Calls Trym.prog 25 #[.int .u8 (c.toNat : Int), .int .u8 (b : Int)] w fun e w' => e = .returned (.bool (isDig b c)) ∧ w' = w := by
  have hc : c.toNat < 256 := UInt8.toNat_lt _
  go_enter Trym.func25, Trym.ntmps25
  go_wp2
  go_loop [5] (fun i => ∃ k : Nat, k ≤ b ∧ i = .int .i64 k ∧ Hid (¬ dval c < k)) (fun i => b - (intOf i).toNat)
  case atStart => exact ⟨0, Nat.zero_le _, rfl, Nat.not_lt_zero _⟩
  case round =>
    obtain ⟨k, hk, rfl, hu⟩ := hrel
    by_cases hlt : k < b
    · have h16 : (k : Int) < 16 := by omega
      have hkk : k < (⟨#[48, 49, 50, 51, 52, 53, 54, 55, 56, 57, 97, 98, 99, 100, 101, 102]⟩ : ByteArray).size := by show k < 16; omega
      go_wp2
      · have h1 : ((c.toNat : Int) == (((⟨#[48, 49, 50, 51, 52, 53, 54, 55, 56, 57, 97, 98, 99, 100, 101, 102]⟩ : ByteArray)[k]'hkk).toNat : Int)) = true := by assumption
        go_ret
        exact ⟨ret_bool (hit1 c b k hkk hlt h1).symm, rfl⟩
      · have h1 : (97 : Int) ≤ (((⟨#[48, 49, 50, 51, 52, 53, 54, 55, 56, 57, 97, 98, 99, 100, 101, 102]⟩ : ByteArray)[k]'hkk).toNat : Int) := by assumption
        have h2 : ((c.toNat : Int) == ((((⟨#[48, 49, 50, 51, 52, 53, 54, 55, 56, 57, 97, 98, 99, 100, 101, 102]⟩ : ByteArray)[k]'hkk).toNat : Int) - 32) % 256) = true := by assumption
        go_ret
        exact ⟨ret_bool (hit2 c b k hkk hlt h1 h2).symm, rfl⟩
      · have h1 : ((c.toNat : Int) == (((⟨#[48, 49, 50, 51, 52, 53, 54, 55, 56, 57, 97, 98, 99, 100, 101, 102]⟩ : ByteArray)[k]'hkk).toNat : Int)) = false := by assumption
        have h2 : ((c.toNat : Int) == ((((⟨#[48, 49, 50, 51, 52, 53, 54, 55, 56, 57, 97, 98, 99, 100, 101, 102]⟩ : ByteArray)[k]'hkk).toNat : Int) - 32) % 256) = false := by assumption
        go_round
        case rel => exact ⟨k + 1, by omega, by go_num, miss c k hkk hu.out h1 (fun _ => h2)⟩
        case measure => simp [intOf]; omega
      · have h1 : ((c.toNat : Int) == (((⟨#[48, 49, 50, 51, 52, 53, 54, 55, 56, 57, 97, 98, 99, 100, 101, 102]⟩ : ByteArray)[k]'hkk).toNat : Int)) = false := by assumption
        have h2 : ¬ (97 : Int) ≤ (((⟨#[48, 49, 50, 51, 52, 53, 54, 55, 56, 57, 97, 98, 99, 100, 101, 102]⟩ : ByteArray)[k]'hkk).toNat : Int) := by assumption
        go_round
        case rel => exact ⟨k + 1, by omega, by go_num, miss c k hkk hu.out h1 (fun h => absurd h h2)⟩
        case measure => simp [intOf]; omega
    · go_wp2
      go_ret
      refine ⟨ret_bool ?_, rfl⟩
      have h := hu.out
      simp [isDig]; omega
theorem isDigitOf_yes (c : UInt8) (b : Nat) (hb : b ≤ 16) (w : World) (h : isDig b c = true) :
    Calls Trym.prog 25 #[.int .u8 (c.toNat : Int), .int .u8 (b : Int)] w fun e w' => e = .returned (.bool true) ∧ w' = w := by
  rw [← h]; exact isDigitOf_any c b hb w
theorem isDigitOf_no (c : UInt8) (b : Nat) (hb : b ≤ 16) (w : World) (h : isDig b c = false) :
    Calls Trym.prog 25 #[.int .u8 (c.toNat : Int), .int .u8 (b : Int)] w fun e w' => e = .returned (.bool false) ∧ w' = w := by
  rw [← h]; exact isDigitOf_any c b hb w

set_option maxHeartbeats 400000 in
theorem leading_any (s : ByteArray) (b : Nat) (hb : b ≤ 16) (hs : s.size ≤ maxLen) (w : World) :
    Calls Trym.prog 13 #[.string s, .int .u8 (b : Int)] w fun e w' => e = .returned (.int .i64 (cnt b s.data.toList)) ∧ w' = w := by
  unfold maxLen at hs
  go_enter Trym.func13, Trym.ntmps13
  go_wp2
  go_loop [5] (fun i => ∃ k : Nat, k ≤ s.size ∧ i = .int .i64 k ∧ Hid (AllDig b s k)) (fun i => s.size - (intOf i).toNat)
  case atStart => exact ⟨0, Nat.zero_le _, rfl, AllDig.zero _ _⟩
  case round =>
    obtain ⟨k, hk, rfl, hu⟩ := hrel
    by_cases hlt : k < s.size
    · by_cases hd : isDig b s[k] = true
      · have HD : Hid (isDig b s[k] = true) := hd
        clear hd
        go_wp2_with fail
        refine (isDigitOf_yes s[k] b hb _ HD.out).mono ?_
        rintro e w1 ⟨rfl, rfl⟩
        go_wp2
        go_round
        case rel => exact ⟨k + 1, by omega, by go_num, hu.out.succ hlt HD.out⟩
        case measure => simp [intOf]; omega
      · have HD : Hid (isDig b s[k] = false) := Bool.eq_false_iff.2 hd
        clear hd
        go_wp2_with fail
        refine (isDigitOf_no s[k] b hb _ HD.out).mono ?_
        rintro e w1 ⟨rfl, rfl⟩
        go_wp2
        go_ret
        exact ⟨ret_int (by rw [cnt_stop hu.out hlt HD.out]), rfl⟩
    · go_wp2
      go_ret
      exact ⟨ret_int (by rw [cnt_end hu.out (by omega)]; omega), rfl⟩

set_option maxRecDepth 100000 in
set_option maxHeartbeats 400000 in
theorem digitsIn_great (s : ByteArray) (b : Nat) (hb1 : 10 < b) (hb : b ≤ 16) (hs : s.size ≤ maxLen) (w : World) :
    Calls Trym.prog 24 #[.string s, .int .u8 (b : Int)] w fun e w' => e = .returned (.int .i64 (cnt b s.data.toList)) ∧ w' = w := by
  unfold maxLen at hs
  go_enter Trym.func24, Trym.ntmps24
  go_wp2
  go_loop [8] (fun i => ∃ k : Nat, k ≤ s.size ∧ i = .int .i64 k ∧ Hid (AllDig b s k)) (fun i => s.size - (intOf i).toNat)
  case atStart => exact ⟨0, Nat.zero_le _, rfl, AllDig.zero _ _⟩
  case round =>
    obtain ⟨k, hk, rfl, hu⟩ := hrel
    by_cases hlt : k < s.size
    · have hc : s[k].toNat < 256 := UInt8.toNat_lt _
      go_wp2
      all_goals first
        | (go_ret
           have hd : isDig b s[k] = false := by
             unfold isDig
             rw [decide_eq_false_iff_not]
             rcases dval_cases s[k] with ⟨_, _, e⟩ | ⟨_, _, e⟩ | ⟨_, _, e⟩ | ⟨_, _, _, e⟩ <;> omega
           exact ⟨ret_int (by rw [cnt_stop hu.out hlt hd]), rfl⟩)
        | (go_round
           case rel =>
             have hd : isDig b s[k] = true := by
               unfold isDig
               rw [decide_eq_true_eq]
               rcases dval_cases s[k] with ⟨_, _, e⟩ | ⟨_, _, e⟩ | ⟨_, _, e⟩ | ⟨_, _, _, e⟩ <;> omega
             exact ⟨k + 1, by omega, by go_num, hu.out.succ hlt hd⟩
           case measure => simp [intOf]; omega)
    · go_wp2
      go_ret
      exact ⟨ret_int (by rw [cnt_end hu.out (by omega)]), rfl⟩
end Go.Proofs.Qxb6602706aMods.Dig
