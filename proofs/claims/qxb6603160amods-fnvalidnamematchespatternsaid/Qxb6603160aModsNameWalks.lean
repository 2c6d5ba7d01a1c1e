/-
  THE WALKS: validName and vnModel compute Nm.valid.
-/
import Derived.Test.Qxb6603160aModsRows
import Derived.Test.Qxb6603160aModsNamePlain
import Derived.WalkKit
namespace Go.Proofs.Qxb6603160aMods.Nm
open Go.RowKit

theorem ret_bool {a b : Bool} (h : a = b) : Ending.returned (.bool a) = .returned (.bool b) := by rw [h]
theorem take_snoc (s : ByteArray) (k : Nat) (h : k < s.size) : s.data.toList.take (k + 1) = s.data.toList.take k ++ [s[k]] := by
  rw [List.take_succ_eq_append_getElem (by simpa using h)]; rfl
theorem take_ne (s : ByteArray) (k : Nat) (h0 : 0 < k) (h : k ≤ s.size) : s.data.toList.take k ≠ [] := fun e => by
  have e1 : (s.data.toList.take k).length = min k s.size := by simp
  rw [e, List.length_nil] at e1
  omega
theorem list_ne (s : ByteArray) (h : 0 < s.size) : s.data.toList ≠ [] := fun e => by
  have e1 : s.data.toList.length = s.size := by simp
  rw [e, List.length_nil] at e1
  omega
theorem valid_next (s : ByteArray) (k : Nat) (h0 : 0 < k) (h : k < s.size) : valid (s.data.toList.take (k + 1)) = (valid (s.data.toList.take k) && ok s[k]) := by
  rw [take_snoc s k h, valid_snoc _ _ (take_ne s k h0 (by omega))]
theorem valid_first (s : ByteArray) (h : 0 < s.size) : valid (s.data.toList.take 1) = low s[0] := by
  rw [take_snoc s 0 h, List.take_zero, List.nil_append, valid_one]
theorem valid_all (s : ByteArray) (k : Nat) (h : s.size ≤ k) : valid (s.data.toList.take k) = valid s.data.toList := by
  rw [List.take_of_length_le (by simpa using h)]

set_option maxHeartbeats 400000 in
theorem vnIn_any (c : UInt8) (t : ByteArray) (ht : t.size ≤ maxLen) (w : World) :
    Calls Trym.prog 26 #[.int .u8 (c.toNat : Int), .string t] w fun e w' => e = .returned (.bool (mem t.data.toList c)) ∧ w' = w := by
  unfold maxLen at ht
  go_enter Trym.func26, Trym.ntmps26
  go_wp2
  go_loop [5] (fun i => ∃ k : Nat, k ≤ t.size ∧ i = .int .i64 k ∧ Hid (∀ j (hj : j < t.size), j < k → t[j].toNat ≠ c.toNat)) (fun i => t.size - (intOf i).toNat)
  case atStart => exact ⟨0, Nat.zero_le _, rfl, fun _ _ h => absurd h (Nat.not_lt_zero _)⟩
  case round =>
    obtain ⟨k, hk, rfl, hu⟩ := hrel
    by_cases hlt : k < t.size
    · by_cases he : t[k].toNat = c.toNat
      · have he' : ((t[k].toNat : Int) == (c.toNat : Int)) = true := by rw [beq_iff_eq]; omega
        have HM : Hid (mem t.data.toList c = true) := mem_at hlt he
        clear he
        go_wp2
        go_ret
        exact ⟨ret_bool HM.out.symm, rfl⟩
      · have he' : ((t[k].toNat : Int) == (c.toNat : Int)) = false := by rw [beq_eq_false_iff_ne]; omega
        have HE : Hid (¬ t[k].toNat = c.toNat) := he
        clear he
        go_wp2
        go_round
        case rel =>
          refine ⟨k + 1, by omega, by go_num, fun j hj hjk => ?_⟩
          by_cases e : j = k
          · subst e; exact HE.out
          · exact hu.out j hj (by omega)
        case measure => simp [intOf]; omega
    · have HM : Hid (mem t.data.toList c = false) := mem_none fun j hj => hu.out j hj (by omega)
      go_wp2
      go_ret
      exact ⟨ret_bool HM.out.symm, rfl⟩

theorem letters_at (c : UInt8) (w : World) :
    Calls Trym.prog 26 #[.int .u8 (c.toNat : Int), .string ⟨#[97, 98, 99, 100, 101, 102, 103, 104, 105, 106, 107, 108, 109, 110, 111, 112, 113, 114, 115, 116, 117, 118, 119, 120, 121, 122]⟩] w fun e w' => e = .returned (.bool (low c)) ∧ w' = w := by
  rw [← mem_letters c]
  exact vnIn_any c ⟨#[97, 98, 99, 100, 101, 102, 103, 104, 105, 106, 107, 108, 109, 110, 111, 112, 113, 114, 115, 116, 117, 118, 119, 120, 121, 122]⟩ (by decide) w
theorem tail_at (c : UInt8) (w : World) :
    Calls Trym.prog 26 #[.int .u8 (c.toNat : Int), .string ⟨#[48, 49, 50, 51, 52, 53, 54, 55, 56, 57, 45]⟩] w fun e w' => e = .returned (.bool (tl c)) ∧ w' = w := by
  rw [← mem_tail c]
  exact vnIn_any c ⟨#[48, 49, 50, 51, 52, 53, 54, 55, 56, 57, 45]⟩ (by decide) w

theorem ok_low {c : UInt8} (h : 97 ≤ c.toNat ∧ c.toNat ≤ 122) : ok c = true := by unfold ok; rw [(low_iff c).2 h]; rfl
theorem ok_tl {c : UInt8} (h : (48 ≤ c.toNat ∧ c.toNat ≤ 57) ∨ c.toNat = 45) : ok c = true := by unfold ok; rw [(tl_iff c).2 h]; simp
theorem ok_no {c : UInt8} (h1 : ¬ (97 ≤ c.toNat ∧ c.toNat ≤ 122)) (h2 : ¬ ((48 ≤ c.toNat ∧ c.toNat ≤ 57) ∨ c.toNat = 45)) : ok c = false := by unfold ok; rw [low_no h1, tl_no h2]; rfl

set_option maxHeartbeats 1000000 in
theorem validName_any (s : ByteArray) (hs : s.size ≤ maxLen) (w : World) :
    Calls Trym.prog 25 #[.string s] w fun e w' => e = .returned (.bool (valid s.data.toList)) ∧ w' = w := by
  unfold maxLen at hs
  by_cases h0 : 0 < s.size
  · have he : (s.toList == []) = false := by
      rw [ByteArray.toList_eq]
      simpa using list_ne s h0
    by_cases hl : 97 ≤ s[0].toNat ∧ s[0].toNat ≤ 122
    · have H1 : Hid (valid (s.data.toList.take 1) = true) := by show _ = _; rw [valid_first s h0]; exact (low_iff _).2 hl
      obtain ⟨hl1, hl2⟩ := hl
      go_enter Trym.func25, Trym.ntmps25
      go_wp2
      go_loop [3] (fun i => ∃ k : Nat, 1 ≤ k ∧ k ≤ s.size ∧ i = .int .i64 k ∧ Hid (valid (s.data.toList.take k) = true)) (fun i => s.size - (intOf i).toNat)
      case atStart => exact ⟨1, by omega, by omega, rfl, H1⟩
      case round =>
        obtain ⟨k, hk0, hk, rfl, hu⟩ := hrel
        by_cases hlt : k < s.size
        · have HN : Hid (valid (s.data.toList.take (k + 1)) = ok s[k]) := by show _ = _; rw [valid_next s k (by omega) hlt, hu.out]; rfl
          have hx : s[k].toNat < 256 := UInt8.toNat_lt _
          clear hl1 hl2
          by_cases k1 : 97 ≤ s[k].toNat
          · by_cases k2 : s[k].toNat ≤ 122
            · have HK : Hid (ok s[k] = true) := ok_low ⟨k1, k2⟩
              go_wp2
              go_round
              case rel => exact ⟨k + 1, by omega, by omega, by go_num, by show _ = _; rw [HN.out, HK.out]⟩
              case measure => simp [intOf]; omega
            · have k45 : ((s[k].toNat : Int) == 45) = false := by rw [beq_eq_false_iff_ne]; omega
              have d122 : decide ((s[k].toNat : Int) ≤ 122) = false := decide_eq_false (by omega)
              have d57 : decide ((s[k].toNat : Int) ≤ 57) = false := decide_eq_false (by omega)
              have HV : Hid (valid s.data.toList = false) := valid_take _ k (by rw [HN.out]; exact ok_no (by omega) (by omega)) (by simpa using hlt)
              go_wp2
              go_ret
              exact ⟨ret_bool HV.out.symm, rfl⟩
          · by_cases k3 : 48 ≤ s[k].toNat
            · by_cases k4 : s[k].toNat ≤ 57
              · have HK : Hid (ok s[k] = true) := ok_tl (Or.inl ⟨k3, k4⟩)
                go_wp2
                go_round
                case rel => exact ⟨k + 1, by omega, by omega, by go_num, by show _ = _; rw [HN.out, HK.out]⟩
                case measure => simp [intOf]; omega
              · have k45 : ((s[k].toNat : Int) == 45) = false := by rw [beq_eq_false_iff_ne]; omega
                have d57 : decide ((s[k].toNat : Int) ≤ 57) = false := decide_eq_false (by omega)
                have HV : Hid (valid s.data.toList = false) := valid_take _ k (by rw [HN.out]; exact ok_no (by omega) (by omega)) (by simpa using hlt)
                go_wp2
                go_ret
                exact ⟨ret_bool HV.out.symm, rfl⟩
            · by_cases k5 : s[k].toNat = 45
              · have k45 : ((s[k].toNat : Int) == 45) = true := by rw [beq_iff_eq]; omega
                have HK : Hid (ok s[k] = true) := ok_tl (Or.inr k5)
                clear k5
                go_wp2
                go_round
                case rel => exact ⟨k + 1, by omega, by omega, by go_num, by show _ = _; rw [HN.out, HK.out]⟩
                case measure => simp [intOf]; omega
              · have k45 : ((s[k].toNat : Int) == 45) = false := by rw [beq_eq_false_iff_ne]; omega
                have HV : Hid (valid s.data.toList = false) := valid_take _ k (by rw [HN.out]; exact ok_no (by omega) (by omega)) (by simpa using hlt)
                go_wp2
                go_ret
                exact ⟨ret_bool HV.out.symm, rfl⟩
        · have HV : Hid (valid s.data.toList = true) := by show _ = _; rw [← valid_all s k (by omega)]; exact hu.out
          go_wp2
          go_ret
          exact ⟨ret_bool HV.out.symm, rfl⟩
    · have HV : Hid (valid s.data.toList = false) := valid_take _ 0 (by rw [valid_first s h0]; exact low_no hl) (by simpa using h0)
      by_cases h97 : s[0].toNat < 97
      · clear hl
        go_enter Trym.func25, Trym.ntmps25
        go_wp2
        go_ret
        exact ⟨ret_bool HV.out.symm, rfl⟩
      · have h122 : 122 < s[0].toNat := by omega
        clear hl
        go_enter Trym.func25, Trym.ntmps25
        go_wp2
        go_ret
        exact ⟨ret_bool HV.out.symm, rfl⟩
  · have hn : s.data.toList = [] := by
      have e : s.data.toList.length = s.size := by simp
      exact List.eq_nil_of_length_eq_zero (by omega)
    have he : (s.toList == []) = true := by rw [ByteArray.toList_eq, hn]; rfl
    have HV : Hid (valid s.data.toList = false) := by show _ = _; rw [hn]; rfl
    clear hn
    go_enter Trym.func25, Trym.ntmps25
    go_wp2
    go_ret
    exact ⟨ret_bool HV.out.symm, rfl⟩
/-- What the automaton's state says of the first k bytes. -/
def St (s : ByteArray) (k : Nat) (x : Int) : Prop :=
  (k = 0 ∧ x = 0) ∨ (0 < k ∧ valid (s.data.toList.take k) = true ∧ x = 1) ∨ (0 < k ∧ valid (s.data.toList.take k) = false ∧ x = 2)

theorem letters_is (c : UInt8) (b : Bool) (h : low c = b) (w : World) :
    Calls Trym.prog 26 #[.int .u8 (c.toNat : Int), .string ⟨#[97, 98, 99, 100, 101, 102, 103, 104, 105, 106, 107, 108, 109, 110, 111, 112, 113, 114, 115, 116, 117, 118, 119, 120, 121, 122]⟩] w fun e w' => e = .returned (.bool b) ∧ w' = w := by
  rw [← h]; exact letters_at c w
theorem tail_is (c : UInt8) (b : Bool) (h : tl c = b) (w : World) :
    Calls Trym.prog 26 #[.int .u8 (c.toNat : Int), .string ⟨#[48, 49, 50, 51, 52, 53, 54, 55, 56, 57, 45]⟩] w fun e w' => e = .returned (.bool b) ∧ w' = w := by
  rw [← h]; exact tail_at c w

set_option maxHeartbeats 1000000 in
theorem vnModel_any (s : ByteArray) (hs : s.size ≤ maxLen) (w : World) :
    Calls Trym.prog 18 #[.string s] w fun e w' => e = .returned (.bool (valid s.data.toList)) ∧ w' = w := by
  unfold maxLen at hs
  go_enter Trym.func18, Trym.ntmps18
  go_wp2
  go_loop [3, 4] (fun v i => ∃ (k : Nat) (x : Int), k ≤ s.size ∧ i = .int .i64 k ∧ v = .int .i64 x ∧ Hid (St s k x)) (fun _ i => s.size - (intOf i).toNat)
  case atStart => exact ⟨0, 0, Nat.zero_le _, rfl, rfl, Or.inl ⟨rfl, rfl⟩⟩
  case round =>
    obtain ⟨k, x, hk, rfl, rfl, hu⟩ := hrel
    by_cases hlt : k < s.size
    · rcases hu.out with ⟨rfl, rfl⟩ | ⟨h0, hv, rfl⟩ | ⟨h0, hv, rfl⟩
      · have HF : Hid (valid (s.data.toList.take (0 + 1)) = low s[0]) := valid_first s hlt
        clear hu
        cases hl : low s[0] with
        | true =>
          have HL : Hid (low s[0] = true) := hl
          clear hl
          go_wp2_with fail
          refine (letters_is s[0] true HL.out _).mono ?_
          rintro e w1 ⟨rfl, rfl⟩
          go_wp2_with fail
          go_round
          case rel => exact ⟨0 + 1, 1, by omega, by go_num, rfl, Or.inr (Or.inl ⟨by omega, HF.out.trans HL.out, rfl⟩)⟩
          case measure => simp [intOf]; omega
        | false =>
          have HL : Hid (low s[0] = false) := hl
          clear hl
          go_wp2_with fail
          refine (letters_is s[0] false HL.out _).mono ?_
          rintro e w1 ⟨rfl, rfl⟩
          go_wp2_with fail
          go_round
          case rel => exact ⟨0 + 1, 2, by omega, by go_num, rfl, Or.inr (Or.inr ⟨by omega, HF.out.trans HL.out, rfl⟩)⟩
          case measure => simp [intOf]; omega
      · have HN : Hid (valid (s.data.toList.take (k + 1)) = ok s[k]) := by show _ = _; rw [valid_next s k h0 hlt, hv]; rfl
        clear hu hv
        cases hl : low s[k] with
        | true =>
          have HL : Hid (low s[k] = true) := hl
          clear hl
          go_wp2_with fail
          refine (letters_is s[k] true HL.out _).mono ?_
          rintro e w1 ⟨rfl, rfl⟩
          go_wp2_with fail
          go_round
          case rel => exact ⟨k + 1, 1, by omega, by go_num, rfl, Or.inr (Or.inl ⟨by omega, by rw [HN.out, ok, HL.out]; rfl, rfl⟩)⟩
          case measure => simp [intOf]; omega
        | false =>
          have HL : Hid (low s[k] = false) := hl
          clear hl
          cases ht : tl s[k] with
          | true =>
            have HT : Hid (tl s[k] = true) := ht
            clear ht
            go_wp2_with fail
            refine (letters_is s[k] false HL.out _).mono ?_
            rintro e w1 ⟨rfl, rfl⟩
            go_wp2_with fail
            refine (tail_is s[k] true HT.out _).mono ?_
            rintro e w2 ⟨rfl, rfl⟩
            go_wp2_with fail
            go_round
            case rel => exact ⟨k + 1, 1, by omega, by go_num, rfl, Or.inr (Or.inl ⟨by omega, by rw [HN.out, ok, HL.out, HT.out]; rfl, rfl⟩)⟩
            case measure => simp [intOf]; omega
          | false =>
            have HT : Hid (tl s[k] = false) := ht
            clear ht
            go_wp2_with fail
            refine (letters_is s[k] false HL.out _).mono ?_
            rintro e w1 ⟨rfl, rfl⟩
            go_wp2_with fail
            refine (tail_is s[k] false HT.out _).mono ?_
            rintro e w2 ⟨rfl, rfl⟩
            go_wp2_with fail
            go_round
            case rel => exact ⟨k + 1, 2, by omega, by go_num, rfl, Or.inr (Or.inr ⟨by omega, by rw [HN.out, ok, HL.out, HT.out]; rfl, rfl⟩)⟩
            case measure => simp [intOf]; omega
      · have HN : Hid (valid (s.data.toList.take (k + 1)) = false) := by show _ = _; rw [valid_next s k h0 hlt, hv]; rfl
        clear hu hv
        go_wp2_with fail
        go_round
        case rel => exact ⟨k + 1, 2, by omega, by go_num, rfl, Or.inr (Or.inr ⟨by omega, HN.out, rfl⟩)⟩
        case measure => simp [intOf]; omega
    · have HA : Hid (valid (s.data.toList.take k) = valid s.data.toList) := valid_all s k (by omega)
      rcases hu.out with ⟨rfl, rfl⟩ | ⟨h0, hv, rfl⟩ | ⟨h0, hv, rfl⟩
      · clear hu
        go_wp2_with fail
        go_ret
        exact ⟨ret_bool (by rw [← HA.out]; rfl), rfl⟩
      · have HV : Hid (valid (s.data.toList.take k) = true) := hv
        clear hu hv
        go_wp2_with fail
        go_ret
        exact ⟨ret_bool (by rw [← HA.out, HV.out]), rfl⟩
      · have HV : Hid (valid (s.data.toList.take k) = false) := hv
        clear hu hv
        go_wp2_with fail
        go_ret
        exact ⟨ret_bool (by rw [← HA.out, HV.out]), rfl⟩
end Go.Proofs.Qxb6603160aMods.Nm
