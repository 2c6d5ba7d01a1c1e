/-
  THE LAW's WALK: FnDigitsInCountsTheLeadingDigits returns true, out of its callees' contracts.
-/
import Derived.Test.Qxb6602706aModsDigSmall
import Derived.OpenShut
namespace Go.Proofs.Qxb6602706aMods.Dig
open Go.RowKit

/-- digitsIn, at every base up to 16. -/
theorem digitsIn_any (s : ByteArray) (b : Nat) (hb : b ≤ 16) (hs : s.size ≤ maxLen) (w : World) :
    Calls Trym.prog 24 #[.string s, .int .u8 (b : Int)] w fun e w' => e = .returned (.int .i64 (cnt b s.data.toList)) ∧ ∃ n, w' = w.drewN n := by
  by_cases h : b ≤ 10
  · exact digitsIn_small s b h hs w
  · refine (digitsIn_great s b (by omega) hb hs w).mono ?_
    rintro e w' ⟨rfl, rfl⟩
    exact ⟨rfl, 0, rfl⟩
end Go.Proofs.Qxb6602706aMods.Dig

namespace Go.Proofs.Qxb6602706aMods.fnDigitsInCountsTheLeadingDigits
open Go.RowKit

theorem guard_yes (s : ByteArray) (b : Int) (w : World) (h : s.size ≤ 1048576) :
    Calls Trym.prog 11 #[.string s, .int .u8 b] w fun e w' => e = .returned (.bool true) ∧ w' = w := by
  go_enter Trym.func11, Trym.ntmps11
  go_wp2
  go_ret
  exact ⟨rfl, rfl⟩

theorem guard_no (s : ByteArray) (b : Int) (w : World) (h : 1048576 < s.size) (hs : s.size ≤ maxLen) :
    Calls Trym.prog 11 #[.string s, .int .u8 b] w fun e w' => e = .returned (.bool false) ∧ w' = w := by
  unfold maxLen at hs
  go_enter Trym.func11, Trym.ntmps11
  go_wp2
  go_ret
  exact ⟨rfl, rfl⟩

theorem zzdigits_any (s : ByteArray) (b : Nat) (hb : b ≤ 16) (hs : s.size ≤ maxLen) (w : World) :
    Calls Trym.prog 12 #[.string s, .int .u8 (b : Int)] w fun e w' => e = .returned (.int .i64 (Dig.cnt b s.data.toList)) ∧ ∃ n, w' = w.drewN n := by
  go_enter Trym.func12, Trym.ntmps12
  go_wp2_with fail
  refine (Dig.digitsIn_any s b hb hs _).mono ?_
  rintro e w1 ⟨rfl, hw⟩
  obtain ⟨n, rfl⟩ := hw
  go_wp2
  go_ret
  exact ⟨rfl, n, rfl⟩

theorem walk (a0 : ByteArray) (a1 : Int) (w0 : a0.size ≤ maxLen) (w1 : (Lit.int .u8 a1).wf = true) (w : World) :
    Calls Trym.prog 3 #[.string a0, .int .u8 a1] w fun e w' => e = .returned (.bool true) ∧ Grown w w' := by
  obtain ⟨b0, b1⟩ := bounds_u8 w1
  obtain ⟨b, rfl⟩ := Int.eq_ofNat_of_zero_le b0
  clear w1
  by_cases h1 : 1048576 < a0.size
  · unfold maxLen at w0
    go_enter Trym.func3, Trym.ntmps3
    go_wp2_with fail
    refine (guard_no a0 _ _ h1 w0).mono ?_
    rintro e w1 ⟨rfl, rfl⟩
    go_wp2
    go_ret
    exact ⟨rfl, Grown.refl _⟩
  · by_cases h2 : 16 < b
    · go_enter Trym.func3, Trym.ntmps3
      go_wp2_with fail
      refine (guard_yes a0 _ _ (by omega)).mono ?_
      rintro e w1 ⟨rfl, rfl⟩
      go_wp2
      go_ret
      exact ⟨rfl, Grown.refl _⟩
    · have hc := Dig.cnt_le b a0.data.toList
      go_enter Trym.func3, Trym.ntmps3
      go_wp2_with fail
      refine (guard_yes a0 _ _ (by omega)).mono ?_
      rintro e w1 ⟨rfl, rfl⟩
      go_wp2_with fail
      refine (zzdigits_any a0 b (by omega) w0 _).mono ?_
      rintro e w2 ⟨rfl, hw⟩
      obtain ⟨n, rfl⟩ := hw
      go_wp2_with fail
      refine (Dig.leading_any a0 b (by omega) w0 _).mono ?_
      rintro e w3 ⟨rfl, rfl⟩
      go_wp2
      go_ret
      exact ⟨Dig.ret_bool (by simp), (Grown.refl _ : Grown w1 w1)⟩
end Go.Proofs.Qxb6602706aMods.fnDigitsInCountsTheLeadingDigits
