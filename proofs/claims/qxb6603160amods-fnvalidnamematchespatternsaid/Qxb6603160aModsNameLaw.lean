/-
  THE LAW's WALK: FnValidNameMatchesPattern returns true, out of its callees' contracts.
-/
import Derived.Test.Qxb6603160aModsNameWalks
namespace Go.Proofs.Qxb6603160aMods.fnValidNameMatchesPattern
open Go.RowKit

theorem guard_yes (s : ByteArray) (w : World) (h : s.size ≤ 1048576) :
    Calls Trym.prog 16 #[.string s] w fun e w' => e = .returned (.bool true) ∧ w' = w := by
  go_enter Trym.func16, Trym.ntmps16
  go_wp2
  go_ret
  exact ⟨rfl, rfl⟩

theorem guard_no (s : ByteArray) (w : World) (h : 1048576 < s.size) (hs : s.size ≤ maxLen) :
    Calls Trym.prog 16 #[.string s] w fun e w' => e = .returned (.bool false) ∧ w' = w := by
  unfold maxLen at hs
  go_enter Trym.func16, Trym.ntmps16
  go_wp2
  go_ret
  exact ⟨rfl, rfl⟩

theorem zzvalid_any (s : ByteArray) (hs : s.size ≤ maxLen) (w : World) :
    Calls Trym.prog 17 #[.string s] w fun e w' => e = .returned (.bool (Nm.valid s.data.toList)) ∧ w' = w := by
  go_enter Trym.func17, Trym.ntmps17
  go_wp2_with fail
  refine (Nm.validName_any s hs _).mono ?_
  rintro e w1 ⟨rfl, rfl⟩
  go_wp2
  go_ret
  exact ⟨rfl, rfl⟩

theorem walk (a0 : ByteArray) (w0 : a0.size ≤ maxLen) (w : World) :
    Calls Trym.prog 5 #[.string a0] w fun e w' => e = .returned (.bool true) ∧ Grown w w' := by
  by_cases h1 : 1048576 < a0.size
  · unfold maxLen at w0
    go_enter Trym.func5, Trym.ntmps5
    go_wp2_with fail
    refine (guard_no a0 _ h1 w0).mono ?_
    rintro e w1 ⟨rfl, rfl⟩
    go_wp2
    go_ret
    exact ⟨rfl, Grown.refl _⟩
  · by_cases h2 : 65536 < a0.size
    · go_enter Trym.func5, Trym.ntmps5
      go_wp2_with fail
      refine (guard_yes a0 _ (by omega)).mono ?_
      rintro e w1 ⟨rfl, rfl⟩
      go_wp2
      go_ret
      exact ⟨rfl, Grown.refl _⟩
    · go_enter Trym.func5, Trym.ntmps5
      go_wp2_with fail
      refine (guard_yes a0 _ (by omega)).mono ?_
      rintro e w1 ⟨rfl, rfl⟩
      go_wp2_with fail
      refine (zzvalid_any a0 w0 _).mono ?_
      rintro e w2 ⟨rfl, rfl⟩
      go_wp2_with fail
      refine (Nm.vnModel_any a0 w0 _).mono ?_
      rintro e w3 ⟨rfl, rfl⟩
      go_wp2
      go_ret
      exact ⟨Nm.ret_bool (by simp), Grown.refl _⟩
end Go.Proofs.Qxb6603160aMods.fnValidNameMatchesPattern
