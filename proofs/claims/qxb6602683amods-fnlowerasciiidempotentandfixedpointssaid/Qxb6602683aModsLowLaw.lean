/-
  THE LAW's WALK: FnLowerASCIIIdempotentAndFixedPoints returns true, out of its callees' contracts.
-/
import Derived.Test.Qxb6602683aModsLowWalks
namespace Go.Proofs.Qxb6602683aMods.fnLowerASCIIIdempotentAndFixedPoints
open Go.RowKit

/-! ### STEP 1: THE WALK: the Go text returns true; nothing that was there has turned. -/
theorem guard_yes (s : ByteArray) (w : World) (h : s.size ≤ 1048576) :
    Calls Trym.prog 12 #[.string s] w fun e w' => e = .returned (.bool true) ∧ w' = w := by
  go_enter Trym.func12, Trym.ntmps12
  go_wp2
  go_ret
  exact ⟨rfl, rfl⟩

theorem guard_no (s : ByteArray) (w : World) (h : 1048576 < s.size) (hs : s.size ≤ maxLen) :
    Calls Trym.prog 12 #[.string s] w fun e w' => e = .returned (.bool false) ∧ w' = w := by
  unfold maxLen at hs
  go_enter Trym.func12, Trym.ntmps12
  go_wp2
  go_ret
  exact ⟨rfl, rfl⟩

theorem zzlower_any (s : ByteArray) (w : World) (hs : s.size ≤ maxLen) :
    Calls Trym.prog 13 #[.string s] w fun e w' => e = .returned (.string ⟨(Low.low s.data.toList).toArray⟩) ∧ Below w.heap.size w w' := by
  go_enter Trym.func13, Trym.ntmps13
  go_wp2_with fail
  refine (Low.lower_any s _ hs).mono ?_
  rintro e w1 ⟨rfl, hb⟩
  go_wp2
  go_ret
  exact ⟨rfl, hb⟩

theorem hasUpper_no (t : ByteArray) (w : World) (hs : t.size ≤ maxLen) (h : Low.hasUp t.data.toList = false) :
    Calls Trym.prog 14 #[.string t] w fun e w' => e = .returned (.bool false) ∧ w' = w := by
  rw [← h]
  exact Low.hasUpper_any t w hs

theorem zzlower_fix (t : ByteArray) (w : World) (hs : t.size ≤ maxLen) (h : Low.low t.data.toList = t.data.toList) :
    Calls Trym.prog 13 #[.string t] w fun e w' => e = .returned (.string t) ∧ Below w.heap.size w w' := by
  have := zzlower_any t w hs
  rwa [h] at this

theorem walk (a0 : ByteArray) (w0 : a0.size ≤ maxLen) (w : World) :
    Calls Trym.prog 5 #[.string a0] w fun e w' => e = .returned (.bool true) ∧ Below w.heap.size w w' := by
  by_cases h1 : 1048576 < a0.size
  · unfold maxLen at w0
    go_enter Trym.func5, Trym.ntmps5
    go_wp2_with fail
    refine (guard_no a0 _ h1 w0).mono ?_
    rintro e w1 ⟨rfl, rfl⟩
    go_wp2
    go_ret
    exact ⟨rfl, Below.refl _ _⟩
  · by_cases h2 : 65536 < a0.size
    · unfold maxLen at w0
      go_enter Trym.func5, Trym.ntmps5
      go_wp2_with fail
      refine (guard_yes a0 _ (by omega)).mono ?_
      rintro e w1 ⟨rfl, rfl⟩
      go_wp2
      go_ret
      exact ⟨rfl, Below.refl _ _⟩
    · have hm := w0
      go_enter Trym.func5, Trym.ntmps5
      go_wp2_with fail
      refine (guard_yes a0 _ (by omega)).mono ?_
      rintro e w1 ⟨rfl, rfl⟩
      go_wp2_with fail
      refine (zzlower_any a0 _ hm).mono ?_
      rintro e w2 ⟨rfl, hb2⟩
      have HB2 : Hid (Below w1.heap.size w1 w2) := hb2
      clear hb2
      obtain ⟨t, ht⟩ : ∃ t : ByteArray, t = ⟨(Low.low a0.data.toList).toArray⟩ := ⟨_, rfl⟩
      rw [← ht]
      have tl : t.data.toList = Low.low a0.data.toList := by rw [ht]
      have TU : Hid (Low.hasUp t.data.toList = false) := by rw [tl]; exact Low.hasUp_low _
      have TL : Hid (Low.low t.data.toList = t.data.toList) := by rw [tl]; exact Low.low_low _
      have TS : t.size ≤ maxLen := by
        have e : t.data.toList.length = a0.data.toList.length := by rw [tl]; simp [Low.low]
        have e2 : t.size = a0.size := by simpa using e
        omega
      have TE : Hid ((Low.low a0.data.toList == a0.data.toList) = !(Low.hasUp a0.data.toList)) := Low.last_test _
      have HT : Hid (t.data.toList = Low.low a0.data.toList) := tl
      clear ht tl
      go_wp2_with fail
      refine (hasUpper_no t _ TS TU.out).mono ?_
      rintro e w3 ⟨rfl, rfl⟩
      go_wp2_with fail
      refine (zzlower_fix t _ TS TL.out).mono ?_
      rintro e w4 ⟨rfl, hb4⟩
      have HB4 : Hid (Below w3.heap.size w3 w4) := hb4
      clear hb4
      go_wp2_with fail
      refine (Low.hasUpper_any a0 _ w0).mono ?_
      rintro e w5 ⟨rfl, rfl⟩
      go_wp2
      go_ret
      refine ⟨Low.ret_bool ?_, HB2.out.trans (HB4.out.mono HB2.out.size)⟩
      rw [ByteArray.toList_eq, ByteArray.toList_eq, HT.out, TE.out]
      simp

end Go.Proofs.Qxb6602683aMods.fnLowerASCIIIdempotentAndFixedPoints
