/-
  THE LAW's WALK: FnReadNumberMatchesTheCoreSchema returns true, out of its callees' contracts and the plain law 'agree'.
-/
import Derived.Test.Qxb6602706aModsReadZZ
import Derived.Test.Qxb6602706aModsModWalk
namespace Go.Proofs.Qxb6602706aMods.fnReadNumberMatchesTheCoreSchema
open Go.RowKit Rd

theorem guard_yes (s : ByteArray) (w : World) (h : s.size ≤ 1048576) :
    Calls Trym.prog 20 #[.string s] w fun e w' => e = .returned (.bool true) ∧ w' = w := by
  go_enter Trym.func20, Trym.ntmps20
  go_wp2
  go_ret
  exact ⟨rfl, rfl⟩

theorem guard_no (s : ByteArray) (w : World) (h : 1048576 < s.size) (hs : s.size ≤ maxLen) :
    Calls Trym.prog 20 #[.string s] w fun e w' => e = .returned (.bool false) ∧ w' = w := by
  unfold maxLen at hs
  go_enter Trym.func20, Trym.ntmps20
  go_wp2
  go_ret
  exact ⟨rfl, rfl⟩

set_option maxRecDepth 100000 in
set_option maxHeartbeats 400000 in
theorem walk (a0 : ByteArray) (w0 : a0.size ≤ maxLen) (w : World) :
    Calls Trym.prog 9 #[.string a0] w fun e w' => e = .returned (.bool true) ∧ Below w.heap.size w w' := by
  by_cases h1 : 1048576 < a0.size
  · unfold maxLen at w0
    go_enter Trym.func9, Trym.ntmps9
    go_wp2_with fail
    refine (guard_no a0 _ h1 w0).mono ?_
    rintro e w1 ⟨rfl, rfl⟩
    go_wp2_with fail
    go_ret
    exact ⟨rfl, Below.refl _ _⟩
  · have hz : ∀ w' : World, Calls Trym.prog 21 #[.string a0] w' fun e w'' => e = .returned (zzVal (read a0.data.toList)) ∧ Below w'.heap.size w' w'' := zzRead_any a0 w0
    have hm : ∀ w' : World, Calls Trym.prog 22 #[.string a0] w' fun e w'' => e = .returned (modVal (read a0.data.toList)) ∧ Below w'.heap.size w' w'' := fun w' => by
      rw [← agree]; exact readModel_any a0 w0 w'
    generalize read a0.data.toList = x at hz hm
    obtain ⟨neg, inf, wh, fr, ex, form⟩ := x
    have HZ : Hid (∀ w' : World, Calls Trym.prog 21 #[.string a0] w' fun e w'' => e = .returned (.tuple #[.bool neg, .bool inf, .string (ba wh), .string (ba fr), .int .i64 ex, .int .u8 form]) ∧ Below w'.heap.size w' w'') := hz
    have HM : Hid (∀ w' : World, Calls Trym.prog 22 #[.string a0] w' fun e w'' => e = .returned (.agg #[.bool neg, .bool inf, .string (ba wh), .string (ba fr), .int .i64 ex, .int .u8 form]) ∧ Below w'.heap.size w' w'') := hm
    clear hz hm
    go_enter Trym.func9, Trym.ntmps9
    go_wp2_with fail
    refine (guard_yes a0 _ (by omega)).mono ?_
    rintro e w1 ⟨rfl, rfl⟩
    go_wp2_with fail
    refine (HZ.out _).mono ?_
    rintro e w2 ⟨rfl, hb2⟩
    have HB2 : Hid (Below w1.heap.size w1 w2) := hb2
    clear hb2
    go_wp2_with fail
    refine (HM.out _).mono ?_
    rintro e w3 ⟨rfl, hb3⟩
    have HB3 : Hid (Below w2.heap.size w2 w3) := hb3
    clear hb3
    go_wp2_with fail
    go_ret
    have hb : Below w1.heap.size w1 w3 := HB2.out.trans (HB3.out.mono HB2.out.size)
    exact ⟨rfl, hb.alloc hb.size _⟩
end Go.Proofs.Qxb6602706aMods.fnReadNumberMatchesTheCoreSchema
