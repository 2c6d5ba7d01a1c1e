/-
  THE WALK of ZZReadNumber: it hands back what readNumber reads, field by field.
-/
import Derived.Test.Qxb6602706aModsReadWalk
namespace Go.Proofs.Qxb6602706aMods.Rd
open Go.RowKit Dig

/-- The answer as ZZReadNumber hands it back. -/
def zzVal (x : Res) : Value := .tuple #[.bool x.neg, .bool x.inf, .string (ba x.whole), .string (ba x.frac), .int .i64 x.ex, .int .u8 x.form]

set_option maxRecDepth 100000 in
set_option maxHeartbeats 400000 in
theorem zzRead_any (s : ByteArray) (hs : s.size ≤ maxLen) (w : World) :
    Calls Trym.prog 21 #[.string s] w fun e w' => e = .returned (zzVal (read s.data.toList)) ∧ Below w.heap.size w w' := by
  have h := readNumber_any s hs w
  obtain ⟨x, hx⟩ : ∃ x, x = read s.data.toList := ⟨_, rfl⟩
  rw [← hx] at h ⊢
  obtain ⟨neg, inf, wh, fr, ex, form⟩ := x
  clear hx
  have H : Hid (Calls Trym.prog 27 #[.string s] w fun e w' => e = .returned (.tuple #[.agg #[.bool neg, .bool inf, .string (ba wh), .string (ba fr), .int .i64 ex], .int .u8 form]) ∧ Below w.heap.size w w') := h
  clear h
  go_enter Trym.func21, Trym.ntmps21
  go_wp2_with fail
  refine H.out.mono ?_
  rintro e w1 ⟨rfl, hb⟩
  have HB : Hid (Below w.heap.size w w1) := hb
  clear hb
  go_wp2_with fail
  go_quiet (fail)
  go_wp2_with fail
  exact bodyPost_ret (v := .tuple #[.bool neg, .bool inf, .string (ba wh), .string (ba fr), .int .i64 ex, .int .u8 form]) (by simp [results, Trym.results21, go_sem]) rfl ⟨rfl, below_drewN (HB.out.alloc HB.out.size _) nq⟩
end Go.Proofs.Qxb6602706aMods.Rd
