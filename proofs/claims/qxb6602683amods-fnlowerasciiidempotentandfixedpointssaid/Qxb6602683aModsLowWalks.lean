/-
  THE WALKS: hasUpperB1 and lowerASCII compute Low.hasUp and Low.low.
-/
import Derived.Test.Qxb6602683aModsRows
import Derived.Test.Qxb6602683aModsLowPlain
import Derived.WalkKit
import Derived.Laws.IdiomStrings
namespace Go.Proofs.Qxb6602683aMods.Low
open Go.RowKit

theorem take_snoc (s : ByteArray) (k : Nat) (h : k < s.size) : s.data.toList.take (k + 1) = s.data.toList.take k ++ [s[k]] := by
  rw [List.take_succ_eq_append_getElem (by simpa using h)]; rfl

theorem hasUp_snoc (s : ByteArray) (k : Nat) (h : k < s.size) : hasUp (s.data.toList.take (k + 1)) = (hasUp (s.data.toList.take k) || up s[k]) := by
  rw [take_snoc s k h]; simp [hasUp]

theorem hasUp_at (s : ByteArray) (k : Nat) (h : k < s.size) (hu : up s[k] = true) : hasUp s.data.toList = true := by
  unfold hasUp
  rw [List.any_eq_true]
  exact ⟨s[k], by rw [Array.mem_toList_iff]; exact Array.getElem_mem (xs := s.data) h, hu⟩

theorem up_of (c : UInt8) (h1 : (65 : Int) ≤ (c.toNat : Int)) (h2 : (c.toNat : Int) ≤ 90) : up c = true := by
  simp only [up, Bool.and_eq_true, decide_eq_true_eq]; omega

theorem not_up_of (c : UInt8) (h : ¬ ((65 : Int) ≤ (c.toNat : Int) ∧ (c.toNat : Int) ≤ 90)) : up c = false := by
  simp only [up, Bool.and_eq_false_iff, decide_eq_false_iff_not]; omega

theorem ret_bool {a b : Bool} (h : a = b) : Ending.returned (.bool a) = .returned (.bool b) := by rw [h]

set_option maxHeartbeats 400000 in
theorem hasUpper_any (s : ByteArray) (w : World) (hs : s.size ≤ maxLen) :
    Calls Trym.prog 14 #[.string s] w fun e w' => e = .returned (.bool (hasUp s.data.toList)) ∧ w' = w := by
  unfold maxLen at hs
  go_enter Trym.func14, Trym.ntmps14
  go_wp2
  go_loop [3] (fun i => ∃ k : Nat, k ≤ s.size ∧ i = .int .i64 k ∧ Hid (hasUp (s.data.toList.take k) = false)) (fun i => s.size - (intOf i).toNat)
  case atStart => exact ⟨0, Nat.zero_le _, rfl, rfl⟩
  case round =>
    obtain ⟨k, hk, rfl, hu⟩ := hrel
    by_cases hlt : k < s.size
    · go_wp2
      · have h1 : (65 : Int) ≤ (s[k].toNat : Int) := by assumption
        have h2 : (s[k].toNat : Int) ≤ 90 := by assumption
        go_ret
        exact ⟨ret_bool (hasUp_at s k hlt (up_of _ h1 h2)).symm, rfl⟩
      · have h2 : (90 : Int) < (s[k].toNat : Int) := by assumption
        go_round
        case rel => exact ⟨k + 1, by omega, by go_num, by rw [hasUp_snoc s k hlt, hu.out, not_up_of _ (by omega)]; rfl⟩
        case measure => simp [intOf]; omega
      · have h2 : ¬ (65 : Int) ≤ (s[k].toNat : Int) := by assumption
        go_round
        case rel => exact ⟨k + 1, by omega, by go_num, by rw [hasUp_snoc s k hlt, hu.out, not_up_of _ (by omega)]; rfl⟩
        case measure => simp [intOf]; omega
    · go_wp2
      go_ret
      refine ⟨ret_bool ?_, rfl⟩
      have h := hu.out
      rw [List.take_of_length_le (by simp; omega)] at h
      exact h.symm
/-- '[]byte(s)' in the words of the walk: one new block, holding the bytes of s; nothing old has turned. -/
theorem bytes_conv (w : World) (s : ByteArray) : ∃ (cap : Nat) (w1 : World), (convert 9 27 (.string s)).run Trym.prog w = .ok (.slice (some ⟨w.heap.size, 0, none⟩) s.size cap) w1 ∧
    (∀ j (hj : j < s.size), w1.cell? ⟨w.heap.size, j, none⟩ = some (.int .u8 (s[j].toNat : Int))) ∧ (∀ j, j < s.size → w1.frozen? ⟨w.heap.size, j, none⟩ = false) ∧ Below w.heap.size w w1 := by
  refine ⟨_, _, run_bytes_of_string (P := Trym.prog) w 9 27 5 s Trym.underlying9 Trym.underlying27 Trym.underlying5, ?_, ?_, ?_⟩
  · intro j hj
    exact (World.cell?_alloc_mark w.drew _ _ _ j).trans (bytesRow_at s _ j hj)
  · intro j hj
    refine (World.frozen?_alloc_mark w.drew _ _ _ _ j).trans ?_
    have : s.size ≤ (bytesRow s (grownCap w s.size 0 5)).size := by simp [bytesRow]
    simp; omega
  · exact ((Below.refl _ w).drew).alloc (Nat.le_refl _) _

/-- What the block of 'lower' holds behind k rounds. -/
def lowAt (s : ByteArray) (k j : Nat) (hj : j < s.size) : UInt8 := if j < k then lowByte s[j] else s[j]

theorem cells_set (s : ByteArray) (B : Nat) (wr : World) (k : Nat) (hlt : k < s.size)
    (hc : ∀ j (hj : j < s.size), wr.cell? ⟨B, j, none⟩ = some (.int .u8 ((lowAt s k j hj).toNat : Int))) (x : Int) (hx : x = ((lowByte s[k]).toNat : Int)) :
    ∀ j (hj : j < s.size), (wr.setCell ⟨B, k, none⟩ (.int .u8 x)).cell? ⟨B, j, none⟩ = some (.int .u8 ((lowAt s (k + 1) j hj).toNat : Int)) := by
  intro j hj
  by_cases e : j = k
  · subst e
    rw [World.cell?_setCell_same _ _ _ (hc j hj), hx]
    simp [lowAt]
  · have hne : (⟨B, k, none⟩ : Addr) ≠ ⟨B, j, none⟩ := fun h => e (by injection h with _ h2 _; exact h2.symm)
    rw [World.cell?_setCell_other _ _ _ _ hne, hc j hj]
    have : (j < k + 1) = (j < k) := by rw [eq_iff_iff]; omega
    simp only [lowAt, this]

theorem cells_same (s : ByteArray) (B : Nat) (wr : World) (k : Nat) (hlt : k < s.size)
    (hc : ∀ j (hj : j < s.size), wr.cell? ⟨B, j, none⟩ = some (.int .u8 ((lowAt s k j hj).toNat : Int))) (hu : up s[k] = false) :
    ∀ j (hj : j < s.size), wr.cell? ⟨B, j, none⟩ = some (.int .u8 ((lowAt s (k + 1) j hj).toNat : Int)) := by
  intro j hj
  rw [hc j hj]
  by_cases e : j = k
  · subst e
    simp [lowAt, lowByte, hu]
  · have : (j < k + 1) = (j < k) := by rw [eq_iff_iff]; omega
    simp only [lowAt, this]

theorem back_conv (s : ByteArray) (B cap : Nat) (wr : World) (k : Nat) (hk : s.size ≤ k)
    (hc : ∀ j (hj : j < s.size), wr.cell? ⟨B, j, none⟩ = some (.int .u8 ((lowAt s k j hj).toNat : Int))) :
    (convert 27 9 (.slice (some ⟨B, 0, none⟩) s.size cap)).run Trym.prog wr = .ok (.string ⟨(low s.data.toList).toArray⟩) wr := by
  have hl : (low s.data.toList).length = s.size := by simp [low]
  have h := run_convert_bytes_back (P := Trym.prog) wr 27 9 5 ⟨B, 0, none⟩ cap (low s.data.toList) Trym.underlying27 Trym.underlying5 Trym.underlying9 (fun j hj => by
    have hj' : j < s.size := by omega
    have e : (⟨B, 0, none⟩ : Addr).add j = ⟨B, j, none⟩ := by simp only [Addr.add]; split <;> simp_all
    rw [e, hc j hj']
    have h2 : j < k := by omega
    simp only [lowAt, if_pos h2]
    congr 3
    simp [low]
    rfl)
  rwa [hl] at h

set_option maxHeartbeats 400000 in
theorem lower_any (s : ByteArray) (w : World) (hs : s.size ≤ maxLen) :
    Calls Trym.prog 19 #[.string s] w fun e w' => e = .returned (.string ⟨(low s.data.toList).toArray⟩) ∧ Below w.heap.size w w' := by
  unfold maxLen at hs
  obtain ⟨cap, w1, hconv, hcells, hfr, hb⟩ := bytes_conv w s
  have HC : Hid (∀ j (hj : j < s.size), w1.cell? ⟨w.heap.size, j, none⟩ = some (.int .u8 (s[j].toNat : Int))) := hcells
  have HF : Hid (∀ j, j < s.size → w1.frozen? ⟨w.heap.size, j, none⟩ = false) := hfr
  have HB : Hid (Below w.heap.size w w1) := hb
  clear hcells hfr hb
  go_enter Trym.func19, Trym.ntmps19
  go_wp2
  go_loopw [10] (fun i wr => ∃ k : Nat, k ≤ s.size ∧ i = .int .i64 k ∧ Hid (∀ j (hj : j < s.size), wr.cell? ⟨w.heap.size, j, none⟩ = some (.int .u8 ((lowAt s k j hj).toNat : Int))) ∧
      Hid (∀ j, j < s.size → wr.frozen? ⟨w.heap.size, j, none⟩ = false) ∧ Hid (Below w.heap.size w wr)) (fun i _ => s.size - (intOf i).toNat)
  case atStart => exact ⟨0, Nat.zero_le _, rfl, HC, HF, HB⟩
  case round =>
    obtain ⟨k, hk, rfl, hc, hf, hbl⟩ := hrel
    clear HC HF HB hconv
    by_cases hlt : k < s.size
    · have hck : wr.cell? ⟨w.heap.size, k, none⟩ = some (.int .u8 (s[k].toNat : Int)) := by
        have := hc.out k hlt
        simpa [lowAt] using this
      have hfk : wr.frozen? ⟨w.heap.size, k, none⟩ = false := hf.out k hlt
      have hx : s[k].toNat < 256 := UInt8.toNat_lt _
      go_wp2
      · have h1 : (65 : Int) ≤ (s[k].toNat : Int) := by assumption
        have h2 : (s[k].toNat : Int) ≤ 90 := by assumption
        go_roundw
        case rel =>
          exact ⟨k + 1, by omega, by go_num, cells_set s w.heap.size wr k hlt hc.out _ (by rw [lowByte_toNat_up _ (up_of _ h1 h2)]; omega), fun j hj => by simpa using hf.out j hj, hbl.out.setCell (Nat.le_refl _) _⟩
        case measure => simp [intOf]; omega
      · have h2 : (90 : Int) < (s[k].toNat : Int) := by assumption
        go_roundw
        case rel => exact ⟨k + 1, by omega, by go_num, cells_same s w.heap.size wr k hlt hc.out (not_up_of _ (by omega)), hf, hbl⟩
        case measure => simp [intOf]; omega
      · have h2 : ¬ (65 : Int) ≤ (s[k].toNat : Int) := by assumption
        go_roundw
        case rel => exact ⟨k + 1, by omega, by go_num, cells_same s w.heap.size wr k hlt hc.out (not_up_of _ (by omega)), hf, hbl⟩
        case measure => simp [intOf]; omega
    · have hk2 : k = s.size := by omega
      have hback := back_conv s w.heap.size cap wr k (by omega) hc.out
      go_wp2
      go_ret
      exact ⟨rfl, hbl.out⟩
end Go.Proofs.Qxb6602683aMods.Low
