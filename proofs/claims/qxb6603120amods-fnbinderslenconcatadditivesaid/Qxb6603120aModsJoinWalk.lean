/-
  THE WALK of joinBinders: a new outer slice that holds x's binders and then y's.
-/
import Derived.Test.Qxb6603120aModsCloneWalk
namespace Go.Proofs.Qxb6603120aMods.Bd
open Go.RowKit

theorem clone_nil (w : World) : Calls Trym.prog 6 #[.slice none 0 0] w fun e w' => e = .returned (.slice none 0 0) ∧ w' = w := by
  have heq := fun (w : World) => Lib.run_eql_slice_nil (P := Trym.prog) w 22 27 none 0 0 0 0 Trym.underlying22
  go_enter Trym.func6, Trym.ntmps6
  go_wp2
  go_ret
  exact ⟨rfl, rfl⟩

/-- Slice values of these lengths. -/
def Vals (vs : List Value) (ls : List Nat) : Prop := vs.length = ls.length ∧ ∀ j (h : j < ls.length), ∃ (A : Option Addr) (C : Nat), vs[j]? = some (.slice A ls[j] C)

theorem Vals.nil : Vals [] [] := ⟨rfl, fun _ h => absurd h (Nat.not_lt_zero _)⟩
theorem Vals.snoc {vs : List Value} {ls : List Nat} (h : Vals vs ls) (A : Option Addr) (l C : Nat) : Vals (vs ++ [.slice A l C]) (ls ++ [l]) := by
  refine ⟨by simp [h.1], fun j hj => ?_⟩
  by_cases e : j < ls.length
  · obtain ⟨A', C', e'⟩ := h.2 j e
    exact ⟨A', C', by rw [List.getElem?_append_left (by rw [h.1]; exact e), e', List.getElem_append_left e]⟩
  · have e1 : j = ls.length := by simp at hj; omega
    subst e1
    exact ⟨A, C, by rw [List.getElem?_append_right (by rw [h.1]; exact Nat.le_refl _), h.1]; simp⟩

theorem Vals.bs {w : World} {B n cap : Nat} {vs : List Value} {ls : List Nat} (h : Vals vs ls) (hn : ls.length = n) (ho : w.ownsRow B 27 1 (.slice (some ⟨B, 0, none⟩) n cap) n vs) : Bs w (some ⟨B, 0, none⟩) ls := fun i hi => by
  obtain ⟨A, C, e⟩ := h.2 i hi
  exact ⟨B, 0, A, C, rfl, by rw [Nat.zero_add, ho.cellAt i (by omega), e]⟩

set_option maxHeartbeats 1000000 in
set_option maxRecDepth 100000 in
theorem join_any (ao bo : Option Addr) (ca cb : Nat) (ls ms : List Nat) (w : World) (hA : Bs w ao ls) (hB : Bs w bo ms) (hl : ls.length ≤ 65536) (hm : ms.length ≤ 65536) :
    Calls Trym.prog 7 #[.slice ao ls.length ca, .slice bo ms.length cb] w fun e w' => ∃ (co : Option Addr) (cap : Nat), e = .returned (.slice co (ls ++ ms).length cap) ∧ Bs w' co (ls ++ ms) ∧ Below w.heap.size w w' := by
  have HA : Hid (Bs w ao ls) := hA
  have HB : Hid (Bs w bo ms) := hB
  clear hA hB
  obtain ⟨i0, hi, hz0, hz1, hz2⟩ := info_parts info27
  go_enter Trym.func7, Trym.ntmps7
  go_wp2_with (at_make; refine wpList_make_own _ rfl _ _ 22 rfl w.heap.size 27 i0 (.slice none 0 0) 1 Trym.underlying22 hi hz0 hz1 _ _ _ (ls.length + ms.length) rfl rfl (by omega) ?b2 ?b3 (Nat.le_refl _) ?_)
  case b2 => rw [hz2]; omega
  case b3 => unfold maxLen; omega
  intro w0 hown0 hgrow0
  have HO0 : Hid (w0.ownsRow w.heap.size 27 1 (.slice (some ⟨w.heap.size, 0, none⟩) 0 (ls.length + ms.length)) 0 []) := hown0
  have HG0 : Hid (w.grownBy w0 none) := hgrow0
  clear hown0 hgrow0
  go_wp2
  go_loopw [5, 6] (fun v i wr => ∃ (k : Nat) (vs : List Value), k ≤ ls.length ∧ i = .int .i64 k ∧ v = .slice (some ⟨w.heap.size, 0, none⟩) k (ls.length + ms.length) ∧
      Hid (wr.ownsRow w.heap.size 27 1 (.slice (some ⟨w.heap.size, 0, none⟩) k (ls.length + ms.length)) k vs) ∧ Hid (Vals vs (ls.take k)) ∧ Hid (Below w.heap.size w wr)) (fun _ i _ => ls.length - (intOf i).toNat)
  case atStart => exact ⟨0, [], Nat.zero_le _, rfl, rfl, HO0, Vals.nil, (Below.refl _ _).grown HG0.out (Nat.le_refl _) (fun k h => by cases h)⟩
  case round =>
    obtain ⟨k, vs, hk, rfl, rfl, ho, hv, hb⟩ := hrel
    clear HO0 HG0
    by_cases hlt : k < ls.length
    · obtain ⟨b, off, A, C, rfl, hcell0⟩ := HA.out k hlt
      have hcell : wr.cell? ⟨b, off + k, none⟩ = some (.slice A ls[k] C) := (hb.out.cell (p := ⟨b, off + k, none⟩) (block_lt hcell0)).trans hcell0
      clear hcell0
      go_wp2_with (at_builtin; refine wpList_append_fits _ rfl (.tmp 20) (.tmp 25) 22 rfl w.heap.size 27 i0 1 Trym.underlying22 hi hz1 w.heap.size k (ls.length + ms.length) vs rfl (ho.out.alloc _) ⟨wr.heap.size, 0, none⟩ 1 1 [.slice A ls[k] C] rfl rfl (by intro t u ht; match t, ht with | 0, ht => simp at ht; subst ht; simp [Addr.add]) (by intro u hu; simp at hu; subst hu; rfl) (by omega) ?_; intro w1 hown1 hgrow1)
      go_roundw
      case rel =>
        exact ⟨k + 1, vs ++ [Value.slice A ls[k] C], by omega, by go_num, rfl, hown1, by rw [take_snoc ls k hlt]; exact hv.out.snoc A _ C,
          (hb.out.alloc hb.out.size _).grown hgrow1 (by have := hb.out.size; simp; omega) (fun j h => by cases h; exact Nat.le_refl _)⟩
      case measure => simp [intOf]; omega
    · obtain rfl : k = ls.length := by omega
      have HV : Hid (Vals vs ls) := by
        have h := hv.out
        rw [List.take_of_length_le (Nat.le_refl _)] at h
        exact h
      clear hv
      go_wp2
      go_loopw [5, 7] (fun v i wr => ∃ (k : Nat) (vs : List Value), k ≤ ms.length ∧ i = .int .i64 k ∧ v = .slice (some ⟨w.heap.size, 0, none⟩) (ls.length + k) (ls.length + ms.length) ∧
          Hid (wr.ownsRow w.heap.size 27 1 (.slice (some ⟨w.heap.size, 0, none⟩) (ls.length + k) (ls.length + ms.length)) (ls.length + k) vs) ∧ Hid (Vals vs (ls ++ ms.take k)) ∧ Hid (Below w.heap.size w wr)) (fun _ i _ => ms.length - (intOf i).toNat)
      case atStart => exact ⟨0, vs, Nat.zero_le _, rfl, rfl, ho, by rw [List.take_zero, List.append_nil]; exact HV, hb⟩
      case round =>
        clear ho hb HV
        obtain ⟨k, vs, hk, rfl, rfl, ho, hv, hb⟩ := hrel
        by_cases hlt : k < ms.length
        · obtain ⟨b, off, A, C, rfl, hcell0⟩ := HB.out k hlt
          have hcell : wr.cell? ⟨b, off + k, none⟩ = some (.slice A ms[k] C) := (hb.out.cell (p := ⟨b, off + k, none⟩) (block_lt hcell0)).trans hcell0
          clear hcell0
          go_wp2_with (at_builtin; refine wpList_append_fits _ rfl (.tmp 33) (.tmp 38) 22 rfl w.heap.size 27 i0 1 Trym.underlying22 hi hz1 w.heap.size (ls.length + k) (ls.length + ms.length) vs rfl (ho.out.alloc _) ⟨wr.heap.size, 0, none⟩ 1 1 [.slice A ms[k] C] rfl rfl (by intro t u ht; match t, ht with | 0, ht => simp at ht; subst ht; simp [Addr.add]) (by intro u hu; simp at hu; subst hu; rfl) (by omega) ?_; intro w1 hown1 hgrow1)
          go_roundw
          case rel =>
            exact ⟨k + 1, vs ++ [Value.slice A ms[k] C], by omega, by go_num, rfl, hown1, by rw [take_snoc ms k hlt, ← List.append_assoc]; exact hv.out.snoc A _ C,
              (hb.out.alloc hb.out.size _).grown hgrow1 (by have := hb.out.size; simp; omega) (fun j h => by cases h; exact Nat.le_refl _)⟩
          case measure => simp [intOf]; omega
        · obtain rfl : k = ms.length := by omega
          have HV : Hid (Vals vs (ls ++ ms)) := by
            have h := hv.out
            rw [List.take_of_length_le (Nat.le_refl _)] at h
            exact h
          go_wp2
          go_ret
          exact ⟨_, _, by rw [List.length_append]; rfl, HV.out.bs List.length_append ho.out, hb.out⟩
end Go.Proofs.Qxb6603120aMods.Bd
