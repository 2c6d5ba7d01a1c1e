/-
  THE WALK of cloneBinders: a fresh list of binders of the same lengths; nothing old has turned.
-/
import Derived.Test.Qxb6603120aModsBindWalks
namespace Go.Proofs.Qxb6603120aMods.Bd
open Go.RowKit

theorem info27 : (Trym.prog.info? 27).map (fun i => (i.zero, i.size, i.bytes)) = some (some (.slice none 0 0), 1, 24) := by kernel_rfl
theorem info5 : (Trym.prog.info? 5).map (fun i => (i.zero, i.size, i.bytes)) = some (some (.int .u8 0), 1, 1) := by kernel_rfl

/-- A byte slice that can be read: nil and empty, or its bytes lie at a plain address. -/
def Row (w : World) (A : Option Addr) (n : Nat) : Prop :=
  (A = none → n = 0) ∧ ∀ a', A = some a' → ∀ j, j < n → ∃ (b o : Nat) (z : Int), a' = ⟨b, o, none⟩ ∧ w.cell? ⟨b, o + j, none⟩ = some (.int .u8 z)

/-- The slice at ao, as long as ls, holds byte slices of these lengths that can be read. -/
def Rs (w : World) (ao : Option Addr) (ls : List Nat) : Prop :=
  ∀ i (h : i < ls.length), ∃ (b off : Nat) (A : Option Addr) (C : Nat), ao = some ⟨b, off, none⟩ ∧ w.cell? ⟨b, off + i, none⟩ = some (.slice A ls[i] C) ∧ Row w A ls[i]

theorem Rs.bs {w : World} {ao : Option Addr} {ls : List Nat} (h : Rs w ao ls) : Bs w ao ls := fun i hi => by
  obtain ⟨b, off, A, C, h1, h2, _⟩ := h i hi
  exact ⟨b, off, A, C, h1, h2⟩

theorem block_lt {w : World} {b o : Nat} {v : Value} (h : w.cell? ⟨b, o, none⟩ = some v) : b < w.heap.size := by
  rcases Nat.lt_or_ge b w.heap.size with h' | h'
  · exact h'
  · unfold World.cell? at h
    simp [Array.getElem?_eq_none h'] at h

theorem Bs.below {w w' : World} {ao : Option Addr} {ls : List Nat} (h : Bs w ao ls) (hb : Below w.heap.size w w') : Bs w' ao ls := fun i hi => by
  obtain ⟨b, off, A, C, h1, h2⟩ := h i hi
  exact ⟨b, off, A, C, h1, (hb.cell (p := ⟨b, off + i, none⟩) (block_lt h2)).trans h2⟩

/-- What the new outer row holds behind k rounds. -/
def Out (wr : World) (B k : Nat) (ls : List Nat) : Prop :=
  ∃ F : Nat → Value, wr.rowIs B 27 ls.length F ∧ ∀ j (h : j < ls.length), ∃ (A : Option Addr) (C : Nat), F j = .slice A (if j < k then ls[j] else 0) C

theorem Out.same {wr : World} {B k : Nat} {ls : List Nat} (h : Out wr B k ls) (hk : k < ls.length) (h0 : ls[k] = 0) : Out wr B (k + 1) ls := by
  obtain ⟨F, hr, hF⟩ := h
  refine ⟨F, hr, fun j hj => ?_⟩
  obtain ⟨A, C, e⟩ := hF j hj
  refine ⟨A, C, ?_⟩
  rw [e]
  by_cases e1 : j = k
  · subst e1
    simp [h0]
  · have : (j < k + 1) = (j < k) := by rw [eq_iff_iff]; omega
    simp only [this]

theorem Out.set {wr w2 : World} {B k : Nat} {ls : List Nat} (h : Out wr B k ls) (hk : k < ls.length) (hb : w2.heap[B]? = wr.heap[B]?) (ao : Option Addr) (C : Nat) : Out (w2.setCell ⟨B, k, none⟩ (.slice ao ls[k] C)) B (k + 1) ls := by
  obtain ⟨F, hr, hF⟩ := h
  refine ⟨_, (hr.of_block hb).set k _, fun j hj => ?_⟩
  by_cases e1 : j = k
  · subst e1
    exact ⟨ao, C, by simp⟩
  · obtain ⟨A, C', e⟩ := hF j hj
    refine ⟨A, C', ?_⟩
    have : (j < k + 1) = (j < k) := by rw [eq_iff_iff]; omega
    simp only [if_neg e1, e, this]

theorem Out.cell {wr : World} {B k : Nat} {ls : List Nat} (h : Out wr B k ls) {j : Nat} (hj : j < ls.length) : ∃ v, wr.cell? ⟨B, j, none⟩ = some v := by
  obtain ⟨F, hr, _⟩ := h
  exact ⟨_, hr.cell hj⟩
theorem Out.frozen {wr : World} {B k : Nat} {ls : List Nat} (h : Out wr B k ls) (j : Nat) : wr.frozen? ⟨B, j, none⟩ = false := by
  obtain ⟨F, hr, _⟩ := h
  exact hr.frozen j
theorem Out.lt {wr : World} {B k : Nat} {ls : List Nat} (h : Out wr B k ls) : B < wr.heap.size := by
  obtain ⟨F, hr, _⟩ := h
  exact hr.lt
theorem Out.fin {wr : World} {B k : Nat} {ls : List Nat} (h : Out wr B k ls) (hk : ls.length ≤ k) : Bs wr (some ⟨B, 0, none⟩) ls := fun i hi => by
  obtain ⟨F, hr, hF⟩ := h
  obtain ⟨A, C, e⟩ := hF i hi
  refine ⟨B, 0, A, C, rfl, ?_⟩
  rw [Nat.zero_add, hr.cell hi, e, if_pos (by omega)]

/-- The copy's own row. -/
def Dst (w2 : World) (D n : Nat) : Prop := ∃ f : Nat → Value, w2.rowIs D 5 n f

set_option maxHeartbeats 1000000 in
theorem clone_some (a : Addr) (cap : Nat) (ls : List Nat) (w : World) (hR : Rs w (some a) ls) (hn : ls.length ≤ 65536) (hM : ∀ l ∈ ls, l ≤ 1048576) :
    Calls Trym.prog 6 #[.slice (some a) ls.length cap] w fun e w' => ∃ (ao : Option Addr) (cap' : Nat), e = .returned (.slice ao ls.length cap') ∧ Bs w' ao ls ∧ Below w.heap.size w w' := by
  have HR : Hid (Rs w (some a) ls) := hR
  have HM : Hid (∀ l ∈ ls, l ≤ 1048576) := hM
  clear hR hM
  have heq := fun (w : World) (a : Addr) (n c : Nat) => Lib.run_eql_slice_nil (P := Trym.prog) w 22 27 (some a) n c 0 0 Trym.underlying22
  have heq2 := fun (w : World) (a : Option Addr) (n c : Nat) => Lib.run_eql_slice_nil (P := Trym.prog) w 27 5 a n c 0 0 Trym.underlying27
  have hmk := fun (w : World) => run_make_row' (P := Trym.prog) 22 27 (.slice none 0 0) 24 Trym.underlying22 info27 rfl .i64 .i64 ls.length (by omega) (by omega) w
  go_enter Trym.func6, Trym.ntmps6
  go_wp2
  go_loopw [4] (fun i wr => ∃ k : Nat, k ≤ ls.length ∧ i = .int .i64 k ∧ Hid (Out wr w.heap.size k ls) ∧ Hid (Below w.heap.size w wr)) (fun i _ => ls.length - (intOf i).toNat)
  case atStart => exact ⟨0, Nat.zero_le _, rfl, ⟨_, World.rowIs_made w _ _ _, fun j _ => ⟨none, 0, by simp⟩⟩, (Below.refl _ w).alloc (Nat.le_refl _) _⟩
  case round =>
    obtain ⟨k, hk, rfl, ho, hb⟩ := hrel
    clear hmk
    by_cases hlt : k < ls.length
    · obtain ⟨b, off, A, C, hab, hcell0, hrow⟩ := HR.out k hlt
      cases hab
      have hcell : wr.cell? ⟨b, off + k, none⟩ = some (.slice A ls[k] C) := (hb.out.cell (p := ⟨b, off + k, none⟩) (block_lt hcell0)).trans hcell0
      have HW : Hid (Row w A ls[k]) := hrow
      have HO : Hid (Out wr w.heap.size k ls) := ho
      clear hcell0 hrow ho
      cases A with
      | none =>
        have H0 : Hid (ls[k] = 0) := HW.out.1 rfl
        go_wp2
        go_roundw
        case rel => exact ⟨k + 1, by omega, by go_num, HO.out.same hlt H0.out, hb⟩
        case measure => simp [intOf]; omega
      | some a' =>
        have hl : ls[k] ≤ 1048576 := HM.out _ (List.getElem_mem hlt)
        have hmk2 := fun (w : World) => run_make_row' (P := Trym.prog) 27 5 (.int .u8 0) 1 Trym.underlying27 info5 rfl .i64 .i64 ls[k] (by omega) (by omega) w
        have hBD := HO.out.lt
        obtain ⟨n, hn'⟩ : ∃ n, n = ls[k] := ⟨_, rfl⟩
        rw [← hn'] at hcell hl hmk2 HW
        have HN : Hid (n = ls[k]) := hn'
        clear hn'
        obtain ⟨w1, hw1⟩ : ∃ w1, w1 = wr := ⟨_, rfl⟩
        subst hw1
        go_wp2
        clear hmk2
        go_loopw [7] (fun i w2 => ∃ m : Nat, m ≤ n ∧ i = .int .i64 m ∧ Hid (Dst w2 w1.heap.size n) ∧ Hid (Below w1.heap.size w1 w2)) (fun i _ => n - (intOf i).toNat)
        case atStart => exact ⟨0, Nat.zero_le _, rfl, ⟨_, World.rowIs_made w1 _ _ _⟩, (Below.refl _ w1).alloc (Nat.le_refl _) _⟩
        case round =>
          obtain ⟨m, hm, rfl, hd, hb2⟩ := hrel
          clear hcell
          by_cases hlt2 : m < n
          · obtain ⟨b', o', z, hab, hcell0⟩ := HW.out.2 a' rfl m hlt2
            cases hab
            have hblt := block_lt hcell0
            have hcell1 : wr.cell? ⟨b', o' + m, none⟩ = some (.int .u8 z) :=
              (hb2.out.cell (p := ⟨b', o' + m, none⟩) (Nat.lt_trans hblt hBD)).trans ((hb.out.cell (p := ⟨b', o' + m, none⟩) hblt).trans hcell0)
            obtain ⟨v, hv⟩ : ∃ v, wr.cell? ⟨w1.heap.size, m, none⟩ = some v := by
              obtain ⟨f, hf⟩ := hd.out
              exact ⟨_, hf.cell hlt2⟩
            have hfz : wr.frozen? ⟨w1.heap.size, m, none⟩ = false := by
              obtain ⟨f, hf⟩ := hd.out
              exact hf.frozen m
            clear hcell0
            go_wp2
            go_roundw
            case rel =>
              refine ⟨m + 1, by omega, by go_num, ?_, hb2.out.setCell (Nat.le_refl _) _⟩
              obtain ⟨f, hf⟩ := hd.out
              exact ⟨_, hf.set m _⟩
            case measure => simp [intOf]; omega
          · obtain ⟨v, hv⟩ : ∃ v, wr.cell? ⟨w.heap.size, k, none⟩ = some v := by
              obtain ⟨v, hv⟩ := HO.out.cell hlt
              exact ⟨v, (hb2.out.cell (p := ⟨w.heap.size, k, none⟩) hBD).trans hv⟩
            have hfz : wr.frozen? ⟨w.heap.size, k, none⟩ = false := (hb2.out.frozen (p := ⟨w.heap.size, k, none⟩) hBD).trans (HO.out.frozen k)
            go_wp2
            go_roundw
            case rel =>
              refine ⟨k + 1, by omega, by go_num, ?_, (hb.out.trans (hb2.out.mono (Nat.le_of_lt hBD))).setCell (Nat.le_refl _) _⟩
              rw [HN.out]
              exact HO.out.set hlt (hb2.out.block _ hBD) _ _
            case measure => simp [intOf]; omega
    · go_wp2
      go_ret
      exact ⟨_, _, rfl, ho.out.fin (by omega), hb.out⟩
end Go.Proofs.Qxb6603120aMods.Bd
