/-
  THE LAW's WALK: FnBindersLenConcatAdditive returns true, out of its callees' contracts.
-/
import Derived.Test.Qxb6603120aModsJoinWalk
namespace Go.Proofs.Qxb6603120aMods.Bd
open Go.RowKit

theorem Rs.below {w w' : World} {ao : Option Addr} {ls : List Nat} (h : Rs w ao ls) (hb : Below w.heap.size w w') : Rs w' ao ls := fun i hi => by
  obtain ⟨b, off, A, C, h1, h2, h3⟩ := h i hi
  refine ⟨b, off, A, C, h1, (hb.cell (p := ⟨b, off + i, none⟩) (block_lt h2)).trans h2, h3.1, fun a' ha' j hj => ?_⟩
  obtain ⟨b', o', z, e, hc⟩ := h3.2 a' ha' j hj
  exact ⟨b', o', z, e, (hb.cell (p := ⟨b', o' + j, none⟩) (block_lt hc)).trans hc⟩

/-- cloneBinders, of nil too. -/
theorem clone_any (ao : Option Addr) (cap : Nat) (ls : List Nat) (w : World) (hR : Rs w ao ls) (h0 : ao = none → ls = [] ∧ cap = 0) (hn : ls.length ≤ 65536) (hM : ∀ l ∈ ls, l ≤ 1048576) :
    Calls Trym.prog 6 #[.slice ao ls.length cap] w fun e w' => ∃ (ao' : Option Addr) (cap' : Nat), e = .returned (.slice ao' ls.length cap') ∧ Bs w' ao' ls ∧ Below w.heap.size w w' := by
  cases ao with
  | none =>
    obtain ⟨rfl, rfl⟩ := h0 rfl
    refine (clone_nil w).mono ?_
    rintro e w' ⟨rfl, rfl⟩
    exact ⟨none, 0, rfl, fun i hi => absurd hi (Nat.not_lt_zero _), Below.refl _ _⟩
  | some a => exact clone_some a cap ls w hR hn hM

theorem zzlen_at (ao : Option Addr) (cap : Nat) (ls : List Nat) (T : Nat) (hT : tot ls = T) (w : World) (hB : Bs w ao ls) (hb : T ≤ 4194304) :
    Calls Trym.prog 8 #[.slice ao ls.length cap] w fun e w' => e = .returned (.int .i64 (2 + (T : Int))) ∧ w' = w := by
  have ht := tot_eq ls
  have h := bindersLen_any ao cap ls w hB (by omega) (by omega)
  rw [hT] at h
  have H : Hid (Calls Trym.prog 9 #[.slice ao ls.length cap] w fun e w' => e = .returned (.int .i64 (2 + (T : Int))) ∧ w' = w) := h
  clear h ht hT
  go_enter Trym.func8, Trym.ntmps8
  go_wp2_with fail
  refine H.out.mono ?_
  rintro e w1 ⟨rfl, rfl⟩
  go_wp2
  go_ret
  exact ⟨rfl, rfl⟩

theorem le_sum {ls : List Nat} {l : Nat} (h : l ∈ ls) : l ≤ sum ls := by
  unfold sum
  induction ls with
  | nil => cases h
  | cons a r ih =>
    rw [List.sum_cons]
    rcases List.mem_cons.1 h with rfl | h
    · omega
    · have := ih h
      omega

set_option maxHeartbeats 1000000 in
set_option maxRecDepth 100000 in
theorem walk (ao bo : Option Addr) (ca cb : Nat) (ls ms : List Nat) (w : World) (hA : Rs w ao ls) (hB : Rs w bo ms) (nA : ao = none → ls = [] ∧ ca = 0) (nB : bo = none → ms = [] ∧ cb = 0) (hl : ls.length ≤ maxLen) (hm : ms.length ≤ maxLen)
    (hL : ∀ l ∈ ls, l ≤ maxLen) (hM : ∀ l ∈ ms, l ≤ maxLen) :
    Calls Trym.prog 3 #[.slice ao ls.length ca, .slice bo ms.length cb] w fun e w' => e = .returned (.bool true) ∧ Below w.heap.size w w' := by
  have HA : Hid (Rs w ao ls) := hA
  have HB : Hid (Rs w bo ms) := hB
  have NA : Hid (ao = none → ls = [] ∧ ca = 0) := nA
  have NB : Hid (bo = none → ms = [] ∧ cb = 0) := nB
  have HL : Hid (∀ l ∈ ls, l ≤ maxLen) := hL
  have HM : Hid (∀ l ∈ ms, l ≤ maxLen) := hM
  have Hl : Hid (ls.length ≤ maxLen) := hl
  have Hm : Hid (ms.length ≤ maxLen) := hm
  unfold maxLen at hl hm
  clear hA hB nA nB hL hM
  go_enter Trym.func3, Trym.ntmps3
  go_wp2_with fail
  refine (zzBytes_any ao bo ca cb ls ms _ HA.out.bs HB.out.bs Hl.out Hm.out HL.out HM.out).mono ?_
  rintro e w1 ⟨⟨r, rfl⟩, rfl⟩
  cases r with
  | false =>
    go_wp2_with fail
    go_ret
    exact ⟨rfl, Below.refl _ _⟩
  | true =>
    by_cases h1 : 65536 < ls.length
    · go_wp2_with fail
      go_ret
      exact ⟨rfl, Below.refl _ _⟩
    by_cases h2 : 65536 < ms.length
    · go_wp2_with fail
      go_ret
      exact ⟨rfl, Below.refl _ _⟩
    go_wp2_with fail
    refine (bindersBytes_any ao ca ls _ HA.out.bs (by omega) HL.out).mono ?_
    rintro e w2 ⟨t, rfl, ht, rfl⟩
    have HT : Hid (t ≤ 1048576 → t = 24 * (ls.length : Int) + (sum ls : Int)) := ht
    clear ht
    by_cases h3 : 1048576 < t
    · go_wp2_with fail
      go_ret
      exact ⟨rfl, Below.refl _ _⟩
    go_wp2_with fail
    refine (bindersBytes_any bo cb ms _ HB.out.bs (by omega) HM.out).mono ?_
    rintro e w3 ⟨t2, rfl, ht2, rfl⟩
    have HT2 : Hid (t2 ≤ 1048576 → t2 = 24 * (ms.length : Int) + (sum ms : Int)) := ht2
    clear ht2
    have ht0 := HT.out (by omega)
    have h0 : 0 ≤ t := by omega
    clear ht0
    by_cases h4 : 1048576 < t2
    · go_wp2_with fail
      go_ret
      exact ⟨rfl, Below.refl _ _⟩
    have ht0 := HT2.out (by omega)
    have h02 : 0 ≤ t2 := by omega
    clear ht0
    by_cases h5 : 1048576 < t + t2
    · go_wp2_with fail
      go_ret
      exact ⟨rfl, Below.refl _ _⟩
    have hsl : sum ls ≤ 1048576 := by have := HT.out (by omega); omega
    have hsm : sum ms ≤ 1048576 := by have := HT2.out (by omega); omega
    go_wp2_with fail
    refine (clone_any ao ca ls _ HA.out NA.out (by omega) (fun l h => Nat.le_trans (le_sum h) hsl)).mono ?_
    rintro e w4 ⟨ao', ca', rfl, hA4, hb4⟩
    have HA4 : Hid (Bs w4 ao' ls) := hA4
    have HB4 : Hid (Below w3.heap.size w3 w4) := hb4
    clear hA4 hb4
    go_wp2_with fail
    refine (clone_any bo cb ms _ (HB.out.below HB4.out) NB.out (by omega) (fun l h => Nat.le_trans (le_sum h) hsm)).mono ?_
    rintro e w5 ⟨bo', cb', rfl, hB5, hb5⟩
    have HB5 : Hid (Bs w5 bo' ms) := hB5
    have HA5 : Hid (Bs w5 ao' ls) := HA4.out.below hb5
    have HW5 : Hid (Below w3.heap.size w3 w5) := HB4.out.trans (hb5.mono HB4.out.size)
    clear hB5 hb5 HA4 HB4
    go_wp2_with fail
    refine (join_any ao' bo' ca' cb' ls ms _ HA5.out HB5.out (by omega) (by omega)).mono ?_
    rintro e w6 ⟨co, cc, rfl, hC6, hb6⟩
    have HC6 : Hid (Bs w6 co (ls ++ ms)) := hC6
    have HA6 : Hid (Bs w6 ao' ls) := HA5.out.below hb6
    have HB6 : Hid (Bs w6 bo' ms) := HB5.out.below hb6
    have HW6 : Hid (Below w3.heap.size w3 w6) := HW5.out.trans (hb6.mono HW5.out.size)
    clear hC6 hb6 HA5 HB5 HW5
    generalize hlab : (ls ++ ms).length = lab
    have HLab : Hid ((ls ++ ms).length = lab) := hlab
    clear hlab
    go_wp2_with fail
    refine (join_any bo' ao' cb' ca' ms ls _ HB6.out HA6.out (by omega) (by omega)).mono ?_
    rintro e w7 ⟨eo, ce, rfl, hE7, hb7⟩
    have HE7 : Hid (Bs w7 eo (ms ++ ls)) := hE7
    have HC7 : Hid (Bs w7 co (ls ++ ms)) := HC6.out.below hb7
    have HA7 : Hid (Bs w7 ao' ls) := HA6.out.below hb7
    have HB7 : Hid (Bs w7 bo' ms) := HB6.out.below hb7
    have HW7 : Hid (Below w3.heap.size w3 w7) := HW6.out.trans (hb7.mono HW6.out.size)
    clear hE7 hb7 HC6 HA6 HB6 HW6
    generalize hlba : (ms ++ ls).length = lba
    have HLba : Hid ((ms ++ ls).length = lba) := hlba
    clear hlba
    have TA := tot_eq ls
    have TB := tot_eq ms
    obtain ⟨ta, hta⟩ : ∃ ta, tot ls = ta := ⟨_, rfl⟩
    obtain ⟨tb, htb⟩ : ∃ tb, tot ms = tb := ⟨_, rfl⟩
    have hba : ta ≤ 2000000 := by omega
    have hbb : tb ≤ 2000000 := by omega
    have HTA : Hid (tot ls = ta) := hta
    have HTB : Hid (tot ms = tb) := htb
    clear TA TB hta htb
    go_wp2_with fail
    refine (zzlen_at ao' ca' ls ta HTA.out _ HA7.out (by omega)).mono ?_
    rintro e w8 ⟨rfl, rfl⟩
    go_wp2_with fail
    refine (zzlen_at bo' cb' ms tb HTB.out _ HB7.out (by omega)).mono ?_
    rintro e w9 ⟨rfl, rfl⟩
    go_wp2_with fail
    rw [← HLab.out]
    refine (zzlen_at co cc (ls ++ ms) (ta + tb) (by rw [tot_append, HTA.out, HTB.out]) _ HC7.out (by omega)).mono ?_
    rintro e w10 ⟨rfl, rfl⟩
    go_wp2_with fail
    rw [← HLba.out]
    refine (zzlen_at eo ce (ms ++ ls) (ta + tb) (by rw [tot_append, HTA.out, HTB.out, Nat.add_comm]) _ HE7.out (by omega)).mono ?_
    rintro e w11 ⟨rfl, rfl⟩
    go_wp2_with fail
    go_ret
    exact ⟨rfl, HW7.out⟩
end Go.Proofs.Qxb6603120aMods.Bd
