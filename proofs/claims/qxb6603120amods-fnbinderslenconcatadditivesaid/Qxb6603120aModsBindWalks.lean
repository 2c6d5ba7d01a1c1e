/-
  THE WALKS over lists of binders that only read: bindersLen, bindersBytes, zzBytes.
-/
import Derived.Test.Qxb6603120aModsRows
import Derived.WalkKit
import Derived.WalkLawsBesides
import Derived.Deep.OwnRows
namespace Go.Proofs.Qxb6603120aMods.Bd
open Go.RowKit

/-- What the binders of these lengths take: one byte more each. -/
def tot (ls : List Nat) : Nat := (ls.map (· + 1)).sum
def sum (ls : List Nat) : Nat := ls.sum
theorem tot_eq (ls : List Nat) : tot ls = sum ls + ls.length := by
  unfold tot sum
  induction ls with
  | nil => rfl
  | cons a l ih => simp only [List.map_cons, List.sum_cons, List.length_cons, ih]; omega
theorem tot_append (ls ms : List Nat) : tot (ls ++ ms) = tot ls + tot ms := by simp [tot]
theorem sum_append (ls ms : List Nat) : sum (ls ++ ms) = sum ls + sum ms := by simp [sum]
theorem take_snoc (ls : List Nat) (k : Nat) (h : k < ls.length) : ls.take (k + 1) = ls.take k ++ [ls[k]] := List.take_succ_eq_append_getElem h
theorem sum_snoc (ls : List Nat) (k : Nat) (h : k < ls.length) : sum (ls.take (k + 1)) = sum (ls.take k) + ls[k] := by rw [take_snoc ls k h, sum_append]; simp [sum]
theorem sum_take_le (ls : List Nat) (k : Nat) : sum (ls.take k) ≤ sum ls := by
  have := sum_append (ls.take k) (ls.drop k)
  rw [List.take_append_drop] at this
  omega
theorem sum_take_at (ls : List Nat) (k : Nat) (h : k < ls.length) : sum (ls.take k) + ls[k] ≤ sum ls := by
  have := sum_take_le ls (k + 1)
  rw [sum_snoc ls k h] at this
  exact this

/-- The slice at ao, as long as ls, holds slices of these lengths. -/
def Bs (w : World) (ao : Option Addr) (ls : List Nat) : Prop :=
  ∀ i (h : i < ls.length), ∃ (b off : Nat) (A : Option Addr) (C : Nat), ao = some ⟨b, off, none⟩ ∧ w.cell? ⟨b, off + i, none⟩ = some (.slice A ls[i] C)

theorem ret_int {k : IntKind} {a b : Int} (h : a = b) : Ending.returned (.int k a) = .returned (.int k b) := by rw [h]

set_option maxHeartbeats 400000 in
theorem bindersLen_any (ao : Option Addr) (cap : Nat) (ls : List Nat) (w : World) (hB : Bs w ao ls) (hb : sum ls ≤ 4194304) (hn : ls.length ≤ 4194304) :
    Calls Trym.prog 9 #[.slice ao ls.length cap] w fun e w' => e = .returned (.int .i64 (2 + (tot ls : Int))) ∧ w' = w := by
  have HB : Hid (Bs w ao ls) := hB
  clear hB
  go_enter Trym.func9, Trym.ntmps9
  go_wp2
  go_loop [3, 8] (fun n i => ∃ k : Nat, k ≤ ls.length ∧ i = .int .i64 k ∧ n = .int .i64 (2 + (sum (ls.take k) : Int) + k)) (fun _ i => ls.length - (intOf i).toNat)
  case atStart => exact ⟨0, Nat.zero_le _, rfl, rfl⟩
  case round =>
    obtain ⟨k, hk, rfl, rfl⟩ := hrel
    have hle := sum_take_le ls k
    by_cases hlt : k < ls.length
    · obtain ⟨b, off, A, C, rfl, hcell⟩ := HB.out k hlt
      have hl2 := sum_take_at ls k hlt
      have HS : Hid (sum (ls.take (k + 1)) = sum (ls.take k) + ls[k]) := sum_snoc ls k hlt
      go_wp2
      go_round
      case rel => exact ⟨k + 1, by omega, by go_num, congrArg (Value.int IntKind.i64) (by rw [HS.out]; omega)⟩
      case measure => simp [intOf]; omega
    · have HT : Hid (sum (ls.take k) = sum ls) := by show _ = _; rw [List.take_of_length_le (by omega)]
      go_wp2
      go_ret
      exact ⟨ret_int (by rw [HT.out, tot_eq]; omega), rfl⟩

set_option maxHeartbeats 400000 in
theorem bindersBytes_any (ao : Option Addr) (cap : Nat) (ls : List Nat) (w : World) (hB : Bs w ao ls) (hn : ls.length ≤ 65536) (hM : ∀ l ∈ ls, l ≤ maxLen) :
    Calls Trym.prog 5 #[.slice ao ls.length cap] w fun e w' => ∃ t : Int, e = .returned (.int .i64 t) ∧ (t ≤ 1048576 → t = 24 * (ls.length : Int) + (sum ls : Int)) ∧ w' = w := by
  have HB : Hid (Bs w ao ls) := hB
  have HM : Hid (∀ l ∈ ls, l ≤ maxLen) := hM
  clear hB hM
  by_cases h24 : 43690 < ls.length
  · go_enter Trym.func5, Trym.ntmps5
    go_wp2
    go_ret
    exact ⟨_, rfl, fun h => by omega, rfl⟩
  · go_enter Trym.func5, Trym.ntmps5
    go_wp2
    go_loop [3, 4] (fun n i => ∃ (k : Nat) (s : Int), k ≤ ls.length ∧ i = .int .i64 k ∧ n = .int .i64 s ∧ 0 ≤ s ∧ s ≤ 1048576 ∧ Hid (s = 24 * (ls.length : Int) + (sum (ls.take k) : Int))) (fun _ i => ls.length - (intOf i).toNat)
    case atStart => exact ⟨0, _, Nat.zero_le _, rfl, rfl, by omega, by omega, by show _ = _; simp [sum]⟩
    case round =>
      obtain ⟨k, s, hk, rfl, rfl, hs0, hs1, hs⟩ := hrel
      by_cases hlt : k < ls.length
      · obtain ⟨b, off, A, C, rfl, hcell⟩ := HB.out k hlt
        have hlm : ls[k] ≤ 9223372036854775807 := HM.out _ (List.getElem_mem hlt)
        have HS : Hid (sum (ls.take (k + 1)) = sum (ls.take k) + ls[k]) := sum_snoc ls k hlt
        by_cases hbig : 1048576 < ls[k]
        · go_wp2
          go_ret
          exact ⟨_, rfl, fun h => by omega, rfl⟩
        · by_cases hsum : 1048576 < s + (ls[k] : Int)
          · go_wp2
            go_ret
            exact ⟨_, rfl, fun h => by omega, rfl⟩
          · go_wp2
            go_round
            case rel => exact ⟨k + 1, s + (ls[k] : Int), by omega, by go_num, rfl, by omega, by omega, by show _ = _; rw [HS.out, hs.out]; omega⟩
            case measure => simp [intOf]; omega
      · have HT : Hid (sum (ls.take k) = sum ls) := by show _ = _; rw [List.take_of_length_le (by omega)]
        go_wp2
        go_ret
        exact ⟨_, rfl, fun _ => by rw [hs.out, HT.out], rfl⟩

/-- It returns a Bool. -/
def SomeBool (e : Ending) : Prop := ∃ r : Bool, e = .returned (.bool r)

set_option maxHeartbeats 400000 in
theorem zzBytes_any (ao bo : Option Addr) (ca cb : Nat) (ls ms : List Nat) (w : World) (hA : Bs w ao ls) (hB : Bs w bo ms) (hl : ls.length ≤ maxLen) (hm : ms.length ≤ maxLen) (hL : ∀ l ∈ ls, l ≤ maxLen) (hM : ∀ l ∈ ms, l ≤ maxLen) :
    Calls Trym.prog 4 #[.slice ao ls.length ca, .slice bo ms.length cb] w fun e w' => SomeBool e ∧ w' = w := by
  unfold maxLen at hl hm
  have HA : Hid (Bs w ao ls) := hA
  have HB : Hid (Bs w bo ms) := hB
  have HL : Hid (∀ l ∈ ls, l ≤ maxLen) := hL
  have HM : Hid (∀ l ∈ ms, l ≤ maxLen) := hM
  clear hA hB hL hM
  by_cases h1 : 1048576 < ls.length
  · go_enter Trym.func4, Trym.ntmps4
    go_wp2
    go_ret
    exact ⟨⟨_, rfl⟩, rfl⟩
  · go_enter Trym.func4, Trym.ntmps4
    go_wp2
    go_loop [5, 6] (fun n i => ∃ (k : Nat) (s : Int), k ≤ ls.length ∧ i = .int .i64 k ∧ n = .int .i64 s ∧ 0 ≤ s ∧ s ≤ 1048576) (fun _ i => ls.length - (intOf i).toNat)
    case atStart => exact ⟨0, _, Nat.zero_le _, rfl, rfl, by omega, by omega⟩
    case round =>
      obtain ⟨k, s, hk, rfl, rfl, hs0, hs1⟩ := hrel
      by_cases hlt : k < ls.length
      · obtain ⟨b, off, A, C, rfl, hcell⟩ := HA.out k hlt
        have hlm : ls[k] ≤ 9223372036854775807 := HL.out _ (List.getElem_mem hlt)
        by_cases hbig : 1048576 < ls[k]
        · go_wp2
          go_ret
          exact ⟨⟨_, rfl⟩, rfl⟩
        · by_cases hsum : 1048576 < s + (ls[k] : Int)
          · go_wp2
            go_ret
            exact ⟨⟨_, rfl⟩, rfl⟩
          · go_wp2
            go_round
            case rel => exact ⟨k + 1, s + (ls[k] : Int), by omega, by go_num, rfl, by omega, by omega⟩
            case measure => simp [intOf]; omega
      · by_cases h2 : 1048576 < ms.length
        · go_wp2
          go_ret
          exact ⟨⟨_, rfl⟩, rfl⟩
        · by_cases h3 : 1048576 < s + (ms.length : Int)
          · go_wp2
            go_ret
            exact ⟨⟨_, rfl⟩, rfl⟩
          · go_wp2
            go_loop [5, 7] (fun n i => ∃ (k : Nat) (s : Int), k ≤ ms.length ∧ i = .int .i64 k ∧ n = .int .i64 s ∧ 0 ≤ s ∧ s ≤ 1048576) (fun _ i => ms.length - (intOf i).toNat)
            case atStart => exact ⟨0, _, Nat.zero_le _, rfl, rfl, by omega, by omega⟩
            case round =>
              obtain ⟨k2, s2, hk2, rfl, rfl, hs02, hs12⟩ := hrel
              by_cases hlt2 : k2 < ms.length
              · obtain ⟨b, off, A, C, rfl, hcell⟩ := HB.out k2 hlt2
                have hlm : ms[k2] ≤ 9223372036854775807 := HM.out _ (List.getElem_mem hlt2)
                by_cases hbig : 1048576 < ms[k2]
                · go_wp2
                  go_ret
                  exact ⟨⟨_, rfl⟩, rfl⟩
                · by_cases hsum : 1048576 < s2 + (ms[k2] : Int)
                  · go_wp2
                    go_ret
                    exact ⟨⟨_, rfl⟩, rfl⟩
                  · go_wp2
                    go_round
                    case rel => exact ⟨k2 + 1, s2 + (ms[k2] : Int), by omega, by go_num, rfl, by omega, by omega⟩
                    case measure => simp [intOf]; omega
              · go_wp2
                go_ret
                exact ⟨⟨_, rfl⟩, rfl⟩
end Go.Proofs.Qxb6603120aMods.Bd
