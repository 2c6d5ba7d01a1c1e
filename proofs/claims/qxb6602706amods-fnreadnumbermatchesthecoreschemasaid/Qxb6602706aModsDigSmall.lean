/-
  THE WALK of digitsIn at a base of at most ten: eight bytes at a time.
-/
import Derived.Test.Qxb6602706aModsDigWalks
import Derived.Deep.LoopGhost
import Derived.Deep.CutRange
import Derived.Deep.CutBlock
namespace Go.Proofs.Qxb6602706aMods.Dig
open Go.RowKit

theorem word_eq (b0 b1 b2 b3 b4 b5 b6 b7 : Nat) (h0 : b0 < 256) (h1 : b1 < 256) (h2 : b2 < 256) (h3 : b3 < 256) (h4 : b4 < 256) (h5 : b5 < 256) (h6 : b6 < 256) (h7 : b7 < 256) :
    (bits BinOp.or IntKind.u64 (bits BinOp.or IntKind.u64 (bits BinOp.or IntKind.u64 (bits BinOp.or IntKind.u64 (bits BinOp.or IntKind.u64 (bits BinOp.or IntKind.u64 (bits BinOp.or IntKind.u64 (b0 : Int) ((b1 : Int) * 256)) ((b2 : Int) * 65536)) ((b3 : Int) * 16777216)) ((b4 : Int) * 4294967296)) ((b5 : Int) * 1099511627776)) ((b6 : Int) * 281474976710656)) ((b7 : Int) * 72057594037927936)) = ((le [b0, b1, b2, b3, b4, b5, b6, b7] : Nat) : Int) := by
  simp (disch := omega) only [u64_or8, u64_or16, u64_or24, u64_or32, u64_or40, u64_or48, u64_or56]
  simp only [le]
  omega

/-- The eight bytes from k on, as one number, the least first. -/
def wordAt (s : ByteArray) (k : Nat) (h : k + 8 ≤ s.size) : Nat := le [(s[k]'(by omega)).toNat, (s[k + 1]'(by omega)).toNat, (s[k + 2]'(by omega)).toNat, (s[k + 3]'(by omega)).toNat, (s[k + 4]'(by omega)).toNat, (s[k + 5]'(by omega)).toNat, (s[k + 6]'(by omega)).toNat, (s[k + 7]'(by omega)).toNat]

theorem wordAt_eq (s : ByteArray) (k : Nat) (h : k + 8 ≤ s.size) :
    (bits BinOp.or IntKind.u64 (bits BinOp.or IntKind.u64 (bits BinOp.or IntKind.u64 (bits BinOp.or IntKind.u64 (bits BinOp.or IntKind.u64 (bits BinOp.or IntKind.u64 (bits BinOp.or IntKind.u64 ((s[k]'(by omega)).toNat : Int) (((s[k + 1]'(by omega)).toNat : Int) * 256)) (((s[k + 2]'(by omega)).toNat : Int) * 65536)) (((s[k + 3]'(by omega)).toNat : Int) * 16777216)) (((s[k + 4]'(by omega)).toNat : Int) * 4294967296)) (((s[k + 5]'(by omega)).toNat : Int) * 1099511627776)) (((s[k + 6]'(by omega)).toNat : Int) * 281474976710656)) (((s[k + 7]'(by omega)).toNat : Int) * 72057594037927936)) = (wordAt s k h : Int) :=
  word_eq _ _ _ _ _ _ _ _ (UInt8.toNat_lt _) (UInt8.toNat_lt _) (UInt8.toNat_lt _) (UInt8.toNat_lt _) (UInt8.toNat_lt _) (UInt8.toNat_lt _) (UInt8.toNat_lt _) (UInt8.toNat_lt _)

theorem wordAt_lt (s : ByteArray) (k : Nat) (h : k + 8 ≤ s.size) : wordAt s k h < 18446744073709551616 := by
  refine Nat.lt_of_lt_of_le (le_lt _ fun x hx => ?_) (by simp)
  simp only [List.mem_cons, List.not_mem_nil, or_false] at hx
  rcases hx with rfl | rfl | rfl | rfl | rfl | rfl | rfl | rfl <;> exact UInt8.toNat_lt _

theorem and_u64 (a : Nat) (ha : a < 18446744073709551616) : bits .and .u64 (a : Int) 17361641481138401520 = ((a &&& 17361641481138401520 : Nat) : Int) :=
  (bits_nat .u64 64 (by decide) wraps_u64 a 17361641481138401520 ha (by omega)).1

/-- Both tests passed. -/
theorem wordAt_digits (b : Nat) (hb : b ≤ 10) (s : ByteArray) (k : Nat) (h : k + 8 ≤ s.size) (hu : AllDig b s k)
    (h1 : bits .and .u64 (wordAt s k h : Int) 17361641481138401520 = 3472328296227680304)
    (h2 : (bits .and .u64 (IntKind.u64.wrap ((wordAt s k h : Int) + (16 - (b : Int)) * 72340172838076673)) 17361641481138401520 != 3472328296227680304) = false) : AllDig b s (k + 8) := by
  have hlt := wordAt_lt s k h
  rw [and_u64 _ hlt] at h1
  have e : IntKind.u64.wrap ((wordAt s k h : Int) + (16 - (b : Int)) * 72340172838076673) = (((wordAt s k h + (16 - b) * 72340172838076673) % 18446744073709551616 : Nat) : Int) := by
    rw [IntKind.wrap_u64]
    have : (16 - (b : Int)) = ((16 - b : Nat) : Int) := by omega
    rw [this]
    omega
  rw [e, and_u64 _ (Nat.mod_lt _ (by omega))] at h2
  have h2' : (((wordAt s k h + (16 - b) * 72340172838076673) % 18446744073709551616 &&& 17361641481138401520 : Nat) : Int) = 3472328296227680304 := by
    simpa only [bne_eq_false_iff_eq] using h2
  have g1 : wordAt s k h &&& 17361641481138401520 = 3472328296227680304 := by omega
  have g2 : (wordAt s k h + (16 - b) * 72340172838076673) % 18446744073709551616 &&& 17361641481138401520 = 3472328296227680304 := by omega
  have g := eight_digits b hb _ _ _ _ _ _ _ _ (UInt8.toNat_lt _) (UInt8.toNat_lt _) (UInt8.toNat_lt _) (UInt8.toNat_lt _) (UInt8.toNat_lt _) (UInt8.toNat_lt _) (UInt8.toNat_lt _) (UInt8.toNat_lt _) g1 g2
  obtain ⟨d0, d1, d2, d3, d4, d5, d6, d7⟩ := g
  have D : ∀ c : UInt8, 48 ≤ c.toNat ∧ c.toNat < 48 + b → isDig b c = true := fun c hc => by rw [isDig_dec hb]; exact decide_eq_true hc
  exact (((((((hu.succ (by omega) (D _ d0)).succ (by omega) (D _ d1)).succ (by omega) (D _ d2)).succ (by omega) (D _ d3)).succ (by omega) (D _ d4)).succ (by omega) (D _ d5)).succ (by omega) (D _ d6)).succ (by omega) (D _ d7)

theorem drewN_add {w wr w' : World} (h : ∃ n, wr = w.drewN n) (h' : ∃ n, w' = wr.drewN n) : ∃ n, w' = w.drewN n := by
  obtain ⟨n, rfl⟩ := h
  obtain ⟨m, rfl⟩ := h'
  exact ⟨n + m, by simp⟩

set_option maxRecDepth 100000 in
set_option maxHeartbeats 400000 in
theorem digitsIn_small (s : ByteArray) (b : Nat) (hb : b ≤ 10) (hs : s.size ≤ maxLen) (w : World) :
    Calls Trym.prog 24 #[.string s, .int .u8 (b : Int)] w fun e w' => e = .returned (.int .i64 (cnt b s.data.toList)) ∧ ∃ n, w' = w.drewN n := by
  unfold maxLen at hs
  have hb10 : decide ((b : Int) ≤ 10) = true := decide_eq_true (by omega)
  go_enter Trym.func24, Trym.ntmps24
  go_upto_block 0 with fail
  go_cut [6] from 17 to 86 (fun i w' => ∃ k : Nat, k ≤ s.size ∧ i = .int .i64 k ∧ Hid (AllDig b s k) ∧ Hid (∃ n, w' = w.drewN n))
  case first =>
    go_wp2_with fail
    go_loopg [6] s.size (fun g i wr => ∃ k : Nat, k + g = s.size ∧ i = .int .i64 k ∧ Hid (AllDig b s k) ∧ Hid (∃ n, wr = w.drewN n))
    case atStart => exact ⟨0, by omega, rfl, AllDig.zero _ _, ⟨0, rfl⟩⟩
    case round =>
      obtain ⟨k, hk, rfl, hu, hw⟩ := hrel
      by_cases hlt : k + 8 ≤ s.size
      · have q0 : (k : Int) < (s.size : Int) := by omega
        have q1 : (k : Int) + 1 < (s.size : Int) := by omega
        have q2 : (k : Int) + 2 < (s.size : Int) := by omega
        have q3 : (k : Int) + 3 < (s.size : Int) := by omega
        have q4 : (k : Int) + 4 < (s.size : Int) := by omega
        have q5 : (k : Int) + 5 < (s.size : Int) := by omega
        have q6 : (k : Int) + 6 < (s.size : Int) := by omega
        have q7 : (k : Int) + 7 < (s.size : Int) := by omega
        have p1 : (0 : Int) ≤ (k : Int) + 1 := by omega
        have p2 : (0 : Int) ≤ (k : Int) + 2 := by omega
        have p3 : (0 : Int) ≤ (k : Int) + 3 := by omega
        have p4 : (0 : Int) ≤ (k : Int) + 4 := by omega
        have p5 : (0 : Int) ≤ (k : Int) + 5 := by omega
        have p6 : (0 : Int) ≤ (k : Int) + 6 := by omega
        have p7 : (0 : Int) ≤ (k : Int) + 7 := by omega
        have hx1 : (s[k + 1]'(by omega)).toNat < 256 := UInt8.toNat_lt _
        have hx2 : (s[k + 2]'(by omega)).toNat < 256 := UInt8.toNat_lt _
        have hx3 : (s[k + 3]'(by omega)).toNat < 256 := UInt8.toNat_lt _
        have hx4 : (s[k + 4]'(by omega)).toNat < 256 := UInt8.toNat_lt _
        have hx5 : (s[k + 5]'(by omega)).toNat < 256 := UInt8.toNat_lt _
        have hx6 : (s[k + 6]'(by omega)).toNat < 256 := UInt8.toNat_lt _
        have hx7 : (s[k + 7]'(by omega)).toNat < 256 := UInt8.toNat_lt _
        have hx0 : (s[k]'(by omega)).toNat < 256 := UInt8.toNat_lt _
        go_upto_region 6 with fail
        go_cut [6, 7] from 17 to 86 (fun i v w' => i = .int .i64 k ∧ v = .int .u64 (wordAt s k hlt : Int) ∧ Hid (∃ n, w' = wr.drewN n))
        case first =>
          go_big_quiet (fail)
          go_wp2_with fail
          go_meet
          case rel =>
            exact ⟨rfl, congrArg (Value.int IntKind.u64) (wordAt_eq s k hlt), ⟨nq, rfl⟩⟩
        case rest =>
          obtain ⟨rfl, rfl, hq⟩ := hcut
          go_wp2_with fail
          · go_meet
            case rel => exact ⟨k, by omega, rfl, hu, drewN_add hw.out hq.out⟩
          · have t1 : bits .and .u64 (wordAt s k hlt : Int) 17361641481138401520 = 3472328296227680304 := by assumption
            have t2 : (bits .and .u64 (IntKind.u64.wrap ((wordAt s k hlt : Int) + (16 - (b : Int)) * 72340172838076673)) 17361641481138401520 != 3472328296227680304) = false := by assumption
            go_roundg (gk - 8)
            case measure => omega
            case rel => exact ⟨k + 8, by omega, by go_num, wordAt_digits b hb s k hlt hu.out t1 t2, drewN_add hw.out hq.out⟩
          · go_meet
            case rel => exact ⟨k, by omega, rfl, hu, drewN_add hw.out hq.out⟩
      · go_wp2_with fail
        go_meet
        case rel => exact ⟨k, by omega, rfl, hu, hw⟩
  case rest =>
    obtain ⟨k0, hk0, rfl, hu0, hw0⟩ := hcut
    go_wp2_with fail
    go_loop [6] (fun i => ∃ k : Nat, k ≤ s.size ∧ i = .int .i64 k ∧ Hid (AllDig b s k)) (fun i => s.size - (intOf i).toNat)
    case atStart => exact ⟨k0, hk0, rfl, hu0⟩
    case round =>
      obtain ⟨k, hk, rfl, hu⟩ := hrel
      by_cases hlt : k < s.size
      · have hc : s[k].toNat < 256 := UInt8.toNat_lt _
        go_wp2_with fail
        · have t1 : ((s[k].toNat : Int) - 48) % 256 < (b : Int) := by assumption
          go_round
          case rel => exact ⟨k + 1, by omega, by go_num, hu.out.succ hlt (by rw [isDig_dec hb]; exact decide_eq_true (by omega))⟩
          case measure => simp [intOf]; omega
        · have t1 : (b : Int) ≤ ((s[k].toNat : Int) - 48) % 256 := by assumption
          go_ret
          exact ⟨ret_int (by rw [cnt_stop hu.out hlt (by rw [isDig_dec hb]; exact decide_eq_false (by omega))]), hw0.out⟩
      · go_wp2_with fail
        go_ret
        exact ⟨ret_int (by rw [cnt_end hu.out (by omega)]; omega), hw0.out⟩
end Go.Proofs.Qxb6602706aMods.Dig
