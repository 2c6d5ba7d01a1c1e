/-
  THE WALKS: exponentValue, zzExponent compute Rd.expo; zzAllDigitsOf.
-/
import Derived.Test.Qxb6602706aModsDigLaw
import Derived.Test.Qxb6602706aModsExpPlain
namespace Go.Proofs.Qxb6602706aMods.Rd
open Go.RowKit Dig

theorem take_snoc (s : ByteArray) (k : Nat) (h : k < s.size) : s.data.toList.take (k + 1) = s.data.toList.take k ++ [s[k]] := by
  rw [List.take_succ_eq_append_getElem (by simpa using h)]; rfl

/-- What exponentValue has behind k rounds. -/
def EvOk (d : ByteArray) (k e : Nat) : Prop := (e < lim → e = val (d.data.toList.take k)) ∧ (lim ≤ e → lim ≤ val (d.data.toList.take k))

theorem EvOk.zero (d : ByteArray) : EvOk d 0 0 := ⟨fun _ => by simp [val], fun h => by simp [lim] at h⟩

theorem EvOk.step {d : ByteArray} {k e : Nat} (h : EvOk d k e) (hk : k < d.size) (he : e < lim) : EvOk d (k + 1) (e * 10 + (d[k].toNat - 48)) := by
  have e1 := h.1 he
  have e2 : val (d.data.toList.take (k + 1)) = e * 10 + (d[k].toNat - 48) := by rw [take_snoc d k hk, val_snoc, ← e1]
  exact ⟨fun _ => e2.symm, fun h => by rw [e2]; exact h⟩

theorem EvOk.fin {d : ByteArray} {k e : Nat} (h : EvOk d k e) (hk : d.size ≤ k ∨ lim ≤ e) : min e lim = held d.data.toList := by
  have hle := val_take_le d.data.toList k
  by_cases he : e < lim
  · have hk' : d.size ≤ k := by omega
    have e1 := h.1 he
    rw [List.take_of_length_le (by simpa using hk')] at e1
    unfold held
    rw [← e1]
  · have := h.2 (by omega)
    rw [held_of_ge (by omega)]
    omega

set_option maxRecDepth 100000 in
set_option maxHeartbeats 400000 in
theorem expValue_any (d : ByteArray) (neg : Bool) (w : World) (hs : d.size ≤ maxLen) (hd : ∀ j (hj : j < d.size), dig d[j] = true) :
    Calls Trym.prog 35 #[.string d, .bool neg] w fun e w' => e = .returned (.int .i64 (expo d.data.toList neg)) ∧ w' = w := by
  unfold maxLen at hs
  have HD : Hid (∀ j (hj : j < d.size), dig d[j] = true) := hd
  clear hd
  go_enter Trym.func35, Trym.ntmps35
  go_wp2
  go_loop [5, 6] (fun v i => ∃ (k : Nat) (e : Int), k ≤ d.size ∧ i = .int .i64 k ∧ v = .int .i64 e ∧ 0 ≤ e ∧ e ≤ 5764607523034234879 ∧ Hid (EvOk d k e.toNat)) (fun _ i => d.size - (intOf i).toNat)
  case atStart => exact ⟨0, 0, Nat.zero_le _, rfl, rfl, by omega, by omega, EvOk.zero d⟩
  case round =>
    obtain ⟨k, e, hk, rfl, rfl, he0, he, hu⟩ := hrel
    by_cases hlt : k < d.size
    · by_cases hel : e < 576460752303423488
      · have hc := (dig_iff d[k]).1 (HD.out k hlt)
        have hc1 := hc.1
        have hc2 := hc.2
        clear hc
        go_wp2
        go_round
        case rel => exact ⟨k + 1, _, by omega, by go_num, rfl, by omega, by omega, by have := hu.out.step hlt (by unfold lim; omega); rwa [show (e * 10 + ((d[k].toNat : Int) - 48)).toNat = e.toNat * 10 + (d[k].toNat - 48) by omega]⟩
        case measure => simp [intOf]; omega
      · have HF : Hid (min e.toNat lim = held d.data.toList) := hu.out.fin (Or.inr (by unfold lim; omega))
        go_wp2
        all_goals
          go_ret
          exact ⟨ret_int (by have := HF.out; unfold expo; unfold lim at this; simp; omega), rfl⟩
    · have HF : Hid (min e.toNat lim = held d.data.toList) := hu.out.fin (Or.inl (by omega))
      go_wp2
      all_goals
        go_ret
        exact ⟨ret_int (by have := HF.out; unfold expo; unfold lim at this; simp; omega), rfl⟩
/-- The first k bytes are zeros. -/
def Zs (d : ByteArray) (k : Nat) : Prop := ∀ j (hj : j < d.size), j < k → d[j].toNat = 48

theorem Zs.succ {d : ByteArray} {k : Nat} (h : Zs d k) (hk : k < d.size) (hd : d[k].toNat = 48) : Zs d (k + 1) := by
  intro j hj hlt
  by_cases e : j = k
  · subst e; exact hd
  · exact h j hj (by omega)

theorem drop_cons (d : ByteArray) (k : Nat) (h : k < d.size) : d.data.toList.drop k = d[k] :: d.data.toList.drop (k + 1) := by
  rw [List.drop_eq_getElem_cons (by simpa using h)]; rfl

theorem great_held (d : ByteArray) (k : Nat) (hk : 18 < d.size - k) (hd : ∀ j (hj : j < d.size), dig d[j] = true) (hn : ∀ h : k < d.size, d[k].toNat ≠ 48)
    (hv : val (d.data.toList.drop k) = val d.data.toList) : held d.data.toList = lim := by
  have hlt : k < d.size := by omega
  have h1 := (dig_iff _).1 (hd k hlt)
  have h2 := hn hlt
  rw [drop_cons d k hlt] at hv
  have h3 := val_great d[k] (d.data.toList.drop (k + 1)) (by omega)
  have h4 : 10 ^ 18 ≤ 10 ^ (d.data.toList.drop (k + 1)).length := Nat.pow_le_pow_right (by omega) (by simp; omega)
  apply held_of_ge
  rw [← hv]
  refine Nat.le_trans ?_ (Nat.le_trans h4 h3)
  decide

theorem digits_le (d : ByteArray) (k j : Nat) (hd : ∀ j (hj : j < d.size), dig d[j] = true) : ∀ c ∈ (d.data.toList.drop k).take j, c.toNat ≤ 57 := by
  intro c hc
  have hc2 := List.mem_of_mem_drop (List.mem_of_mem_take hc)
  obtain ⟨n, hn, rfl⟩ := List.getElem_of_mem hc2
  have := hd n (by simpa using hn)
  exact ((dig_iff _).1 this).2

theorem part_small' (d : ByteArray) (k j : Nat) (e : Int) (hj : j ≤ 18) (hd : ∀ j (hj : j < d.size), dig d[j] = true) (hu : e.toNat = val ((d.data.toList.drop k).take j)) : e < 1000000000000000000 := by
  have h1 := val_lt _ (digits_le d k j hd)
  have h2 : 10 ^ ((d.data.toList.drop k).take j).length ≤ 10 ^ 18 := Nat.pow_le_pow_right (by omega) (by have := List.length_take_le j (d.data.toList.drop k); omega)
  rw [← hu] at h1
  have h3 : e.toNat < 10 ^ 18 := Nat.lt_of_lt_of_le h1 h2
  omega

theorem part_small (d : ByteArray) (k j : Nat) (e : Int) (hj : j < 18) (hd : ∀ j (hj : j < d.size), dig d[j] = true) (hu : e.toNat = val ((d.data.toList.drop k).take j)) : e < 100000000000000000 := by
  have h1 := val_lt _ (digits_le d k j hd)
  have h2 : 10 ^ ((d.data.toList.drop k).take j).length ≤ 10 ^ 17 := Nat.pow_le_pow_right (by omega) (by have := List.length_take_le j (d.data.toList.drop k); omega)
  rw [← hu] at h1
  have h3 : e.toNat < 10 ^ 17 := Nat.lt_of_lt_of_le h1 h2
  omega

theorem byte_extract (d : ByteArray) (k j : Nat) (hx : j < (d.extract k d.size).size) (h : k + j < d.size) : (d.extract k d.size)[j]'hx = d[k + j] := by
  rw [ByteArray.getElem_extract]

theorem sig_step (d : ByteArray) (k j : Nat) (e : Int) (he : 0 ≤ e) (hj : j < d.size - k) (hx : j < (d.extract k d.size).size) (hd : ∀ j (hj : j < d.size), dig d[j] = true)
    (hu : e.toNat = val ((d.data.toList.drop k).take j)) : (e * 10 + ((((d.extract k d.size)[j]'hx).toNat : Int) - 48) % 256).toNat = val ((d.data.toList.drop k).take (j + 1)) := by
  have h : k + j < d.size := by omega
  have hc := (dig_iff _).1 (hd (k + j) h)
  have e1 : (d.data.toList.drop k).take (j + 1) = (d.data.toList.drop k).take j ++ [d[k + j]] := by
    rw [List.take_succ_eq_append_getElem (by simp; omega), List.getElem_drop]
    rfl
  rw [byte_extract d k j hx h, e1, val_snoc, ← hu]
  omega

set_option maxRecDepth 100000 in
set_option maxHeartbeats 400000 in
theorem zzExponent_any (d : ByteArray) (neg : Bool) (w : World) (hs : d.size ≤ maxLen) (hd : ∀ j (hj : j < d.size), dig d[j] = true) :
    Calls Trym.prog 29 #[.string d, .bool neg] w fun e w' => e = .returned (.int .i64 (expo d.data.toList neg)) ∧ w' = w := by
  unfold maxLen at hs
  have HD : Hid (∀ j (hj : j < d.size), dig d[j] = true) := hd
  clear hd
  go_enter Trym.func29, Trym.ntmps29
  go_upto_block 0 with fail
  go_cut [5] from 9 to 20 (fun i w' => w' = w ∧ ∃ k : Nat, k ≤ d.size ∧ i = .int .i64 k ∧ Hid (Zs d k) ∧ Hid (∀ h : k < d.size, d[k].toNat ≠ 48))
  case first =>
    go_wp2_with fail
    go_loopg [5] d.size (fun g i wr => wr = w ∧ ∃ k : Nat, k + g = d.size ∧ i = .int .i64 k ∧ Hid (Zs d k))
    case atStart => exact ⟨rfl, 0, by omega, rfl, fun _ _ h => absurd h (Nat.not_lt_zero _)⟩
    case round =>
      obtain ⟨rfl, k, hk, rfl, hz⟩ := hrel
      by_cases hlt : k < d.size
      · by_cases h48 : d[k].toNat = 48
        · have H48 : Hid (d[k].toNat = 48) := h48
          have hb : ((d[k].toNat : Int) == 48) = true := by simp [h48]
          clear h48
          go_wp2_with fail
          go_roundg (gk - 1)
          case measure => omega
          case rel => exact ⟨rfl, k + 1, by omega, by go_num, hz.out.succ hlt H48.out⟩
        · have H48 : Hid (¬ d[k].toNat = 48) := h48
          have hb : ((d[k].toNat : Int) == 48) = false := by simp; omega
          clear h48
          go_wp2_with fail
          go_meet
          case rel => exact ⟨rfl, k, by omega, rfl, hz, fun _ => H48.out⟩
      · go_wp2_with fail
        go_meet
        case rel => exact ⟨rfl, k, by omega, rfl, hz, fun h => absurd h hlt⟩
  case rest =>
    obtain ⟨rfl, k, hk, rfl, hz, hn⟩ := hcut
    have HV : Hid (val (d.data.toList.drop k) = val d.data.toList) := val_zeros _ _ fun j hj hlt => hz.out j (by simpa using hj) hlt
    by_cases hlen : 18 < d.size - k
    · have HL : Hid (held d.data.toList = lim) := great_held d k (by omega) HD.out hn.out HV.out
      go_wp2_with fail
      · have hneg : neg = true := by assumption
        go_ret
        exact ⟨ret_int (by have := HL.out; unfold expo; rw [this, hneg]; unfold lim; simp), rfl⟩
      · have hneg : neg = false := by assumption
        go_ret
        exact ⟨ret_int (by have := HL.out; unfold expo; rw [this, hneg]; unfold lim; simp), rfl⟩
    · go_wp2_with fail
      go_loop [7, 8] (fun v i => ∃ (j : Nat) (e : Int), j ≤ d.size - k ∧ i = .int .i64 j ∧ v = .int .i64 e ∧ 0 ≤ e ∧ Hid (e.toNat = val ((d.data.toList.drop k).take j))) (fun _ i => d.size - k - (intOf i).toNat)
      case atStart => exact ⟨0, 0, Nat.zero_le _, rfl, rfl, by omega, rfl⟩
      case round =>
        obtain ⟨j, e, hj, rfl, rfl, he0, hu⟩ := hrel
        by_cases hlt : j < d.size - k
        · have hb : e < 100000000000000000 := part_small d k j e (by omega) HD.out hu.out
          have hx : j < (d.extract k d.size).size := by rw [ByteArray.size_extract]; omega
          go_wp2_with fail
          go_round
          case rel => exact ⟨j + 1, _, by omega, by go_num, rfl, by omega, sig_step d k j e he0 hlt hx HD.out hu.out⟩
          case measure => simp [intOf]; omega
        · have hb : e < 1000000000000000000 := part_small' d k j e (by omega) HD.out hu.out
          have HE : Hid (e.toNat = val d.data.toList) := by
            have h := hu.out
            rw [List.take_of_length_le (by simp; omega), HV.out] at h
            exact h
          go_wp2_with fail
          all_goals
            go_ret
            exact ⟨ret_int (by have := HE.out; unfold expo held lim; rw [← this]; simp; omega), rfl⟩
/-- Not empty, and digits to the end. -/
def allDig (b : Nat) (l : List UInt8) : Bool := decide (l ≠ []) && decide (cnt b l = l.length)

theorem allDig_nil (b : Nat) (s : ByteArray) (h : s.size = 0) : allDig b s.data.toList = false := by
  have : s.data.toList = [] := List.eq_nil_of_length_eq_zero (by simpa using h)
  simp [allDig, this]
theorem allDig_yes {b : Nat} {s : ByteArray} {k : Nat} (h : AllDig b s k) (hk : s.size ≤ k) (h0 : s.size ≠ 0) : allDig b s.data.toList = true := by
  have h1 := cnt_end h hk
  have h2 : s.data.toList ≠ [] := fun e => h0 (by have := congrArg List.length e; simpa using this)
  simp [allDig, h1]
  exact fun e => h0 (by have := congrArg Array.size e; simpa using this)
theorem allDig_no {b : Nat} {s : ByteArray} {k : Nat} (h : AllDig b s k) (hk : k < s.size) (hd : isDig b s[k] = false) : allDig b s.data.toList = false := by
  have h1 := cnt_stop h hk hd
  simp [allDig, h1]
  intro _
  omega

set_option maxRecDepth 100000 in
set_option maxHeartbeats 400000 in
theorem allDigits_any (s : ByteArray) (b : Nat) (bi : Int) (hbi : bi = (b : Int)) (hb : b ≤ 16) (hs : s.size ≤ maxLen) (w : World) :
    Calls Trym.prog 28 #[.string s, .int .u8 bi] w fun e w' => e = .returned (.bool (allDig b s.data.toList)) ∧ w' = w := by
  subst hbi
  unfold maxLen at hs
  by_cases h0 : s.size = 0
  · have he : (s.toList == []) = true := by
      have : s.data.toList = [] := List.eq_nil_of_length_eq_zero (by simpa using h0)
      rw [ByteArray.toList_eq, this]; rfl
    go_enter Trym.func28, Trym.ntmps28
    go_wp2
    go_ret
    exact ⟨ret_bool (allDig_nil b s h0).symm, rfl⟩
  · have he : (s.toList == []) = false := by
      have : s.data.toList ≠ [] := fun e => h0 (by have := congrArg List.length e; simpa using this)
      rw [ByteArray.toList_eq]
      simpa using this
    go_enter Trym.func28, Trym.ntmps28
    go_wp2
    go_loop [5] (fun i => ∃ k : Nat, k ≤ s.size ∧ i = .int .i64 k ∧ Hid (AllDig b s k)) (fun i => s.size - (intOf i).toNat)
    case atStart => exact ⟨0, Nat.zero_le _, rfl, AllDig.zero _ _⟩
    case round =>
      obtain ⟨k, hk, rfl, hu⟩ := hrel
      by_cases hlt : k < s.size
      · by_cases hd : isDig b s[k] = true
        · have HD : Hid (isDig b s[k] = true) := hd
          clear hd
          go_wp2_with fail
          refine (isDigitOf_yes s[k] b hb _ HD.out).mono ?_
          rintro e w1 ⟨rfl, rfl⟩
          go_wp2
          go_round
          case rel => exact ⟨k + 1, by omega, by go_num, hu.out.succ hlt HD.out⟩
          case measure => simp [intOf]; omega
        · have HD : Hid (isDig b s[k] = false) := Bool.eq_false_iff.2 hd
          clear hd
          go_wp2_with fail
          refine (isDigitOf_no s[k] b hb _ HD.out).mono ?_
          rintro e w1 ⟨rfl, rfl⟩
          go_wp2
          go_ret
          exact ⟨ret_bool (allDig_no hu.out hlt HD.out).symm, rfl⟩
      · go_wp2
        go_ret
        exact ⟨ret_bool (allDig_yes hu.out (by omega) h0).symm, rfl⟩

/-- The count, behind a name that the walk does not open. -/
def cntS (b : Nat) (s : ByteArray) : Nat := cnt b s.data.toList
theorem cntS_le (b : Nat) (s : ByteArray) : cntS b s ≤ s.size := by
  have := cnt_le b s.data.toList
  simpa [cntS] using this

theorem digitsIn_at (s : ByteArray) (b : Nat) (bi : Int) (hbi : bi = (b : Int)) (hb : b ≤ 16) (hs : s.size ≤ maxLen) (w : World) :
    Calls Trym.prog 24 #[.string s, .int .u8 bi] w fun e w' => e = .returned (.int .i64 (cntS b s)) ∧ ∃ n, w' = w.drewN n := by
  subst hbi
  exact digitsIn_any s b hb hs w
end Go.Proofs.Qxb6602706aMods.Rd
