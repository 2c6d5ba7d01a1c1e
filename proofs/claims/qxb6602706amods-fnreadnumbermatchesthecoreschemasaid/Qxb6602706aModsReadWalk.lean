/-
  THE WALK of readNumber, whole: its head; the rest is Qxb6602706aModsReadTails.
-/
import Derived.Test.Qxb6602706aModsReadTails
namespace Go.Proofs.Qxb6602706aMods.Rd
open Go.RowKit Dig

set_option maxRecDepth 100000 in
set_option maxHeartbeats 4000000 in
theorem readNumber_any (s : ByteArray) (hs : s.size ≤ maxLen) (w : World) :
    Calls Trym.prog 27 #[.string s] w fun e w' => e = .returned (resVal (read s.data.toList)) ∧ Below w.heap.size w w' := by
  have hm := hs
  unfold maxLen at hs
  go_enter Trym.func27, Trym.ntmps27
  go_upto_region 1 with fail
  go_cut [18] from 11 to 18 (fun v w' => v = .bool (hd0 s) ∧ w' = w.alloc (.cells #[.bool false, .bool false, .string ⟨#[]⟩, .string ⟨#[]⟩, .int .i64 0] 44))
  case first =>
    by_cases h2 : 2 < s.size
    · by_cases h0 : s[0].toNat = 48
      · have H : Hid (hd0 s = true) := hd0_yes h2 h0
        have h0' : ((s[0].toNat : Int) == 48) = true := by simp [h0]
        go_wp2_with fail
        go_meet
        case rel => exact ⟨by rw [H.out], rfl⟩
      · have H : Hid (hd0 s = false) := hd0_no h2 h0
        have h0' : ((s[0].toNat : Int) == 48) = false := by simp; omega
        go_wp2_with fail
        go_meet
        case rel => exact ⟨by rw [H.out], rfl⟩
    · have H : Hid (hd0 s = false) := hd0_short h2
      go_wp2_with fail
      go_meet
      case rel => exact ⟨by rw [H.out], rfl⟩
  case rest =>
    obtain ⟨rfl, rfl⟩ := hcut
    go_upto_if 18 with fail
    go_cut [] from 18 to 18 (fun w' => (∃ n, w' = (w.alloc (.cells #[.bool false, .bool false, .string ⟨#[]⟩, .string ⟨#[]⟩, .int .i64 0] 44)).drewN n) ∧ Hid (read s.data.toList = rest s.data.toList))
    case first =>
      by_cases hh : hd0 s = true
      · obtain ⟨h2, h0⟩ := hd0_elim hh
        have hx : (s.extract 2 s.size).size ≤ maxLen := by rw [ByteArray.size_extract]; omega
        rw [hh]
        by_cases ho : s[1].toNat = 111
        · have ho' : ((s[1].toNat : Int) == 111) = true := by simp [ho]
          have ho'' : ((s[1].toNat : Int) == 120) = false := by simp [ho]
          by_cases hc : cntS 8 (s.extract 2 s.size) = s.size - 2
          · have H : Hid (read s.data.toList = ⟨false, false, [], [], 0, 2⟩) := read_oct h2 h0 ho hc
            have hc' : ((cntS 8 (s.extract 2 s.size) : Int) == (s.size : Int) - 2) = true := by rw [beq_iff_eq, hc]; omega
            clear ho h0 hc hh
            go_wp2_with fail
            refine (digitsIn_at (s.extract 2 s.size) 8 8 rfl (by omega) hx _).mono ?_
            rintro e w1 ⟨rfl, n, rfl⟩
            go_wp2_with fail
            exact bodyPost_ret (v := .tuple #[.agg #[.bool false, .bool false, .string ⟨#[]⟩, .string ⟨#[]⟩, .int .i64 0], .int .u8 2]) (by simp [results, Trym.results27, go_sem]) rfl ⟨by rw [H.out]; rfl, below1 w _ n⟩
          · have H : Hid (read s.data.toList = rest s.data.toList) := read_rest h2 (fun h => hc h.2) (fun h => by omega)
            have hc' : ((cntS 8 (s.extract 2 s.size) : Int) == (s.size : Int) - 2) = false := by rw [beq_eq_false_iff_ne]; omega
            clear ho h0 hc hh
            go_wp2_with fail
            refine (digitsIn_at (s.extract 2 s.size) 8 8 rfl (by omega) hx _).mono ?_
            rintro e w1 ⟨rfl, n, rfl⟩
            go_wp2_with fail
            go_meet
            case rel => exact ⟨⟨n, rfl⟩, H⟩
        · by_cases hx1 : s[1].toNat = 120
          · have ho' : ((s[1].toNat : Int) == 111) = false := by simp [hx1]
            have ho'' : ((s[1].toNat : Int) == 120) = true := by simp [hx1]
            by_cases hc : cntS 16 (s.extract 2 s.size) = s.size - 2
            · have H : Hid (read s.data.toList = ⟨false, false, [], [], 0, 3⟩) := read_hex h2 h0 hx1 hc
              have hc' : ((cntS 16 (s.extract 2 s.size) : Int) == (s.size : Int) - 2) = true := by rw [beq_iff_eq, hc]; omega
              clear ho h0 hc hh hx1
              go_wp2_with fail
              refine (digitsIn_at (s.extract 2 s.size) 16 16 rfl (by omega) hx _).mono ?_
              rintro e w1 ⟨rfl, n, rfl⟩
              go_wp2_with fail
              exact bodyPost_ret (v := .tuple #[.agg #[.bool false, .bool false, .string ⟨#[]⟩, .string ⟨#[]⟩, .int .i64 0], .int .u8 3]) (by simp [results, Trym.results27, go_sem]) rfl ⟨by rw [H.out]; rfl, below1 w _ n⟩
            · have H : Hid (read s.data.toList = rest s.data.toList) := read_rest h2 (fun h => ho h.1) (fun h => hc h.2)
              have hc' : ((cntS 16 (s.extract 2 s.size) : Int) == (s.size : Int) - 2) = false := by rw [beq_eq_false_iff_ne]; omega
              clear ho h0 hc hh hx1
              go_wp2_with fail
              refine (digitsIn_at (s.extract 2 s.size) 16 16 rfl (by omega) hx _).mono ?_
              rintro e w1 ⟨rfl, n, rfl⟩
              go_wp2_with fail
              go_meet
              case rel => exact ⟨⟨n, rfl⟩, H⟩
          · have H : Hid (read s.data.toList = rest s.data.toList) := read_rest h2 (fun h => ho h.1) (fun h => hx1 h.1)
            have ho' : ((s[1].toNat : Int) == 111) = false := by rw [beq_eq_false_iff_ne]; omega
            have ho'' : ((s[1].toNat : Int) == 120) = false := by rw [beq_eq_false_iff_ne]; omega
            clear ho h0 hh hx1
            go_wp2_with fail
            go_meet
            case rel => exact ⟨⟨0, rfl⟩, H⟩
      · have hh' : hd0 s = false := by simpa using hh
        have H : Hid (read s.data.toList = rest s.data.toList) := read_hd0 hh'
        rw [hh']
        clear hh
        go_wp2_with fail
        go_meet
        case rel => exact ⟨⟨0, rfl⟩, H⟩
    case rest =>
      obtain ⟨⟨n0, rfl⟩, HR⟩ := hcut
      go_upto_region 8 with fail
      go_cut [59] from 48 to 59 (fun v w' => v = .bool (sgn s) ∧ w' = ((w.alloc (.cells #[.bool false, .bool false, .string ⟨#[]⟩, .string ⟨#[]⟩, .int .i64 0] 44)).alloc (.cells #[.bool false, .bool false, .string ⟨#[]⟩, .string ⟨#[]⟩, .int .i64 0] 44)).drewN n0)
      case first =>
        by_cases h0 : 0 < s.size
        · have he : (s.toList == []) = false := by rw [ByteArray.toList_eq, list1 s h0]; rfl
          have he' : (s.toList != []) = true := by simp [bne, he]
          by_cases hp : s[0].toNat = 43
          · have H : Hid (sgn s = true) := sgn_yes h0 (Or.inl hp)
            have hp' : ((s[0].toNat : Int) == 43) = true := by simp [hp]
            go_wp2_with fail
            go_meet
            case rel => exact ⟨by rw [H.out], rfl⟩
          · have hp' : ((s[0].toNat : Int) == 43) = false := by rw [beq_eq_false_iff_ne]; omega
            by_cases hq : s[0].toNat = 45
            · have H : Hid (sgn s = true) := sgn_yes h0 (Or.inr hq)
              have hq' : ((s[0].toNat : Int) == 45) = true := by simp [hq]
              go_wp2_with fail
              go_meet
              case rel => exact ⟨by rw [H.out], rfl⟩
            · have H : Hid (sgn s = false) := sgn_no h0 (by omega)
              have hq' : ((s[0].toNat : Int) == 45) = false := by rw [beq_eq_false_iff_ne]; omega
              go_wp2_with fail
              go_meet
              case rel => exact ⟨by rw [H.out], rfl⟩
        · have he : (s.toList == []) = true := by rw [ByteArray.toList_eq, list0 s h0]; rfl
          have he' : (s.toList != []) = false := by simp [bne, he]
          have H : Hid (sgn s = false) := sgn_none h0
          go_wp2_with fail
          go_meet
          case rel => exact ⟨by rw [H.out], rfl⟩
      case rest =>
        obtain ⟨rfl, rfl⟩ := hcut
        go_upto_if 59 with fail
        go_cut [5] from 59 to 65 (fun v w' => ∃ (u : ByteArray) (n : Nat), v = .string u ∧ w' = ((w.alloc (.cells #[.bool false, .bool false, .string ⟨#[]⟩, .string ⟨#[]⟩, .int .i64 0] 44)).alloc (.cells #[.bool (isMinus s.data.toList), .bool false, .string ⟨#[]⟩, .string ⟨#[]⟩, .int .i64 0] 44)).drewN n ∧ u.size ≤ s.size ∧ Hid (u.data.toList = unsign s.data.toList))
        case first =>
          by_cases hh : sgn s = true
          · obtain ⟨h0, _⟩ := sgn_elim hh
            have H : Hid (unsign s.data.toList = s.data.toList.drop 1) := unsign_yes hh
            have HM : Hid (isMinus s.data.toList = ((s[0].toNat : Int) == 45)) := minus_yes h0
            have h1 : (1 : Int) ≤ (s.size : Int) := by omega
            rw [hh]
            clear hh
            go_wp2_with fail
            go_region
            all_goals
              go_wp2_with fail
              go_meet
              case rel => exact ⟨s.extract 1 s.size, n0 + 1, rfl, by rw [HM.out], by rw [ByteArray.size_extract]; omega, by rw [H.out]; exact extract_list s 1⟩
          · have hh' : sgn s = false := by simpa using hh
            have H : Hid (unsign s.data.toList = s.data.toList) := unsign_no hh'
            have HM : Hid (isMinus s.data.toList = false) := minus_no hh'
            rw [hh']
            clear hh
            go_wp2_with fail
            go_meet
            case rel => exact ⟨s, n0, rfl, by rw [HM.out], Nat.le_refl _, H.out.symm⟩
        case rest =>
          obtain ⟨u, n1, rfl, rfl, hus, HU⟩ := hcut
          go_upto_block 1 with fail
          go_cut [] from 66 to 81 (fun w' => w' = ((w.alloc (.cells #[.bool false, .bool false, .string ⟨#[]⟩, .string ⟨#[]⟩, .int .i64 0] 44)).alloc (.cells #[.bool (isMinus s.data.toList), .bool false, .string ⟨#[]⟩, .string ⟨#[]⟩, .int .i64 0] 44)).drewN n1 ∧ Hid (read s.data.toList = dec (isMinus s.data.toList) (unsign s.data.toList)))
          case first =>
            by_cases i0 : (u.toList == [46, 105, 110, 102]) = true
            · have H : Hid (rest s.data.toList = ⟨isMinus s.data.toList, true, [], [], 0, 5⟩) := rest_inf (by rw [toList_true HU.out i0]; rfl)
              go_wp2_with fail
              exact bodyPost_ret (v := .tuple #[.agg #[.bool (isMinus s.data.toList), .bool true, .string ⟨#[]⟩, .string ⟨#[]⟩, .int .i64 0], .int .u8 5]) (by simp [results, Trym.results27, go_sem]) rfl ⟨by rw [HR.out, H.out]; rfl, below2 w _ _ n1⟩
            rw [Bool.not_eq_true] at i0
            by_cases i1 : (u.toList == [46, 73, 110, 102]) = true
            · have H : Hid (rest s.data.toList = ⟨isMinus s.data.toList, true, [], [], 0, 5⟩) := rest_inf (by rw [toList_true HU.out i1]; rfl)
              go_wp2_with fail
              exact bodyPost_ret (v := .tuple #[.agg #[.bool (isMinus s.data.toList), .bool true, .string ⟨#[]⟩, .string ⟨#[]⟩, .int .i64 0], .int .u8 5]) (by simp [results, Trym.results27, go_sem]) rfl ⟨by rw [HR.out, H.out]; rfl, below2 w _ _ n1⟩
            rw [Bool.not_eq_true] at i1
            by_cases i2 : (u.toList == [46, 73, 78, 70]) = true
            · have H : Hid (rest s.data.toList = ⟨isMinus s.data.toList, true, [], [], 0, 5⟩) := rest_inf (by rw [toList_true HU.out i2]; rfl)
              go_wp2_with fail
              exact bodyPost_ret (v := .tuple #[.agg #[.bool (isMinus s.data.toList), .bool true, .string ⟨#[]⟩, .string ⟨#[]⟩, .int .i64 0], .int .u8 5]) (by simp [results, Trym.results27, go_sem]) rfl ⟨by rw [HR.out, H.out]; rfl, below2 w _ _ n1⟩
            rw [Bool.not_eq_true] at i2
            by_cases m0 : (u.toList == [46, 110, 97, 110]) = true
            · by_cases q : (u.toList == s.toList) = true
              · have H : Hid (rest s.data.toList = ⟨false, false, [], [], 0, 6⟩) := rest_nan (by rw [toList_true HU.out m0]; rfl) (by have := toList_true HU.out q; rwa [ByteArray.toList_eq] at this)
                go_wp2_with fail
                exact bodyPost_ret (v := .tuple #[.agg #[.bool false, .bool false, .string ⟨#[]⟩, .string ⟨#[]⟩, .int .i64 0], .int .u8 6]) (by simp [results, Trym.results27, go_sem]) rfl ⟨by rw [HR.out, H.out]; rfl, below2 w _ _ n1⟩
              · rw [Bool.not_eq_true] at q
                have H : Hid (rest s.data.toList = no) := rest_nan' (by rw [toList_true HU.out m0]; rfl) (by have := toList_false HU.out q; rw [ByteArray.toList_eq] at this; simpa using this)
                go_wp2_with fail
                exact bodyPost_ret (v := .tuple #[.agg #[.bool false, .bool false, .string ⟨#[]⟩, .string ⟨#[]⟩, .int .i64 0], .int .u8 0]) (by simp [results, Trym.results27, go_sem]) rfl ⟨by rw [HR.out, H.out]; rfl, below2 w _ _ n1⟩
            rw [Bool.not_eq_true] at m0
            by_cases m1 : (u.toList == [46, 78, 97, 78]) = true
            · by_cases q : (u.toList == s.toList) = true
              · have H : Hid (rest s.data.toList = ⟨false, false, [], [], 0, 6⟩) := rest_nan (by rw [toList_true HU.out m1]; rfl) (by have := toList_true HU.out q; rwa [ByteArray.toList_eq] at this)
                go_wp2_with fail
                exact bodyPost_ret (v := .tuple #[.agg #[.bool false, .bool false, .string ⟨#[]⟩, .string ⟨#[]⟩, .int .i64 0], .int .u8 6]) (by simp [results, Trym.results27, go_sem]) rfl ⟨by rw [HR.out, H.out]; rfl, below2 w _ _ n1⟩
              · rw [Bool.not_eq_true] at q
                have H : Hid (rest s.data.toList = no) := rest_nan' (by rw [toList_true HU.out m1]; rfl) (by have := toList_false HU.out q; rw [ByteArray.toList_eq] at this; simpa using this)
                go_wp2_with fail
                exact bodyPost_ret (v := .tuple #[.agg #[.bool false, .bool false, .string ⟨#[]⟩, .string ⟨#[]⟩, .int .i64 0], .int .u8 0]) (by simp [results, Trym.results27, go_sem]) rfl ⟨by rw [HR.out, H.out]; rfl, below2 w _ _ n1⟩
            rw [Bool.not_eq_true] at m1
            by_cases m2 : (u.toList == [46, 78, 65, 78]) = true
            · by_cases q : (u.toList == s.toList) = true
              · have H : Hid (rest s.data.toList = ⟨false, false, [], [], 0, 6⟩) := rest_nan (by rw [toList_true HU.out m2]; rfl) (by have := toList_true HU.out q; rwa [ByteArray.toList_eq] at this)
                go_wp2_with fail
                exact bodyPost_ret (v := .tuple #[.agg #[.bool false, .bool false, .string ⟨#[]⟩, .string ⟨#[]⟩, .int .i64 0], .int .u8 6]) (by simp [results, Trym.results27, go_sem]) rfl ⟨by rw [HR.out, H.out]; rfl, below2 w _ _ n1⟩
              · rw [Bool.not_eq_true] at q
                have H : Hid (rest s.data.toList = no) := rest_nan' (by rw [toList_true HU.out m2]; rfl) (by have := toList_false HU.out q; rw [ByteArray.toList_eq] at this; simpa using this)
                go_wp2_with fail
                exact bodyPost_ret (v := .tuple #[.agg #[.bool false, .bool false, .string ⟨#[]⟩, .string ⟨#[]⟩, .int .i64 0], .int .u8 0]) (by simp [results, Trym.results27, go_sem]) rfl ⟨by rw [HR.out, H.out]; rfl, below2 w _ _ n1⟩
            rw [Bool.not_eq_true] at m2
            have HD : Hid (rest s.data.toList = dec (isMinus s.data.toList) (unsign s.data.toList)) := rest_dec (by unfold isInf; rw [toList_false HU.out i0, toList_false HU.out i1, toList_false HU.out i2]; rfl) (by unfold isNan; rw [toList_false HU.out m0, toList_false HU.out m1, toList_false HU.out m2]; rfl)
            go_wp2_with fail
            go_meet
            case rel => exact ⟨rfl, HR.out.trans HD.out⟩
          case rest =>
            obtain ⟨rfl, HX⟩ := hcut
            rename_i K hK
            refine hK _ _ ?_
            exact tail22 s u hm w n1 hus HU HX
end Go.Proofs.Qxb6602706aMods.Rd
