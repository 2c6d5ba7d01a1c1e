/-
  THE WALK of zzReadModel: it computes Rd.auto: whole.
-/
import Derived.Test.Qxb6602706aModsModLoop
namespace Go.Proofs.Qxb6602706aMods.Rd
open Go.RowKit Dig

theorem drop_unsign {s : ByteArray} {a : Nat} (h : (sgn s = true ∧ a = 1) ∨ (sgn s = false ∧ a = 0)) : s.data.toList.drop a = unsign s.data.toList := by
  rcases h with ⟨h, rfl⟩ | ⟨h, rfl⟩
  · exact (unsign_yes h).symm
  · rw [unsign_no h]; rfl

set_option maxRecDepth 100000 in
set_option maxHeartbeats 4000000 in
theorem readModel_any (s : ByteArray) (hs : s.size ≤ maxLen) (w : World) :
    Calls Trym.prog 22 #[.string s] w fun e w' => e = .returned (modVal (auto s.data.toList)) ∧ Below w.heap.size w w' := by
  have hm := hs
  unfold maxLen at hs
  go_enter Trym.func22, Trym.ntmps22
  go_upto_region 2 with fail
  go_cut [34] from 17 to 34 (fun v w' => v = .bool (based s.data.toList 111 8) ∧ w' = (w.alloc (.cells #[.bool false, .bool false, .string ⟨#[]⟩, .string ⟨#[]⟩, .int .i64 0, .int .u8 0] 35)).alloc (.cells #[.bool false, .bool false, .string ⟨#[]⟩, .string ⟨#[]⟩, .int .i64 0, .int .u8 0] 35))
  case first =>
    by_cases h2 : 2 < s.size
    · have hx : (s.extract 2 s.size).size ≤ maxLen := by rw [ByteArray.size_extract]; omega
      by_cases h0 : s[0].toNat = 48
      · have h0' : ((s[0].toNat : Int) == 48) = true := by simp [h0]
        by_cases h1 : s[1].toNat = 111
        · have h1' : ((s[1].toNat : Int) == 111) = true := by simp [h1]
          have H : Hid (based s.data.toList 111 8 = allS 8 (s.extract 2 s.size)) := based_all h2 h0 111 8 h1
          clear h0 h1
          go_wp2_with fail
          refine (allS_at (s.extract 2 s.size) 8 8 rfl (by omega) hx _).mono ?_
          rintro e w1 ⟨rfl, rfl⟩
          go_wp2_with fail
          go_meet
          case rel => exact ⟨by rw [H.out], rfl⟩
        · have h1' : ((s[1].toNat : Int) == 111) = false := by rw [beq_eq_false_iff_ne]; omega
          have H : Hid (based s.data.toList 111 8 = false) := based_no1 h2 111 8 h1
          clear h0 h1
          go_wp2_with fail
          go_meet
          case rel => exact ⟨by rw [H.out], rfl⟩
      · have h0' : ((s[0].toNat : Int) == 48) = false := by rw [beq_eq_false_iff_ne]; omega
        have H : Hid (based s.data.toList 111 8 = false) := based_no0 h2 h0 111 8
        clear h0
        go_wp2_with fail
        go_meet
        case rel => exact ⟨by rw [H.out], rfl⟩
    · have H : Hid (based s.data.toList 111 8 = false) := based_short s h2 111 8
      go_wp2_with fail
      go_meet
      case rel => exact ⟨by rw [H.out], rfl⟩
  case rest =>
    obtain ⟨rfl, rfl⟩ := hcut
    by_cases hh : based s.data.toList 111 8 = true
    · have H : Hid (auto s.data.toList = ⟨false, false, [], [], 0, 2⟩) := auto_oct hh
      rw [hh]
      clear hh
      go_wp2_with fail
      exact bodyPost_ret (v := .agg #[.bool false, .bool false, .string ⟨#[]⟩, .string ⟨#[]⟩, .int .i64 0, .int .u8 2]) (by simp [results, Trym.results22, go_sem]) rfl ⟨by rw [H.out]; rfl, belowM w _ _⟩
    rw [Bool.not_eq_true] at hh
    have HO : Hid (based s.data.toList 111 8 = false) := hh
    rw [hh]
    clear hh
    go_upto_region 5 with fail
    go_cut [54] from 37 to 54 (fun v w' => v = .bool (based s.data.toList 120 16) ∧ w' = (w.alloc (.cells #[.bool false, .bool false, .string ⟨#[]⟩, .string ⟨#[]⟩, .int .i64 0, .int .u8 0] 35)).alloc (.cells #[.bool false, .bool false, .string ⟨#[]⟩, .string ⟨#[]⟩, .int .i64 0, .int .u8 0] 35))
    case first =>
      by_cases h2 : 2 < s.size
      · have hx : (s.extract 2 s.size).size ≤ maxLen := by rw [ByteArray.size_extract]; omega
        by_cases h0 : s[0].toNat = 48
        · have h0' : ((s[0].toNat : Int) == 48) = true := by simp [h0]
          by_cases h1 : s[1].toNat = 120
          · have h1' : ((s[1].toNat : Int) == 120) = true := by simp [h1]
            have H : Hid (based s.data.toList 120 16 = allS 16 (s.extract 2 s.size)) := based_all h2 h0 120 16 h1
            clear h0 h1
            go_wp2_with fail
            refine (allS_at (s.extract 2 s.size) 16 16 rfl (by omega) hx _).mono ?_
            rintro e w1 ⟨rfl, rfl⟩
            go_wp2_with fail
            go_meet
            case rel => exact ⟨by rw [H.out], rfl⟩
          · have h1' : ((s[1].toNat : Int) == 120) = false := by rw [beq_eq_false_iff_ne]; omega
            have H : Hid (based s.data.toList 120 16 = false) := based_no1 h2 120 16 h1
            clear h0 h1
            go_wp2_with fail
            go_meet
            case rel => exact ⟨by rw [H.out], rfl⟩
        · have h0' : ((s[0].toNat : Int) == 48) = false := by rw [beq_eq_false_iff_ne]; omega
          have H : Hid (based s.data.toList 120 16 = false) := based_no0 h2 h0 120 16
          clear h0
          go_wp2_with fail
          go_meet
          case rel => exact ⟨by rw [H.out], rfl⟩
      · have H : Hid (based s.data.toList 120 16 = false) := based_short s h2 120 16
        go_wp2_with fail
        go_meet
        case rel => exact ⟨by rw [H.out], rfl⟩
    case rest =>
      obtain ⟨rfl, rfl⟩ := hcut
      by_cases hh : based s.data.toList 120 16 = true
      · have H : Hid (auto s.data.toList = ⟨false, false, [], [], 0, 3⟩) := auto_hex HO.out hh
        rw [hh]
        clear hh
        go_wp2_with fail
        exact bodyPost_ret (v := .agg #[.bool false, .bool false, .string ⟨#[]⟩, .string ⟨#[]⟩, .int .i64 0, .int .u8 3]) (by simp [results, Trym.results22, go_sem]) rfl ⟨by rw [H.out]; rfl, belowM w _ _⟩
      rw [Bool.not_eq_true] at hh
      have HX0 : Hid (based s.data.toList 120 16 = false) := hh
      rw [hh]
      clear hh
      go_upto_region 8 with fail
      go_cut [66] from 57 to 66 (fun v w' => v = .bool (isNan s.data.toList) ∧ w' = (w.alloc (.cells #[.bool false, .bool false, .string ⟨#[]⟩, .string ⟨#[]⟩, .int .i64 0, .int .u8 0] 35)).alloc (.cells #[.bool false, .bool false, .string ⟨#[]⟩, .string ⟨#[]⟩, .int .i64 0, .int .u8 0] 35))
      case first =>
        by_cases a0 : (s.toList == [46, 110, 97, 110]) = true
        · have H : Hid (isNan s.data.toList = true) := by show _ = _; rw [nan_by rfl, a0]; rfl
          go_wp2_with fail
          go_meet
          case rel => exact ⟨by rw [H.out], rfl⟩
        rw [Bool.not_eq_true] at a0
        by_cases a1 : (s.toList == [46, 78, 97, 78]) = true
        · have H : Hid (isNan s.data.toList = true) := by show _ = _; rw [nan_by rfl, a0, a1]; rfl
          go_wp2_with fail
          go_meet
          case rel => exact ⟨by rw [H.out], rfl⟩
        rw [Bool.not_eq_true] at a1
        by_cases a2 : (s.toList == [46, 78, 65, 78]) = true
        · have H : Hid (isNan s.data.toList = true) := by show _ = _; rw [nan_by rfl, a0, a1, a2]; rfl
          go_wp2_with fail
          go_meet
          case rel => exact ⟨by rw [H.out], rfl⟩
        rw [Bool.not_eq_true] at a2
        have H : Hid (isNan s.data.toList = false) := by show _ = _; rw [nan_by rfl, a0, a1, a2]; rfl
        go_wp2_with fail
        go_meet
        case rel => exact ⟨by rw [H.out], rfl⟩
      case rest =>
        obtain ⟨rfl, rfl⟩ := hcut
        by_cases hh : isNan s.data.toList = true
        · have H : Hid (auto s.data.toList = ⟨false, false, [], [], 0, 6⟩) := auto_nan HO.out HX0.out hh
          rw [hh]
          clear hh
          go_wp2_with fail
          exact bodyPost_ret (v := .agg #[.bool false, .bool false, .string ⟨#[]⟩, .string ⟨#[]⟩, .int .i64 0, .int .u8 6]) (by simp [results, Trym.results22, go_sem]) rfl ⟨by rw [H.out]; rfl, belowM w _ _⟩
        rw [Bool.not_eq_true] at hh
        have HN : Hid (isNan s.data.toList = false) := hh
        rw [hh]
        clear hh
        go_upto_region 12 with fail
        go_cut [81] from 69 to 81 (fun v w' => v = .bool (sgn s) ∧ w' = (w.alloc (.cells #[.bool false, .bool false, .string ⟨#[]⟩, .string ⟨#[]⟩, .int .i64 0, .int .u8 0] 35)).alloc (.cells #[.bool false, .bool false, .string ⟨#[]⟩, .string ⟨#[]⟩, .int .i64 0, .int .u8 0] 35))
        case first =>
          by_cases g0 : 0 < s.size
          · by_cases hp : s[0].toNat = 43
            · have H : Hid (sgn s = true) := sgn_yes g0 (Or.inl hp)
              have hp' : ((s[0].toNat : Int) == 43) = true := by simp [hp]
              go_wp2_with fail
              go_meet
              case rel => exact ⟨by rw [H.out], rfl⟩
            · have hp' : ((s[0].toNat : Int) == 43) = false := by rw [beq_eq_false_iff_ne]; omega
              by_cases hq : s[0].toNat = 45
              · have H : Hid (sgn s = true) := sgn_yes g0 (Or.inr hq)
                have hq' : ((s[0].toNat : Int) == 45) = true := by simp [hq]
                go_wp2_with fail
                go_meet
                case rel => exact ⟨by rw [H.out], rfl⟩
              · have H : Hid (sgn s = false) := sgn_no g0 (by omega)
                have hq' : ((s[0].toNat : Int) == 45) = false := by rw [beq_eq_false_iff_ne]; omega
                go_wp2_with fail
                go_meet
                case rel => exact ⟨by rw [H.out], rfl⟩
          · have H : Hid (sgn s = false) := sgn_none g0
            go_wp2_with fail
            go_meet
            case rel => exact ⟨by rw [H.out], rfl⟩
        case rest =>
          obtain ⟨rfl, rfl⟩ := hcut
          go_upto_if 81 with fail
          go_cut [4] from 81 to 81 (fun v w' => w' = (w.alloc (.cells #[.bool false, .bool false, .string ⟨#[]⟩, .string ⟨#[]⟩, .int .i64 0, .int .u8 0] 35)).alloc (.cells #[.bool false, .bool false, .string ⟨#[]⟩, .string ⟨#[]⟩, .int .i64 0, .int .u8 0] 35) ∧ ∃ a : Nat, v = .int .i64 (a : Int) ∧ a ≤ 1 ∧ a ≤ s.size ∧ Hid ((sgn s = true ∧ a = 1) ∨ (sgn s = false ∧ a = 0)))
          case first =>
            by_cases hh : sgn s = true
            · obtain ⟨g0, _⟩ := sgn_elim hh
              have HH : Hid (sgn s = true) := hh
              rw [hh]
              clear hh
              go_wp2_with fail
              go_meet
              case rel => exact ⟨rfl, 1, rfl, by omega, by omega, Or.inl ⟨HH.out, rfl⟩⟩
            · have hh' : sgn s = false := by simpa using hh
              have HH : Hid (sgn s = false) := hh'
              rw [hh']
              clear hh hh'
              go_wp2_with fail
              go_meet
              case rel => exact ⟨rfl, 0, rfl, by omega, by omega, Or.inr ⟨HH.out, rfl⟩⟩
          case rest =>
            obtain ⟨rfl, a, rfl, ha1, ha, HA⟩ := hcut
            go_upto_region 14 with fail
            go_cut [5] from 82 to 88 (fun v w' => v = .bool (isMinus s.data.toList) ∧ w' = (w.alloc (.cells #[.bool false, .bool false, .string ⟨#[]⟩, .string ⟨#[]⟩, .int .i64 0, .int .u8 0] 35)).alloc (.cells #[.bool false, .bool false, .string ⟨#[]⟩, .string ⟨#[]⟩, .int .i64 0, .int .u8 0] 35))
            case first =>
              rcases HA.out with ⟨h1, h2⟩ | ⟨h1, h2⟩
              · obtain ⟨g0, _⟩ := sgn_elim h1
                have HM : Hid (isMinus s.data.toList = ((s[0].toNat : Int) == 45)) := minus_yes g0
                subst h2
                clear h1
                go_wp2_with fail
                go_meet
                case rel => exact ⟨by rw [HM.out], rfl⟩
              · have HM : Hid (isMinus s.data.toList = false) := minus_no h1
                subst h2
                clear h1
                go_wp2_with fail
                go_meet
                case rel => exact ⟨by rw [HM.out], rfl⟩
            case rest =>
              obtain ⟨rfl, rfl⟩ := hcut
              have HD : Hid (s.data.toList.drop a = unsign s.data.toList) := drop_unsign HA.out
              go_upto_region 15 with fail
              go_cut [6] from 89 to 91 (fun v w' => w' = (w.alloc (.cells #[.bool false, .bool false, .string ⟨#[]⟩, .string ⟨#[]⟩, .int .i64 0, .int .u8 0] 35)).alloc (.cells #[.bool false, .bool false, .string ⟨#[]⟩, .string ⟨#[]⟩, .int .i64 0, .int .u8 0] 35) ∧ ∃ u : ByteArray, v = .string u ∧ Hid (u.data.toList = unsign s.data.toList))
              case first =>
                go_wp2_with fail
                go_meet
                case rel => exact ⟨rfl, s.extract a s.size, rfl, by show _ = _; rw [extract_list]; exact HD.out⟩
              case rest =>
                obtain ⟨rfl, u, rfl, HU⟩ := hcut
                go_upto_region 16 with fail
                go_cut [101] from 92 to 101 (fun v w' => v = .bool (isInf (unsign s.data.toList)) ∧ w' = (w.alloc (.cells #[.bool false, .bool false, .string ⟨#[]⟩, .string ⟨#[]⟩, .int .i64 0, .int .u8 0] 35)).alloc (.cells #[.bool false, .bool false, .string ⟨#[]⟩, .string ⟨#[]⟩, .int .i64 0, .int .u8 0] 35))
                case first =>
                  by_cases a0 : (u.toList == [46, 105, 110, 102]) = true
                  · have H : Hid (isInf (unsign s.data.toList) = true) := by show _ = _; rw [inf_by HU.out, a0]; rfl
                    go_wp2_with fail
                    go_meet
                    case rel => exact ⟨by rw [H.out], rfl⟩
                  rw [Bool.not_eq_true] at a0
                  by_cases a1 : (u.toList == [46, 73, 110, 102]) = true
                  · have H : Hid (isInf (unsign s.data.toList) = true) := by show _ = _; rw [inf_by HU.out, a0, a1]; rfl
                    go_wp2_with fail
                    go_meet
                    case rel => exact ⟨by rw [H.out], rfl⟩
                  rw [Bool.not_eq_true] at a1
                  by_cases a2 : (u.toList == [46, 73, 78, 70]) = true
                  · have H : Hid (isInf (unsign s.data.toList) = true) := by show _ = _; rw [inf_by HU.out, a0, a1, a2]; rfl
                    go_wp2_with fail
                    go_meet
                    case rel => exact ⟨by rw [H.out], rfl⟩
                  rw [Bool.not_eq_true] at a2
                  have H : Hid (isInf (unsign s.data.toList) = false) := by show _ = _; rw [inf_by HU.out, a0, a1, a2]; rfl
                  go_wp2_with fail
                  go_meet
                  case rel => exact ⟨by rw [H.out], rfl⟩
                case rest =>
                  obtain ⟨rfl, rfl⟩ := hcut
                  go_upto_if 101 with fail
                  go_cut [] from 101 to 101 (fun w' => w' = (w.alloc (.cells #[.bool false, .bool false, .string ⟨#[]⟩, .string ⟨#[]⟩, .int .i64 0, .int .u8 0] 35)).alloc (.cells #[.bool false, .bool false, .string ⟨#[]⟩, .string ⟨#[]⟩, .int .i64 0, .int .u8 0] 35) ∧ Hid (auto s.data.toList = f0 (isMinus s.data.toList) (unsign s.data.toList)))
                  case first =>
                    by_cases hh : isInf (unsign s.data.toList) = true
                    · have HX : Hid (auto s.data.toList = ⟨isMinus s.data.toList, true, [], [], 0, 5⟩) := auto_inf HO.out HX0.out HN.out hh
                      rw [hh]
                      clear hh
                      go_wp2_with fail
                      exact bodyPost_ret (v := .agg #[.bool (isMinus s.data.toList), .bool true, .string ⟨#[]⟩, .string ⟨#[]⟩, .int .i64 0, .int .u8 5]) (by simp [results, Trym.results22, go_sem]) rfl ⟨by rw [HX.out]; rfl, belowM w _ _⟩
                    · have hh' : isInf (unsign s.data.toList) = false := by simpa using hh
                      have HX : Hid (auto s.data.toList = f0 (isMinus s.data.toList) (unsign s.data.toList)) := auto_run HO.out HX0.out HN.out hh'
                      rw [hh']
                      clear hh hh'
                      go_wp2_with fail
                      go_meet
                      case rel => exact ⟨rfl, HX⟩
                  case rest =>
                    obtain ⟨rfl, HX⟩ := hcut
                    rename_i K hK
                    refine hK _ _ ?_
                    exact mtail18 s a hm w ha HD HX
end Go.Proofs.Qxb6602706aMods.Rd
