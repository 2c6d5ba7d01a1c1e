/-
  THE WALK of zzReadModel: it computes Rd.auto: the loop and what follows it.
-/
import Derived.Test.Qxb6602706aModsModTails
namespace Go.Proofs.Qxb6602706aMods.Rd
open Go.RowKit Dig

set_option maxRecDepth 100000 in
set_option maxHeartbeats 4000000 in
theorem mtail18 (s : ByteArray) (a : Nat) (hm : s.size ≤ maxLen) (w : World) (ha : a ≤ s.size) (HD : Hid (s.data.toList.drop a = unsign s.data.toList)) (HR : Hid (auto s.data.toList = f0 (isMinus s.data.toList) (unsign s.data.toList))) {v6 v7 v8 v9 v10 v11 v12 v13 v14 v15 v16 v17 v18 v19 v20 v21 v22 v23 v24 v25 v26 v27 v28 v29 v30 v31 v32 v33 v34 v35 v36 v37 v38 v39 v40 v41 v42 v43 v44 v45 v46 v47 v48 v49 v50 v51 v52 v53 v54 v55 v56 v57 v58 v59 v60 v61 v62 v63 v64 v65 v66 v67 v68 v69 v70 v71 v72 v73 v74 v75 v76 v77 v78 v79 v80 v81 v82 v83 v84 v85 v86 v87 v88 v89 v90 v91 v92 v93 v94 v95 v96 v97 v98 v99 v100 v101 v102 v103 v104 v105 v106 v107 v108 v109 v110 v111 v112 v113 v114 v115 v116 v117 v118 v119 v120 v121 v122 v123 v124 v125 v126 v127 v128 v129 v130 v131 v132 v133 v134 v135 v136 v137 v138 v139 v140 v141 v142 v143 v144 v145 v146 v147 v148 v149 v150 v151 v152 v153 v154 v155 v156 v157 v158 v159 v160 v161 v162 v163 v164 v165 v166 v167 v168 v169 v170 v171 v172 v173 v174 v175 v176 v177 v178 v179 v180 v181 v182 v183 v184 v185 v186 v187 v188 v189 v190 v191 v192 v193 v194 v195 v196 v197 v198 v199 v200 v201 v202 v203 v204 v205 v206 v207 v208 v209 v210 v211 v212 v213 v214 v215 v216 v217 v218 v219 v220 v221 v222 v223 v224 v225 v226 v227 v228 v229 v230 v231 v232 v233 v234 v235 v236 v237 v238 : Value} :
    Code.wp Trym.prog (dropSeq 10 (Trym.f22.body.getD .skip)) (bodyPost Trym.prog Trym.f22 (fun e w' => e = Ending.returned (modVal (auto s.data.toList)) ∧ Below w.heap.size w w')) ⟨(.string s :: undef :: .pointer (some ⟨w.heap.size, 0, none⟩) :: .pointer (some ⟨w.heap.size + 1, 0, none⟩) :: .int .i64 (a : Int) :: .bool (isMinus s.data.toList) :: v6 :: v7 :: v8 :: v9 :: v10 :: v11 :: v12 :: v13 :: v14 :: v15 :: v16 :: v17 :: v18 :: v19 :: v20 :: v21 :: v22 :: v23 :: v24 :: v25 :: v26 :: v27 :: v28 :: v29 :: v30 :: v31 :: v32 :: v33 :: v34 :: v35 :: v36 :: v37 :: v38 :: v39 :: v40 :: v41 :: v42 :: v43 :: v44 :: v45 :: v46 :: v47 :: v48 :: v49 :: v50 :: v51 :: v52 :: v53 :: v54 :: v55 :: v56 :: v57 :: v58 :: v59 :: v60 :: v61 :: v62 :: v63 :: v64 :: v65 :: v66 :: v67 :: v68 :: v69 :: v70 :: v71 :: v72 :: v73 :: v74 :: v75 :: v76 :: v77 :: v78 :: v79 :: v80 :: v81 :: v82 :: v83 :: v84 :: v85 :: v86 :: v87 :: v88 :: v89 :: v90 :: v91 :: v92 :: v93 :: v94 :: v95 :: v96 :: v97 :: v98 :: v99 :: v100 :: v101 :: v102 :: v103 :: v104 :: v105 :: v106 :: v107 :: v108 :: v109 :: v110 :: v111 :: v112 :: v113 :: v114 :: v115 :: v116 :: v117 :: v118 :: v119 :: v120 :: v121 :: v122 :: v123 :: v124 :: v125 :: v126 :: v127 :: v128 :: v129 :: v130 :: v131 :: v132 :: v133 :: v134 :: v135 :: v136 :: v137 :: v138 :: v139 :: v140 :: v141 :: v142 :: v143 :: v144 :: v145 :: v146 :: v147 :: v148 :: v149 :: v150 :: v151 :: v152 :: v153 :: v154 :: v155 :: v156 :: v157 :: v158 :: v159 :: v160 :: v161 :: v162 :: v163 :: v164 :: v165 :: v166 :: v167 :: v168 :: v169 :: v170 :: v171 :: v172 :: v173 :: v174 :: v175 :: v176 :: v177 :: v178 :: v179 :: v180 :: v181 :: v182 :: v183 :: v184 :: v185 :: v186 :: v187 :: v188 :: v189 :: v190 :: v191 :: v192 :: v193 :: v194 :: v195 :: v196 :: v197 :: v198 :: v199 :: v200 :: v201 :: v202 :: v203 :: v204 :: v205 :: v206 :: v207 :: v208 :: v209 :: v210 :: v211 :: v212 :: v213 :: v214 :: v215 :: v216 :: v217 :: v218 :: v219 :: v220 :: v221 :: v222 :: v223 :: v224 :: v225 :: v226 :: v227 :: v228 :: v229 :: v230 :: v231 :: v232 :: v233 :: v234 :: v235 :: v236 :: v237 :: v238 :: []).toArray, []⟩
      ((w.alloc (.cells #[.bool false, .bool false, .string ⟨#[]⟩, .string ⟨#[]⟩, .int .i64 0, .int .u8 0] 35)).alloc (.cells #[.bool false, .bool false, .string ⟨#[]⟩, .string ⟨#[]⟩, .int .i64 0, .int .u8 0] 35)) := by
  have hs := hm
  unfold maxLen at hs
  have H0 : Hid (Inv s.data.toList (isMinus s.data.toList) a (auto s.data.toList) a 0 (-1) (-1) (-1)) := by
    have h := Inv.start s.data.toList (isMinus s.data.toList) a
    rwa [HD.out, ← HR.out] at h
  conv => arg 2; whnf
  go_upto_block 0 with fail
  go_cut [7, 8, 9, 10, 11] from 105 to 105 (fun st pt mk ef _ w' => w' = (w.alloc (.cells #[.bool false, .bool false, .string ⟨#[]⟩, .string ⟨#[]⟩, .int .i64 0, .int .u8 0] 35)).alloc (.cells #[.bool false, .bool false, .string ⟨#[]⟩, .string ⟨#[]⟩, .int .i64 0, .int .u8 0] 35) ∧ ∃ x y z v : Int, st = .int .i64 x ∧ pt = .int .i64 y ∧ mk = .int .i64 z ∧ ef = .int .i64 v ∧ Hid (Inv s.data.toList (isMinus s.data.toList) a (auto s.data.toList) s.data.toList.length x y z v))
  case first =>
    go_wp2_with fail
    go_loopg [7, 8, 9, 10, 11] (s.size - a) (fun g st pt mk ef i wr => wr = (w.alloc (.cells #[.bool false, .bool false, .string ⟨#[]⟩, .string ⟨#[]⟩, .int .i64 0, .int .u8 0] 35)).alloc (.cells #[.bool false, .bool false, .string ⟨#[]⟩, .string ⟨#[]⟩, .int .i64 0, .int .u8 0] 35) ∧ ∃ (x y z v : Int) (k : Nat), k + g = s.size ∧ i = .int .i64 k ∧ st = .int .i64 x ∧ pt = .int .i64 y ∧ mk = .int .i64 z ∧ ef = .int .i64 v ∧ Hid (Inv s.data.toList (isMinus s.data.toList) a (auto s.data.toList) k x y z v))
    case atStart => exact ⟨rfl, 0, -1, -1, -1, a, by omega, rfl, rfl, rfl, rfl, rfl, H0⟩
    case round =>
      obtain ⟨rfl, x, y, z, v, k, hk, rfl, rfl, rfl, rfl, rfl, HI⟩ := hrel
      by_cases hlt : k < s.size
      · have hx : s[k].toNat < 256 := UInt8.toNat_lt _
        go_upto_region 27 with fail
        go_cut [119] from 114 to 119 (fun b w' => b = .bool (dig s[k]) ∧ w' = (w.alloc (.cells #[.bool false, .bool false, .string ⟨#[]⟩, .string ⟨#[]⟩, .int .i64 0, .int .u8 0] 35)).alloc (.cells #[.bool false, .bool false, .string ⟨#[]⟩, .string ⟨#[]⟩, .int .i64 0, .int .u8 0] 35))
        case first =>
          by_cases c1 : 48 ≤ s[k].toNat
          · by_cases c2 : s[k].toNat ≤ 57
            · have H : Hid (dig s[k] = true) := (dig_iff _).2 ⟨c1, c2⟩
              go_wp2_with fail
              go_meet
              case rel => exact ⟨by rw [H.out]; exact congrArg Value.bool (decide_eq_true (by omega)), rfl⟩
            · have H : Hid (dig s[k] = false) := not_dig (by omega)
              go_wp2_with fail
              go_meet
              case rel => exact ⟨by rw [H.out]; exact congrArg Value.bool (decide_eq_false (by omega)), rfl⟩
          · have H : Hid (dig s[k] = false) := not_dig (by omega)
            go_wp2_with fail
            go_meet
            case rel => exact ⟨by rw [H.out], rfl⟩
        case rest =>
          obtain ⟨rfl, rfl⟩ := hcut
          go_upto_if 119 with fail
          go_cut [13] from 119 to 119 (fun n w' => w' = (w.alloc (.cells #[.bool false, .bool false, .string ⟨#[]⟩, .string ⟨#[]⟩, .int .i64 0, .int .u8 0] 35)).alloc (.cells #[.bool false, .bool false, .string ⟨#[]⟩, .string ⟨#[]⟩, .int .i64 0, .int .u8 0] 35) ∧ ∃ nx : Int, n = .int .i64 nx ∧ Hid (nx = nextOf x s[k].toNat))
          case first =>
            by_cases hh : dig s[k] = true
            · have HC : Hid (48 ≤ s[k].toNat ∧ s[k].toNat ≤ 57) := (dig_iff _).1 hh
              rw [hh]
              clear hh
              by_cases x0 : x = 0
              · subst x0
                go_wp2_with fail
                go_meet
                case rel => exact ⟨rfl, 2, rfl, by show _ = _; rw [next_dig HC.out]; rfl⟩
              have e0 : (x == 0) = false := by rw [beq_eq_false_iff_ne]; exact x0
              by_cases x2 : x = 2
              · subst x2
                go_wp2_with fail
                go_meet
                case rel => exact ⟨rfl, 2, rfl, by show _ = _; rw [next_dig HC.out]; rfl⟩
              have e2 : (x == 2) = false := by rw [beq_eq_false_iff_ne]; exact x2
              by_cases x3 : x = 3
              · subst x3
                go_wp2_with fail
                go_meet
                case rel => exact ⟨rfl, 5, rfl, by show _ = _; rw [next_dig HC.out]; rfl⟩
              have e3 : (x == 3) = false := by rw [beq_eq_false_iff_ne]; exact x3
              by_cases x4 : x = 4
              · subst x4
                go_wp2_with fail
                go_meet
                case rel => exact ⟨rfl, 5, rfl, by show _ = _; rw [next_dig HC.out]; rfl⟩
              have e4 : (x == 4) = false := by rw [beq_eq_false_iff_ne]; exact x4
              by_cases x5 : x = 5
              · subst x5
                go_wp2_with fail
                go_meet
                case rel => exact ⟨rfl, 5, rfl, by show _ = _; rw [next_dig HC.out]; rfl⟩
              have e5 : (x == 5) = false := by rw [beq_eq_false_iff_ne]; exact x5
              go_wp2_with fail
              go_meet
              case rel => exact ⟨rfl, 8, rfl, by show _ = _; rw [next_dig HC.out, if_neg (by omega), if_neg (by omega)]⟩
            rw [Bool.not_eq_true] at hh
            have hnd : ¬ (48 ≤ s[k].toNat ∧ s[k].toNat ≤ 57) := fun h => by rw [(dig_iff _).2 h] at hh; cases hh
            rw [hh]
            clear hh
            have HND : Hid (¬ (48 ≤ s[k].toNat ∧ s[k].toNat ≤ 57)) := hnd
            clear hnd
            by_cases h46 : s[k].toNat = 46
            · have HC : Hid (s[k].toNat = 46) := h46
              have c46 : ((s[k].toNat : Int) == 46) = true := by simp [h46]
              clear h46
              by_cases x0 : x = 0
              · subst x0
                go_wp2_with fail
                go_meet
                case rel => exact ⟨rfl, 4, rfl, by show _ = _; rw [next_dot HC.out]; rfl⟩
              have e0 : (x == 0) = false := by rw [beq_eq_false_iff_ne]; exact x0
              by_cases x2 : x = 2
              · subst x2
                go_wp2_with fail
                go_meet
                case rel => exact ⟨rfl, 3, rfl, by show _ = _; rw [next_dot HC.out]; rfl⟩
              have e2 : (x == 2) = false := by rw [beq_eq_false_iff_ne]; exact x2
              go_wp2_with fail
              go_meet
              case rel => exact ⟨rfl, (-1), rfl, by show _ = _; rw [next_dot HC.out, if_neg (by omega), if_neg (by omega)]⟩
            have c46 : ((s[k].toNat : Int) == 46) = false := by rw [beq_eq_false_iff_ne]; omega
            by_cases h101 : s[k].toNat = 101
            · have HC : Hid (s[k].toNat = 101 ∨ s[k].toNat = 69) := Or.inl h101
              have c101 : ((s[k].toNat : Int) == 101) = true := by simp [h101]
              clear h101 h46
              by_cases x2 : x = 2
              · subst x2
                go_wp2_with fail
                go_meet
                case rel => exact ⟨rfl, 6, rfl, by show _ = _; rw [next_e HC.out]; rfl⟩
              have e2 : (x == 2) = false := by rw [beq_eq_false_iff_ne]; exact x2
              by_cases x3 : x = 3
              · subst x3
                go_wp2_with fail
                go_meet
                case rel => exact ⟨rfl, 6, rfl, by show _ = _; rw [next_e HC.out]; rfl⟩
              have e3 : (x == 3) = false := by rw [beq_eq_false_iff_ne]; exact x3
              by_cases x5 : x = 5
              · subst x5
                go_wp2_with fail
                go_meet
                case rel => exact ⟨rfl, 6, rfl, by show _ = _; rw [next_e HC.out]; rfl⟩
              have e5 : (x == 5) = false := by rw [beq_eq_false_iff_ne]; exact x5
              go_wp2_with fail
              go_meet
              case rel => exact ⟨rfl, (-1), rfl, by show _ = _; rw [next_e HC.out, if_neg (by omega)]⟩
            have c101 : ((s[k].toNat : Int) == 101) = false := by rw [beq_eq_false_iff_ne]; omega
            by_cases h69 : s[k].toNat = 69
            · have HC : Hid (s[k].toNat = 101 ∨ s[k].toNat = 69) := Or.inr h69
              have c69 : ((s[k].toNat : Int) == 69) = true := by simp [h69]
              clear h101 h46 h69
              by_cases x2 : x = 2
              · subst x2
                go_wp2_with fail
                go_meet
                case rel => exact ⟨rfl, 6, rfl, by show _ = _; rw [next_e HC.out]; rfl⟩
              have e2 : (x == 2) = false := by rw [beq_eq_false_iff_ne]; exact x2
              by_cases x3 : x = 3
              · subst x3
                go_wp2_with fail
                go_meet
                case rel => exact ⟨rfl, 6, rfl, by show _ = _; rw [next_e HC.out]; rfl⟩
              have e3 : (x == 3) = false := by rw [beq_eq_false_iff_ne]; exact x3
              by_cases x5 : x = 5
              · subst x5
                go_wp2_with fail
                go_meet
                case rel => exact ⟨rfl, 6, rfl, by show _ = _; rw [next_e HC.out]; rfl⟩
              have e5 : (x == 5) = false := by rw [beq_eq_false_iff_ne]; exact x5
              go_wp2_with fail
              go_meet
              case rel => exact ⟨rfl, (-1), rfl, by show _ = _; rw [next_e HC.out, if_neg (by omega)]⟩
            have c69 : ((s[k].toNat : Int) == 69) = false := by rw [beq_eq_false_iff_ne]; omega
            by_cases h43 : s[k].toNat = 43
            · have HC : Hid (s[k].toNat = 43 ∨ s[k].toNat = 45) := Or.inl h43
              have c43 : ((s[k].toNat : Int) == 43) = true := by simp [h43]
              clear h101 h46 h69 h43
              by_cases x6 : x = 6
              · subst x6
                go_wp2_with fail
                go_meet
                case rel => exact ⟨rfl, 7, rfl, by show _ = _; rw [next_sign HC.out]; rfl⟩
              have e6 : (x == 6) = false := by rw [beq_eq_false_iff_ne]; exact x6
              go_wp2_with fail
              go_meet
              case rel => exact ⟨rfl, (-1), rfl, by show _ = _; rw [next_sign HC.out, if_neg (by omega)]⟩
            have c43 : ((s[k].toNat : Int) == 43) = false := by rw [beq_eq_false_iff_ne]; omega
            by_cases h45 : s[k].toNat = 45
            · have HC : Hid (s[k].toNat = 43 ∨ s[k].toNat = 45) := Or.inr h45
              have c45 : ((s[k].toNat : Int) == 45) = true := by simp [h45]
              clear h101 h46 h69 h43 h45
              by_cases x6 : x = 6
              · subst x6
                go_wp2_with fail
                go_meet
                case rel => exact ⟨rfl, 7, rfl, by show _ = _; rw [next_sign HC.out]; rfl⟩
              have e6 : (x == 6) = false := by rw [beq_eq_false_iff_ne]; exact x6
              go_wp2_with fail
              go_meet
              case rel => exact ⟨rfl, (-1), rfl, by show _ = _; rw [next_sign HC.out, if_neg (by omega)]⟩
            have c45 : ((s[k].toNat : Int) == 45) = false := by rw [beq_eq_false_iff_ne]; omega
            have HC : Hid (nextOf x s[k].toNat = -1) := next_other HND.out h46 (by omega) (by omega)
            clear h101 h46 h69 h43 h45
            go_wp2_with fail
            go_meet
            case rel => exact ⟨rfl, (-1), rfl, by show _ = _; exact HC.out.symm⟩
          case rest =>
            obtain ⟨rfl, nx, rfl, HN⟩ := hcut
            have HS : Hid (Step s.data.toList (isMinus s.data.toList) a (auto s.data.toList) k x y z v nx) := step_at HI.out hlt HN.out
            have HN' := nextOf_range x s[k].toNat
            rw [← HN.out] at HN'
            clear HI
            rcases HN' with rfl | rfl | rfl | rfl | rfl | rfl | rfl | rfl
            · have HX : Hid (auto s.data.toList = no) := step_dead HS.out
              clear HS HN
              go_wp2_with fail
              exact bodyPost_ret (v := .agg #[.bool false, .bool false, .string ⟨#[]⟩, .string ⟨#[]⟩, .int .i64 0, .int .u8 0]) (by simp [results, Trym.results22, go_sem]) rfl ⟨by rw [HX.out]; rfl, belowM w _ _⟩
            · have HJ : Hid (Inv s.data.toList (isMinus s.data.toList) a (auto s.data.toList) (k + 1) 2 y z v) := by
                have h := step_out HS.out (by decide)
                rw [if_neg (by decide), if_neg (by decide), if_neg (fun hh => by have := hh.1; omega)] at h
                exact h
              clear HS HN
              go_wp2_with fail
              go_roundg (gk - 1)
              case measure => omega
              case rel => exact ⟨rfl, 2, y, z, v, k + 1, by omega, by go_num, rfl, rfl, rfl, rfl, HJ⟩
            · have HJ : Hid (Inv s.data.toList (isMinus s.data.toList) a (auto s.data.toList) (k + 1) 3 k z v) := by
                have h := step_out HS.out (by decide)
                rw [if_pos (by decide), if_neg (by decide), if_neg (fun hh => by have := hh.1; omega)] at h
                exact h
              clear HS HN
              go_wp2_with fail
              go_roundg (gk - 1)
              case measure => omega
              case rel => exact ⟨rfl, 3, k, z, v, k + 1, by omega, by go_num, rfl, rfl, rfl, rfl, HJ⟩
            · have HJ : Hid (Inv s.data.toList (isMinus s.data.toList) a (auto s.data.toList) (k + 1) 4 k z v) := by
                have h := step_out HS.out (by decide)
                rw [if_pos (by decide), if_neg (by decide), if_neg (fun hh => by have := hh.1; omega)] at h
                exact h
              clear HS HN
              go_wp2_with fail
              go_roundg (gk - 1)
              case measure => omega
              case rel => exact ⟨rfl, 4, k, z, v, k + 1, by omega, by go_num, rfl, rfl, rfl, rfl, HJ⟩
            · have HJ : Hid (Inv s.data.toList (isMinus s.data.toList) a (auto s.data.toList) (k + 1) 5 y z v) := by
                have h := step_out HS.out (by decide)
                rw [if_neg (by decide), if_neg (by decide), if_neg (fun hh => by have := hh.1; omega)] at h
                exact h
              clear HS HN
              go_wp2_with fail
              go_roundg (gk - 1)
              case measure => omega
              case rel => exact ⟨rfl, 5, y, z, v, k + 1, by omega, by go_num, rfl, rfl, rfl, rfl, HJ⟩
            · have HJ : Hid (Inv s.data.toList (isMinus s.data.toList) a (auto s.data.toList) (k + 1) 6 y k v) := by
                have h := step_out HS.out (by decide)
                rw [if_neg (by decide), if_pos (by decide), if_neg (fun hh => by have := hh.1; omega)] at h
                exact h
              clear HS HN
              go_wp2_with fail
              go_roundg (gk - 1)
              case measure => omega
              case rel => exact ⟨rfl, 6, y, k, v, k + 1, by omega, by go_num, rfl, rfl, rfl, rfl, HJ⟩
            · have HJ : Hid (Inv s.data.toList (isMinus s.data.toList) a (auto s.data.toList) (k + 1) 7 y z v) := by
                have h := step_out HS.out (by decide)
                rw [if_neg (by decide), if_neg (by decide), if_neg (fun hh => by have := hh.1; omega)] at h
                exact h
              clear HS HN
              go_wp2_with fail
              go_roundg (gk - 1)
              case measure => omega
              case rel => exact ⟨rfl, 7, y, z, v, k + 1, by omega, by go_num, rfl, rfl, rfl, rfl, HJ⟩
            · by_cases x8 : x = 8
              · subst x8
                have HJ : Hid (Inv s.data.toList (isMinus s.data.toList) a (auto s.data.toList) (k + 1) 8 y z v) := by
                  have h := step_out HS.out (by decide)
                  rw [if_neg (by decide), if_neg (by decide), if_neg (by simp)] at h
                  exact h
                clear HS HN
                go_wp2_with fail
                go_roundg (gk - 1)
                case measure => omega
                case rel => exact ⟨rfl, 8, y, z, v, k + 1, by omega, by go_num, rfl, rfl, rfl, rfl, HJ⟩
              · have e8 : (x == 8) = false := by rw [beq_eq_false_iff_ne]; exact x8
                have e8' : (x != 8) = true := by rw [bne, e8]; rfl
                have HJ : Hid (Inv s.data.toList (isMinus s.data.toList) a (auto s.data.toList) (k + 1) 8 y z k) := by
                  have h := step_out HS.out (by decide)
                  rw [if_neg (by decide), if_neg (by decide), if_pos ⟨rfl, x8⟩] at h
                  exact h
                clear HS HN x8
                go_wp2_with fail
                go_roundg (gk - 1)
                case measure => omega
                case rel => exact ⟨rfl, 8, y, z, k, k + 1, by omega, by go_num, rfl, rfl, rfl, rfl, HJ⟩
      · have hks : k = s.data.toList.length := by simp; omega
        have HE : Hid (Inv s.data.toList (isMinus s.data.toList) a (auto s.data.toList) s.data.toList.length x y z v) := by rw [← hks]; exact HI
        clear hks HI
        go_wp2_with fail
        go_meet
        case rel => exact ⟨rfl, x, y, z, v, rfl, rfl, rfl, rfl, HE⟩
  case rest =>
    obtain ⟨rfl, x, y, z, v, rfl, rfl, rfl, rfl, HE⟩ := hcut
    rename_i K hK
    refine hK _ _ ?_
    exact mtail53 s a hm w ha x y z v HE
end Go.Proofs.Qxb6602706aMods.Rd
