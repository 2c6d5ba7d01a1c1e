/-
  THE WALK of zzReadModel: it computes Rd.auto: the code behind the loop.
-/
import Derived.Test.Qxb6602706aModsReadTails
import Derived.Test.Qxb6602706aModsAutoPlain
import Derived.Deep.RegionWith
namespace Go.Proofs.Qxb6602706aMods.Rd
open Go.RowKit Dig

/-- The answer as zzReadModel hands it back. -/
def modVal (x : Res) : Value := .agg #[.bool x.neg, .bool x.inf, .string (ba x.whole), .string (ba x.frac), .int .i64 x.ex, .int .u8 x.form]
theorem belowM (w : World) (o o' : Obj) : Below w.heap.size w ((w.alloc o).alloc o') := ((Below.refl _ w).alloc (Nat.le_refl _) o).alloc (by simp) o'
theorem belowM3 (w : World) (o o' o'' : Obj) : Below w.heap.size w (((w.alloc o).alloc o').alloc o'') := (belowM w o o').alloc (by simp; omega) o''
theorem belowMd (w : World) (o o' o'' : Obj) (n : Nat) : Below w.heap.size w ((((w.alloc o).alloc o').alloc o'').drewN n) := below_drewN (belowM3 w o o' o'') n

def allS (b : Nat) (s : ByteArray) : Bool := allDig b s.data.toList
theorem allS_at (s : ByteArray) (b : Nat) (bi : Int) (hbi : bi = (b : Int)) (hb : b ≤ 16) (hs : s.size ≤ maxLen) (w : World) :
    Calls Trym.prog 28 #[.string s, .int .u8 bi] w fun e w' => e = .returned (.bool (allS b s)) ∧ w' = w := allDigits_any s b bi hbi hb hs w
theorem based_all {s : ByteArray} (h : 2 < s.size) (h0 : s[0].toNat = 48) (x b : Nat) (h1 : s[1].toNat = x) : based s.data.toList x b = allS b (s.extract 2 s.size) := by
  have hl : (s.extract 2 s.size).data.toList.length = s.size - 2 := by rw [extract_list]; simp
  have hne : (s.extract 2 s.size).data.toList ≠ [] := fun e => by rw [e] at hl; simp at hl; omega
  rw [based_eq s h, h0, h1]
  unfold allS allDig cntS
  rw [hl, decide_eq_true hne, decide_eq_true (rfl : (48 : Nat) = 48), decide_eq_true (rfl : x = x)]
  simp
theorem based_no0 {s : ByteArray} (h : 2 < s.size) (h0 : ¬ s[0].toNat = 48) (x b : Nat) : based s.data.toList x b = false := by
  rw [based_eq s h, decide_eq_false h0]; rfl
theorem based_no1 {s : ByteArray} (h : 2 < s.size) (x b : Nat) (h1 : ¬ s[1].toNat = x) : based s.data.toList x b = false := by
  rw [based_eq s h, decide_eq_false h1]; simp
theorem auto_oct {l : List UInt8} (h : based l 111 8 = true) : auto l = ⟨false, false, [], [], 0, 2⟩ := by unfold auto; rw [if_pos h]
theorem auto_hex {l : List UInt8} (h : based l 111 8 = false) (h' : based l 120 16 = true) : auto l = ⟨false, false, [], [], 0, 3⟩ := by unfold auto; rw [h, h']; rfl
theorem auto_nan {l : List UInt8} (h : based l 111 8 = false) (h' : based l 120 16 = false) (hn : isNan l = true) : auto l = ⟨false, false, [], [], 0, 6⟩ := by unfold auto; rw [h, h', hn]; rfl
theorem auto_inf {l : List UInt8} (h : based l 111 8 = false) (h' : based l 120 16 = false) (hn : isNan l = false) (hi : isInf (unsign l) = true) : auto l = ⟨isMinus l, true, [], [], 0, 5⟩ := by
  unfold auto; rw [h, h', hn, hi]; rfl
theorem auto_run {l : List UInt8} (h : based l 111 8 = false) (h' : based l 120 16 = false) (hn : isNan l = false) (hi : isInf (unsign l) = false) : auto l = f0 (isMinus l) (unsign l) := by
  unfold auto; rw [h, h', hn, hi]; rfl
theorem nan_by {u : ByteArray} {l : List UInt8} (h : u.data.toList = l) : isNan l = (u.toList == [46, 110, 97, 110] || u.toList == [46, 78, 97, 78] || u.toList == [46, 78, 65, 78]) := by
  rw [ByteArray.toList_eq, h]; rfl
theorem inf_by {u : ByteArray} {l : List UInt8} (h : u.data.toList = l) : isInf l = (u.toList == [46, 105, 110, 102] || u.toList == [46, 73, 110, 102] || u.toList == [46, 73, 78, 70]) := by
  rw [ByteArray.toList_eq, h]; rfl

theorem step_out {l : List UInt8} {neg : Bool} {a : Nat} {t : Res} {i : Nat} {st pt mk ef nx : Int} (h : Step l neg a t i st pt mk ef nx) (hn : 0 ≤ nx) :
    Inv l neg a t (i + 1) nx (if nx = 3 ∨ nx = 4 then (i : Int) else pt) (if nx = 6 then (i : Int) else mk) (if nx = 8 ∧ st ≠ 8 then (i : Int) else ef) := by
  rcases h with ⟨e, _⟩ | ⟨_, h⟩
  · omega
  · exact h
theorem step_dead {l : List UInt8} {neg : Bool} {a : Nat} {t : Res} {i : Nat} {st pt mk ef : Int} (h : Step l neg a t i st pt mk ef (-1)) : t = no := by
  rcases h with ⟨_, h⟩ | ⟨h, _⟩
  · exact h
  · omega
theorem list_at (s : ByteArray) (k : Nat) (_h : k < s.size) (h' : k < s.data.toList.length) : s.data.toList[k] = s[k] := by rw [Array.getElem_toList]; rfl
theorem step_at {s : ByteArray} {neg : Bool} {a : Nat} {t : Res} {k : Nat} {x y z v nx : Int} (h : Inv s.data.toList neg a t k x y z v) (hk : k < s.size) (hn : nx = nextOf x s[k].toNat) : Step s.data.toList neg a t k x y z v nx := by
  have h' : k < s.data.toList.length := by simpa using hk
  have := h.step h'
  rwa [list_at s k hk h', ← hn] at this

theorem ba_seg (s : ByteArray) (a b : Nat) : ba (seg s.data.toList a b) = s.extract a b := by
  apply ByteArray.ext
  apply Array.toList_inj.1
  rw [ByteArray.data_extract, Array.toList_extract, List.extract_eq_take_drop]
  rfl
theorem ba_nil : ba [] = ⟨#[]⟩ := rfl
theorem seg_extract (s : ByteArray) (e : Nat) : (s.extract e s.size).data.toList = seg s.data.toList e s.data.toList.length := by
  rw [seg_end, extract_list]
theorem slice_ab (s : ByteArray) (a b : Nat) (hab : a ≤ b) (hb : b ≤ s.size) (W : World) :
    (Instr.slice 9 (.string s) (some (.int .i64 (a : Int))) (some (.int .i64 (b : Int))) none).run Trym.prog W = .ok (.string (s.extract a b)) W := by
  have := run_slice_string (P := Trym.prog) W 9 s .i64 .i64 (a : Int) (b : Int) Trym.underlying9 (by omega) (by omega) (by omega)
  rwa [Int.toNat_natCast, Int.toNat_natCast] at this
theorem slice_pb (s : ByteArray) (p b : Nat) (hab : p + 1 ≤ b) (hb : b ≤ s.size) (W : World) :
    (Instr.slice 9 (.string s) (some (.int .i64 ((p : Int) + 1))) (some (.int .i64 (b : Int))) none).run Trym.prog W = .ok (.string (s.extract (p + 1) b)) W := slice_ab s (p + 1) b hab hb W

theorem index_m1 (s : ByteArray) (m : Nat) (h : m + 1 < s.size) (W : World) : (Instr.index 9 (.string s) (.int .i64 ((m : Int) + 1))).run Trym.prog W = .ok (.int .u8 (s[m + 1].toNat : Int)) W := by
  rw [run_index_string W 9 s .i64 ((m : Int) + 1) Trym.underlying9, dif_pos ⟨by omega, by omega⟩]
  rfl
theorem wrap_in (n : Int) (h0 : 0 ≤ n) (h : n < 9223372036854775808) : IntKind.i64.wrap n = n := by
  simp [IntKind.wrap, IntKind.bits, IntKind.signed]
  omega
theorem slice_from (s : ByteArray) (e : Nat) (h : e ≤ s.size) (W : World) : (Instr.slice 9 (.string s) (some (.int .i64 (e : Int))) none none).run Trym.prog W = .ok (.string (s.extract e s.size)) W := by
  rw [run_slice_string_from_if W 9 s .i64 (e : Int) Trym.underlying9, if_pos ⟨by omega, by omega⟩, Int.toNat_natCast]

set_option maxRecDepth 100000 in
set_option maxHeartbeats 4000000 in
theorem mtail53 (s : ByteArray) (a : Nat) (hm : s.size ≤ maxLen) (w : World) (ha : a ≤ s.size) (x y z v : Int) (HI : Hid (Inv s.data.toList (isMinus s.data.toList) a (auto s.data.toList) s.data.toList.length x y z v)) {v6 v11 v12 v13 v14 v15 v16 v17 v18 v19 v20 v21 v22 v23 v24 v25 v26 v27 v28 v29 v30 v31 v32 v33 v34 v35 v36 v37 v38 v39 v40 v41 v42 v43 v44 v45 v46 v47 v48 v49 v50 v51 v52 v53 v54 v55 v56 v57 v58 v59 v60 v61 v62 v63 v64 v65 v66 v67 v68 v69 v70 v71 v72 v73 v74 v75 v76 v77 v78 v79 v80 v81 v82 v83 v84 v85 v86 v87 v88 v89 v90 v91 v92 v93 v94 v95 v96 v97 v98 v99 v100 v101 v102 v103 v104 v105 v106 v107 v108 v109 v110 v111 v112 v113 v114 v115 v116 v117 v118 v119 v120 v121 v122 v123 v124 v125 v126 v127 v128 v129 v130 v131 v132 v133 v134 v135 v136 v137 v138 v139 v140 v141 v142 v143 v144 v145 v146 v147 v148 v149 v150 v151 v152 v153 v154 v155 v156 v157 v158 v159 v160 v161 v162 v163 v164 v165 v166 v167 v168 v169 v170 v171 v172 v173 v174 v175 v176 v177 v178 v179 v180 v181 v182 v183 v184 v185 v186 v187 v188 v189 v190 v191 v192 v193 v194 v195 v196 v197 v198 v199 v200 v201 v202 v203 v204 v205 v206 v207 v208 v209 v210 v211 v212 v213 v214 v215 v216 v217 v218 v219 v220 v221 v222 v223 v224 v225 v226 v227 v228 v229 v230 v231 v232 v233 v234 v235 v236 v237 v238 : Value} :
    Code.wp Trym.prog (dropSeq 15 (Trym.f22.body.getD .skip)) (bodyPost Trym.prog Trym.f22 (fun e w' => e = Ending.returned (modVal (auto s.data.toList)) ∧ Below w.heap.size w w')) ⟨(.string s :: undef :: .pointer (some ⟨w.heap.size, 0, none⟩) :: .pointer (some ⟨w.heap.size + 1, 0, none⟩) :: .int .i64 (a : Int) :: .bool (isMinus s.data.toList) :: v6 :: .int .i64 x :: .int .i64 y :: .int .i64 z :: .int .i64 v :: v11 :: v12 :: v13 :: v14 :: v15 :: v16 :: v17 :: v18 :: v19 :: v20 :: v21 :: v22 :: v23 :: v24 :: v25 :: v26 :: v27 :: v28 :: v29 :: v30 :: v31 :: v32 :: v33 :: v34 :: v35 :: v36 :: v37 :: v38 :: v39 :: v40 :: v41 :: v42 :: v43 :: v44 :: v45 :: v46 :: v47 :: v48 :: v49 :: v50 :: v51 :: v52 :: v53 :: v54 :: v55 :: v56 :: v57 :: v58 :: v59 :: v60 :: v61 :: v62 :: v63 :: v64 :: v65 :: v66 :: v67 :: v68 :: v69 :: v70 :: v71 :: v72 :: v73 :: v74 :: v75 :: v76 :: v77 :: v78 :: v79 :: v80 :: v81 :: v82 :: v83 :: v84 :: v85 :: v86 :: v87 :: v88 :: v89 :: v90 :: v91 :: v92 :: v93 :: v94 :: v95 :: v96 :: v97 :: v98 :: v99 :: v100 :: v101 :: v102 :: v103 :: v104 :: v105 :: v106 :: v107 :: v108 :: v109 :: v110 :: v111 :: v112 :: v113 :: v114 :: v115 :: v116 :: v117 :: v118 :: v119 :: v120 :: v121 :: v122 :: v123 :: v124 :: v125 :: v126 :: v127 :: v128 :: v129 :: v130 :: v131 :: v132 :: v133 :: v134 :: v135 :: v136 :: v137 :: v138 :: v139 :: v140 :: v141 :: v142 :: v143 :: v144 :: v145 :: v146 :: v147 :: v148 :: v149 :: v150 :: v151 :: v152 :: v153 :: v154 :: v155 :: v156 :: v157 :: v158 :: v159 :: v160 :: v161 :: v162 :: v163 :: v164 :: v165 :: v166 :: v167 :: v168 :: v169 :: v170 :: v171 :: v172 :: v173 :: v174 :: v175 :: v176 :: v177 :: v178 :: v179 :: v180 :: v181 :: v182 :: v183 :: v184 :: v185 :: v186 :: v187 :: v188 :: v189 :: v190 :: v191 :: v192 :: v193 :: v194 :: v195 :: v196 :: v197 :: v198 :: v199 :: v200 :: v201 :: v202 :: v203 :: v204 :: v205 :: v206 :: v207 :: v208 :: v209 :: v210 :: v211 :: v212 :: v213 :: v214 :: v215 :: v216 :: v217 :: v218 :: v219 :: v220 :: v221 :: v222 :: v223 :: v224 :: v225 :: v226 :: v227 :: v228 :: v229 :: v230 :: v231 :: v232 :: v233 :: v234 :: v235 :: v236 :: v237 :: v238 :: []).toArray, []⟩
      ((w.alloc (.cells #[.bool false, .bool false, .string ⟨#[]⟩, .string ⟨#[]⟩, .int .i64 0, .int .u8 0] 35)).alloc (.cells #[.bool false, .bool false, .string ⟨#[]⟩, .string ⟨#[]⟩, .int .i64 0, .int .u8 0] 35)) := by
  have hs := hm
  unfold maxLen at hs
  conv => arg 2; whnf
  have hl : s.data.toList.length = s.size := by simp
  rcases Inv.fin HI.out with ⟨hst, ht⟩ | ⟨rfl, rfl, rfl, ht⟩ | ⟨hst, rfl, p, rfl, hp, hpl, ht⟩ | ⟨rfl, m, e, c, rfl, rfl, hme, hel, hc, hdg, hsh⟩
  · have HX : Hid (auto s.data.toList = no) := ht
    clear HI ht hl
    rcases hst with rfl | rfl | rfl | rfl
    all_goals
      go_wp2_with fail
      exact bodyPost_ret (v := .agg #[.bool false, .bool false, .string ⟨#[]⟩, .string ⟨#[]⟩, .int .i64 0, .int .u8 0]) (by simp [results, Trym.results22, go_sem]) rfl ⟨by rw [HX.out]; rfl, belowM w _ _⟩
  · have HX : Hid (auto s.data.toList = ⟨isMinus s.data.toList, false, seg s.data.toList a s.data.toList.length, [], 0, 1⟩) := ht
    have hsl := slice_ab s a s.size ha (Nat.le_refl _)
    have HL : Hid (s.data.toList.length = s.size) := hl
    clear HI ht hl
    go_wp2_with fail
    exact bodyPost_ret (v := .agg #[.bool (isMinus s.data.toList), .bool false, .string (s.extract a s.size), .string ⟨#[]⟩, .int .i64 0, .int .u8 1]) (by simp [results, Trym.results22, go_sem]) rfl ⟨by rw [HX.out, modVal, ba_seg, HL.out]; rfl, belowM3 w _ _ _⟩
  · have HX : Hid (auto s.data.toList = ⟨isMinus s.data.toList, false, seg s.data.toList a p, seg s.data.toList (p + 1) s.data.toList.length, 0, 4⟩) := ht
    rw [hl] at hpl
    have hsl := slice_ab s a p hp (by omega)
    have hsl2 := slice_pb s p s.size (by omega) (Nat.le_refl _)
    have HL : Hid (s.data.toList.length = s.size) := hl
    clear HI ht hl
    rcases hst with rfl | rfl
    all_goals
      go_wp2_with fail
      exact bodyPost_ret (v := .agg #[.bool (isMinus s.data.toList), .bool false, .string (s.extract a p), .string (s.extract (p + 1) s.size), .int .i64 0, .int .u8 4]) (by simp [results, Trym.results22, go_sem]) rfl ⟨by rw [HX.out, modVal, ba_seg, ba_seg, HL.out], belowM3 w _ _ _⟩
  · rw [hl] at hel
    have hxm : (s.extract e s.size).size ≤ maxLen := by rw [ByteArray.size_extract]; omega
    have HDG : Hid (∀ j (hj : j < (s.extract e s.size).size), dig (s.extract e s.size)[j] = true) := fun j hj =>
      hdg _ (by rw [← seg_extract, Array.mem_toList_iff]; exact Array.getElem_mem (xs := (s.extract e s.size).data) hj)
    have hm1 : m + 1 < s.size := by omega
    have HC : Hid (((s[m + 1].toNat : Int) == 45) = decide (c.toNat = 45)) := by
      show _ = _
      have h := List.getElem?_eq_some_iff.1 hc
      obtain ⟨h1, h2⟩ := h
      rw [list_at s (m + 1) hm1 h1] at h2
      rw [h2, Bool.eq_iff_iff, beq_iff_eq, decide_eq_true_eq]
      omega
    have he1 : (e : Int) ≤ (s.size : Int) := by omega
    have hmi : (m : Int) + 1 < (s.size : Int) := by omega
    have hmj : (0 : Int) ≤ (m : Int) + 1 := by omega
    have hix := index_m1 s m hm1
    have hse := slice_from s e (by omega)
    have hwr := wrap_in ((m : Int) + 1) (by omega) (by omega)
    have HL : Hid (s.data.toList.length = s.size) := hl
    have hexp := fun (en : Bool) (w' : World) => zzExponent_any (s.extract e s.size) en w' hxm HDG.out
    have HE : Hid (∀ (en : Bool) (w' : World), Calls Trym.prog 29 #[.string (s.extract e s.size), .bool en] w' fun r w'' => r = .returned (.int .i64 (expo (s.extract e s.size).data.toList en)) ∧ w'' = w') := hexp
    have HEL : Hid ((s.extract e s.size).data.toList = seg s.data.toList e s.data.toList.length) := seg_extract s e
    clear hexp HI hl hc hdg
    rcases hsh with ⟨rfl, ham, ht⟩ | ⟨p, rfl, hp, hpm, ht⟩
    · have HX : Hid (auto s.data.toList = ⟨isMinus s.data.toList, false, seg s.data.toList a m, [], expo (seg s.data.toList e s.data.toList.length) (decide (c.toNat = 45)), 4⟩) := ht
      have hsl := slice_ab s a m (by omega) (by omega)
      clear ht
      go_upto_region 68 with fail
      go_cut [] from 228 to 237 (fun w' => ∃ (n : Nat) (ex : Int), w' = ((((w.alloc (.cells #[.bool false, .bool false, .string ⟨#[]⟩, .string ⟨#[]⟩, .int .i64 0, .int .u8 0] 35)).alloc (.cells #[.bool false, .bool false, .string ⟨#[]⟩, .string ⟨#[]⟩, .int .i64 0, .int .u8 0] 35))).alloc (.cells #[.bool (isMinus s.data.toList), .bool false, .string (s.extract a m), .string ⟨#[]⟩, .int .i64 ex, .int .u8 4] 35)).drewN n ∧ Hid (ex = expo (seg s.data.toList e s.data.toList.length) (decide (c.toNat = 45))))
      case first =>
        go_region_with (go_at_call 29; refine (HE.out _ _).mono ?_; rintro e1 w1 ⟨rfl, rfl⟩)
        all_goals
          go_wp2_with fail
          go_meet
          case rel => exact ⟨1, _, rfl, by show _ = _; unfold seg; rw [HC.out, HL.out]⟩
      case rest =>
        obtain ⟨n, ex, rfl, HEX⟩ := hcut
        go_wp2_with fail
        exact bodyPost_ret (v := .agg #[.bool (isMinus s.data.toList), .bool false, .string (s.extract a m), .string ⟨#[]⟩, .int .i64 ex, .int .u8 4]) (by simp [results, Trym.results22, go_sem]) rfl ⟨by rw [HX.out, modVal, ba_seg, ← HEX.out]; rfl, belowMd w _ _ _ n⟩
    · have HX : Hid (auto s.data.toList = ⟨isMinus s.data.toList, false, seg s.data.toList a p, seg s.data.toList (p + 1) m, expo (seg s.data.toList e s.data.toList.length) (decide (c.toNat = 45)), 4⟩) := ht
      have hsl := slice_ab s a p hp (by omega)
      have hsl2 := slice_pb s p m (by omega) (by omega)
      clear ht
      go_upto_region 68 with fail
      go_cut [] from 228 to 237 (fun w' => ∃ (n : Nat) (ex : Int), w' = ((((w.alloc (.cells #[.bool false, .bool false, .string ⟨#[]⟩, .string ⟨#[]⟩, .int .i64 0, .int .u8 0] 35)).alloc (.cells #[.bool false, .bool false, .string ⟨#[]⟩, .string ⟨#[]⟩, .int .i64 0, .int .u8 0] 35))).alloc (.cells #[.bool (isMinus s.data.toList), .bool false, .string (s.extract a p), .string (s.extract (p + 1) m), .int .i64 ex, .int .u8 4] 35)).drewN n ∧ Hid (ex = expo (seg s.data.toList e s.data.toList.length) (decide (c.toNat = 45))))
      case first =>
        go_region_with (go_at_call 29; refine (HE.out _ _).mono ?_; rintro e1 w1 ⟨rfl, rfl⟩)
        all_goals
          go_wp2_with fail
          go_meet
          case rel => exact ⟨1, _, rfl, by show _ = _; unfold seg; rw [HC.out, HL.out]⟩
      case rest =>
        obtain ⟨n, ex, rfl, HEX⟩ := hcut
        go_wp2_with fail
        exact bodyPost_ret (v := .agg #[.bool (isMinus s.data.toList), .bool false, .string (s.extract a p), .string (s.extract (p + 1) m), .int .i64 ex, .int .u8 4]) (by simp [results, Trym.results22, go_sem]) rfl ⟨by rw [HX.out, modVal, ba_seg, ba_seg, ← HEX.out], belowMd w _ _ _ n⟩
end Go.Proofs.Qxb6602706aMods.Rd
