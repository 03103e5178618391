/- The guard on bytes of FnModelAddNumbersAsSpecified: a stretch. -/
import Derived.Test.Qxb6602268aBy3
namespace Go.Proofs.Qxb6602268a.M
open Go.ChangeShapes Go.WideShapes Go.ChangeAt Go.RowKit Go.Maps
set_option linter.unusedVariables false

set_option maxRecDepth 1000000 in
set_option maxHeartbeats 4000000 in
theorem by2 (w : World) (cl ca re : Int) (a0 a1 a2 a3 a4 a5 a6 a7 : Option Addr) (n1 n3 n5 n7 c0 c1 c2 c3 c4 c5 c6 c7 : Nat) (L0 L2 L4 L6 : List ByteArray) (A5 A7 : Nat → Option Addr) (T5 T7 : Nat → ByteArray) (oc : ByteArray) (s0 : Strs w a0 L0) (s2 : Strs w a2 L2) (s4 : Strs w a4 L4) (s6 : Strs w a6 L6) (p5 : Ptrs w a5 n5 A5 T5) (p7 : Ptrs w a7 n7 A7 T7) (t : Nat) (ht : t ≤ 1048576)
    (v12 v13 v14 v15 v16 v17 v18 v19 v20 v21 v22 v23 v24 v26 v27 v28 v29 v30 v31 v32 v33 v34 v35 v36 v37 v38 v39 v40 v41 v42 v43 v44 v45 v46 v47 v48 v49 v50 v51 v52 v53 v54 v55 v56 v57 v58 v59 v60 v61 v62 v63 v64 v65 v66 v67 v68 v69 v70 v71 v72 v73 v74 v75 v76 v77 v78 v79 v80 v81 v82 v83 v84 v85 v86 v87 v88 v89 v90 v91 v92 v93 v94 v95 v96 v97 v98 v99 v100 v101 v102 v103 v104 v105 v106 v107 v108 v109 v110 v111 v112 v113 v114 v115 v116 v117 v118 v119 v120 v121 v122 v123 v124 v125 v126 v127 v128 v129 v130 v131 v132 v133 v134 v135 v136 v137 v138 v139 v140 v141 v142 v143 v144 v145 v146 v147 v148 v149 v150 v151 v152 v153 v154 v155 v156 v157 v158 v159 v160 v161 v162 v163 v164 v165 v166 v167 v168 v169 v170 v171 v172 v173 v174 v175 v176 v177 v178 v179 v180 v181 v182 v183 v184 v185 v186 v187 v188 v189 v190 v191 v192 v193 v194 v195 v196 v197 v198 v199 v200 v201 v202 v203 v204 v205 v206 v207 v208 v209 v210 v211 v212 v213 v214 v215 v216 v217 v218 v219 v220 v221 v222 v223 v224 v225 v226 v227 v228 v229 v230 v231 v232 v233 v234 v235 v236 v237 v238 v239 v240 v241 v242 v243 v244 v245 v246 v247 v248 v249 v250 v251 v252 v253 v254 v255 v256 : Value) :
    Code.wp Try.prog ((Try.f17.body.bind (restAt 15)).getD .skip) (bodyPost Try.prog Try.f17 (fun e w' => RetBool w w' e)) ⟨#[.slice a0 L0.length c0, .slice a1 n1 c1, .slice a2 L2.length c2, .slice a3 n3 c3, .int .i64 cl, .int .i64 ca, .int .i64 re, .slice a4 L4.length c4, .slice a5 n5 c5, .slice a6 L6.length c6, .slice a7 n7 c7, .string oc, v12, v13, v14, v15, v16, v17, v18, v19, v20, v21, v22, v23, v24, .int .i64 (t : Int), v26, v27, v28, v29, v30, v31, v32, v33, v34, v35, v36, v37, v38, v39, v40, v41, v42, v43, v44, v45, v46, v47, v48, v49, v50, v51, v52, v53, v54, v55, v56, v57, v58, v59, v60, v61, v62, v63, v64, v65, v66, v67, v68, v69, v70, v71, v72, v73, v74, v75, v76, v77, v78, v79, v80, v81, v82, v83, v84, v85, v86, v87, v88, v89, v90, v91, v92, v93, v94, v95, v96, v97, v98, v99, v100, v101, v102, v103, v104, v105, v106, v107, v108, v109, v110, v111, v112, v113, v114, v115, v116, v117, v118, v119, v120, v121, v122, v123, v124, v125, v126, v127, v128, v129, v130, v131, v132, v133, v134, v135, v136, v137, v138, v139, v140, v141, v142, v143, v144, v145, v146, v147, v148, v149, v150, v151, v152, v153, v154, v155, v156, v157, v158, v159, v160, v161, v162, v163, v164, v165, v166, v167, v168, v169, v170, v171, v172, v173, v174, v175, v176, v177, v178, v179, v180, v181, v182, v183, v184, v185, v186, v187, v188, v189, v190, v191, v192, v193, v194, v195, v196, v197, v198, v199, v200, v201, v202, v203, v204, v205, v206, v207, v208, v209, v210, v211, v212, v213, v214, v215, v216, v217, v218, v219, v220, v221, v222, v223, v224, v225, v226, v227, v228, v229, v230, v231, v232, v233, v234, v235, v236, v237, v238, v239, v240, v241, v242, v243, v244, v245, v246, v247, v248, v249, v250, v251, v252, v253, v254, v255, v256], []⟩ w := by
  have HS : Hid (Strs w a0 L0 ∧ Strs w a2 L2 ∧ Strs w a4 L4 ∧ Strs w a6 L6 ∧ Ptrs w a5 n5 A5 T5 ∧ Ptrs w a7 n7 A7 T7) := ⟨s0, s2, s4, s6, p5, p7⟩
  clear s0 s2 s4 s6 p5 p7
  conv => arg 2; whnf
  by_cases g1 : n1 ≤ 1048576
  rotate_left
  · have g1' : (n1 : Int) > 1048576 := by omega
    go_wp2_with fail
    go_ret
    exact ⟨_, rfl, rfl⟩
  have g1' : ¬ (n1 : Int) > 1048576 := by omega
  by_cases k1 : t + n1 ≤ 1048576
  rotate_left
  · have k1' : (t : Int) + (n1 : Int) > 1048576 := by omega
    go_wp2_with fail
    go_ret
    exact ⟨_, rfl, rfl⟩
  have k1' : ¬ (t : Int) + (n1 : Int) > 1048576 := by omega
  by_cases g2 : L2.length ≤ 1048576
  rotate_left
  · have g2' : (L2.length : Int) > 1048576 := by omega
    go_wp2_with fail
    go_ret
    exact ⟨_, rfl, rfl⟩
  have g2' : ¬ (L2.length : Int) > 1048576 := by omega
  by_cases k2 : t + n1 + L2.length ≤ 1048576
  rotate_left
  · have k2' : (t : Int) + (n1 : Int) + (L2.length : Int) > 1048576 := by omega
    go_wp2_with fail
    go_ret
    exact ⟨_, rfl, rfl⟩
  have k2' : ¬ (t : Int) + (n1 : Int) + (L2.length : Int) > 1048576 := by omega
  go_upto_region 25 with fail
  rename_i K1 h1 K0 h0
  have HK : Hid (∀ (a : Act) (w : World), _ → K1 a w) := h1
  clear h1
  go_wp2_with fail
  go_loopw [25, 27] (fun tv i wr => ∃ k t : Nat, k ≤ L2.length ∧ t ≤ 1048576 ∧ tv = .int .i64 t ∧ i = .int .i64 k ∧ wr = w) (fun _ i _ => L2.length - (intOf i).toNat)
  case atStart => exact ⟨0, t + n1 + L2.length, Nat.zero_le _, by omega, by simp, rfl, rfl⟩
  case round =>
    obtain ⟨k, t, hk, htt, rfl, rfl, rfl⟩ := hrel
    by_cases hlt : k < L2.length
    · obtain ⟨b, o, rfl, hc⟩ := HS.out.2.1 (by omega)
      have c1 : wr.cell? ⟨b, o + k, none⟩ = some (.string (nth L2 k)) := hc k hlt
      have hkn : (k : Int) < L2.length := by omega
      clear hc
      obtain ⟨s, hs⟩ : ∃ s, s = nth L2 k := ⟨_, rfl⟩
      rw [← hs] at c1
      clear hs
      by_cases h1 : s.size ≤ 1048576
      · have h1' : ¬ (s.size : Int) > 1048576 := by omega
        by_cases h2 : t + s.size ≤ 1048576
        · have h2' : ¬ (t : Int) + s.size > 1048576 := by omega
          go_wp2_with fail
          go_roundw
          case rel => exact ⟨k + 1, t + s.size, by omega, by omega, by go_num, by go_num, by simp⟩
          case measure => simp [intOf]; omega
        · have h2' : (t : Int) + s.size > 1048576 := by omega
          go_wp2_with fail
          go_ret
          exact ⟨_, rfl, rfl⟩
      · have h1' : (s.size : Int) > 1048576 := by omega
        go_wp2_with fail
        go_ret
        exact ⟨_, rfl, rfl⟩
    · obtain rfl : k = L2.length := by omega
      go_wp2_with fail
      exact HK.out _ _ (by3 _ cl ca re a0 a1 a2 a3 a4 a5 a6 a7 n1 n3 n5 n7 c0 c1 c2 c3 c4 c5 c6 c7 L0 L2 L4 L6 A5 A7 T5 T7 oc HS.out.1 HS.out.2.1 HS.out.2.2.1 HS.out.2.2.2.1 HS.out.2.2.2.2.1 HS.out.2.2.2.2.2 t htt _ _ _ _ _ _ _ _ _ _ _ _ _ _ _ _ _ _ _ _ _ _ _ _ _ _ _ _ _ _ _ _ _ _ _ _ _ _ _ _ _ _ _ _ _ _ _ _ _ _ _ _ _ _ _ _ _ _ _ _ _ _ _ _ _ _ _ _ _ _ _ _ _ _ _ _ _ _ _ _ _ _ _ _ _ _ _ _ _ _ _ _ _ _ _ _ _ _ _ _ _ _ _ _ _ _ _ _ _ _ _ _ _ _ _ _ _ _ _ _ _ _ _ _ _ _ _ _ _ _ _ _ _ _ _ _ _ _ _ _ _ _ _ _ _ _ _ _ _ _ _ _ _ _ _ _ _ _ _ _ _ _ _ _ _ _ _ _ _ _ _ _ _ _ _ _ _ _ _ _ _ _ _ _ _ _ _ _ _ _ _ _ _ _ _ _ _ _ _ _ _ _ _ _ _ _ _ _ _ _ _ _ _ _ _ _ _ _ _ _ _ _ _ _ _ _ _ _ _ _ _ _ _ _ _ _ _ _ _ _ _ _ _ _)

end Go.Proofs.Qxb6602268a.M
