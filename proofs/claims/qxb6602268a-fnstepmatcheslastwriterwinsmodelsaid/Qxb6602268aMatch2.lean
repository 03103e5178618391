/- FnStepMatchesLastWriterWinsModel: behind the step. -/
import Derived.Test.Qxb6602268aMatch3
namespace Go.Proofs.Qxb6602268a.M
open Go.ChangeShapes Go.WideShapes Go.ChangeAt Go.RowKit Go.Maps
set_option linter.unusedVariables false

theorem run_makeMap33 (m : Int) (w : World) : (Instr.makeMap 33 (some (.int .i64 m))).run Try.prog w = .ok (.map (some w.heap.size)) (w.alloc (.map #[] 0)) := by
  simp [Instr.makeMap, run_underlying Try.underlying33, asInt, asIntOf, Result.andThen]

set_option maxRecDepth 1000000 in
set_option maxHeartbeats 4000000 in
theorem mtail2 (w w0 wF : World) (ps h r1 r2 : Int) (u : Bool) (a a1 a2 a3 a4 : Option Addr) (n c n1 c1 n2 c2 n3 c3 n4 c4 : Nat) (A : Nat → Option Addr) (L C : Nat → Nat) (Z : Nat → Nat → Int) (RK RV WK WV : Nat → Int) (b a' : Option Addr) (bc c' nr nw : Nat) (h' : Int) (A' : Nat → Option Addr) (C' : Nat → Nat)
    (G : Hid (Here wF ps a a1 a2 a3 a4 n n1 c1 n2 c2 n3 c3 n4 c4 A L C Z RK RV WK WV)) (hB : Hid (Below w.heap.size w wF)) (cp : Hid (Cp w0 b n A' L C' Z)) (hB0 : Hid (Below w0.heap.size w0 wF))
    (ho : Hid (Out w0 wF b n bc nr nw A' L C' Z ps h RK RV WK WV a' c' h')) (hm : Hid (nr = min n1 n2 ∧ nw = min n3 n4)) (hX : Hid ((∀ i, i < n3 → -2147483648 ≤ WK i) ∧ (∀ i, i < n4 → -2147483648 ≤ WV i ∧ WV i ≤ 2147483647) ∧ U h))
    (v10 v11 v12 v13 v14 v15 v16 v17 v18 v19 v20 v21 v22 v23 v24 v31 v32 v33 v34 v35 v36 v37 v38 v39 v40 v41 v42 v43 v44 v45 v46 v47 v48 v49 v50 v51 v52 v53 v54 v55 v56 v57 v58 v59 v60 v61 v62 v63 v64 v65 v66 v67 v68 v69 v70 v71 v72 v73 v74 v75 v76 v77 v78 v79 v80 v81 v82 v83 v84 v85 v86 v87 v88 v89 v90 v91 v92 v93 v94 v95 v96 v97 v98 v99 v100 v101 v102 v103 v104 v105 v106 v107 v108 v109 v110 v111 v112 v113 v114 v115 v116 v117 v118 v119 v120 v121 v122 v123 v124 v125 v126 v127 v128 v129 v130 v131 v132 v133 v134 v135 v136 v137 v138 v139 v140 v141 v142 v143 v144 v145 v146 v147 v148 v149 v150 v151 v152 v153 v154 v155 v156 v157 v158 v159 v160 v161 v162 v163 v164 v165 v166 v167 v168 v169 v170 v171 v172 v173 v174 v175 v176 v177 v178 v179 v180 v181 v182 v183 v184 v185 v186 v187 v188 v189 v190 v191 v192 v193 v194 v195 v196 v197 v198 v199 v200 v201 v202 v203 v204 v205 v206 v207 v208 v209 v210 v211 v212 v213 v214 v215 v216 v217 v218 v219 v220 v221 v222 v223 v224 v225 v226 v227 v228 v229 v230 v231 v232 v233 v234 v235 v236 v237 v238 v239 v240 v241 v242 v243 v244 v245 v246 v247 v248 v249 v250 v251 v252 v253 v254 v255 v256 v257 v258 v259 v260 v261 v262 v263 v264 v265 v266 v267 v268 v269 v270 v271 v272 : Value) :
    Code.wp Try.prog ((Try.f3.body.bind (restAt 27)).getD .skip) (bodyPost Try.prog Try.f3 (fun e w' => e = .returned (.bool true) ∧ Below w.heap.size w w')) ⟨#[.int .i32 ps, .slice a n c, .int .u64 h, .slice a1 n1 c1, .slice a2 n2 c2, .slice a3 n3 c3, .slice a4 n4 c4, .int .i64 r1, .int .i64 r2, .bool u, v10, v11, v12, v13, v14, v15, v16, v17, v18, v19, v20, v21, v22, v23, v24, .int .i64 (nr : Int), .int .i64 (nw : Int), .slice b n bc, .bool (rh Z ps RK RV nr), .slice a' n c', .int .u64 h', v31, v32, v33, v34, v35, v36, v37, v38, v39, v40, v41, v42, v43, v44, v45, v46, v47, v48, v49, v50, v51, v52, v53, v54, v55, v56, v57, v58, v59, v60, v61, v62, v63, v64, v65, v66, v67, v68, v69, v70, v71, v72, v73, v74, v75, v76, v77, v78, v79, v80, v81, v82, v83, v84, v85, v86, v87, v88, v89, v90, v91, v92, v93, v94, v95, v96, v97, v98, v99, v100, v101, v102, v103, v104, v105, v106, v107, v108, v109, v110, v111, v112, v113, v114, v115, v116, v117, v118, v119, v120, v121, v122, v123, v124, v125, v126, v127, v128, v129, v130, v131, v132, v133, v134, v135, v136, v137, v138, v139, v140, v141, v142, v143, v144, v145, v146, v147, v148, v149, v150, v151, v152, v153, v154, v155, v156, v157, v158, v159, v160, v161, v162, v163, v164, v165, v166, v167, v168, v169, v170, v171, v172, v173, v174, v175, v176, v177, v178, v179, v180, v181, v182, v183, v184, v185, v186, v187, v188, v189, v190, v191, v192, v193, v194, v195, v196, v197, v198, v199, v200, v201, v202, v203, v204, v205, v206, v207, v208, v209, v210, v211, v212, v213, v214, v215, v216, v217, v218, v219, v220, v221, v222, v223, v224, v225, v226, v227, v228, v229, v230, v231, v232, v233, v234, v235, v236, v237, v238, v239, v240, v241, v242, v243, v244, v245, v246, v247, v248, v249, v250, v251, v252, v253, v254, v255, v256, v257, v258, v259, v260, v261, v262, v263, v264, v265, v266, v267, v268, v269, v270, v271, v272], []⟩ wF := by
  have hd := G.out.dom
  have hn := hd.hn
  have q1 : nr ≤ n1 := by have := hm.out.1; omega
  have q2 : nr ≤ n2 := by have := hm.out.1; omega
  have q3 : nw ≤ n3 := by have := hm.out.2; omega
  have q4 : nw ≤ n4 := by have := hm.out.2; omega
  have g1 := hd.h1
  have g2 := hd.h2
  have HD : Hid (Dom ps n L n1 n2 n3 n4 RK WK) := hd
  clear hd
  have HR : Hid (∀ nq, Calls Try.prog 12 _ (wF.drewN nq) _) := fun nq => readsHold_any ps a a1 a2 n c n1 c1 n2 c2 nr A L C Z RK RV (wF.drewN nq) (G.out.hp.drewN nq) (G.out.i1.drewN nq) (G.out.i2.drewN nq) hn HD.out.hL g1 g2 q1 q2 HD.out.hps G.out.ps2 (fun i hi => HD.out.hr i (by have := hm.out.1; omega)) (fun i hi => G.out.hr i (by omega))
  have HS : Hid (∀ nq, Calls Try.prog 13 _ (wF.drewN nq) _) := fun nq => same_any b a n bc c A' A L C' C Z (wF.drewN nq) ((cp.out.below hB0.out).pages.drewN nq) (G.out.hp.drewN nq) hn HD.out.hL
  have hmk := run_makeMap33
  have HKN : Hid (∀ j, j < nw → kin n L ps (WK j) = true ∧ WK j ≤ 2147483647) := fun j hj => ⟨HD.out.hw j (by have := hm.out.2; omega), G.out.hw j (by omega)⟩
  have HW : Hid (∀ rv p i, Zf rv Z ps WK WV nw p i = if isKey ps p i then (lf rv WK WV nw (keyAt ps p i)).getD (Z p i) else Z p i) := fun rv p i => want_is HD.out.hps (fun j hj => ⟨((kin_iff _ _ _ _).1 (HKN.out j hj).1).1, (HKN.out j hj).2⟩) p i
  have HHs : Hid (∀ rv, xr (if rv then Hs Z ps WK WV h nw else h) (SH fpI ps L (Zf rv Z ps WK WV nw) n) = xr h (SH fpI ps L Z n)) := fun rv => hash_is HD.out.hps hX.out.2.2 HKN.out
  have hP := out_pages cp.out ho.out hB0.out
  obtain ⟨⟨A2, C2, hQ⟩, eh⟩ := hP
  have HQ : Hid (Pages wF a' n A2 L C2 (Zf (rh Z ps RK RV nr) Z ps WK WV nw)) := hQ
  have EH : Hid (h' = if rh Z ps RK RV nr then Hs Z ps WK WV h nw else h) := eh
  clear hQ eh
  conv => arg 2; whnf
  go_wp2_with fail
  refine (HR.out 0).mono ?_
  rintro e w' ⟨rfl, nq, rfl⟩
  rw [World.drewN_drewN]
  go_wp2_with fail
  refine (HS.out _).mono ?_
  rintro e w' ⟨rfl, nq2, rfl⟩
  rw [World.drewN_drewN]
  go_upto_region 32 with fail
  rename_i K1 h1
  have HK : Hid (∀ (a : Act) (w : World), _ → K1 a w) := h1
  clear h1
  go_wp2_with fail
  refine HK.out _ _ ?_
  have BX : ∀ q, Below wF.heap.size wF ((wF.drewN q).alloc (.map #[] 0)) := fun q => (below_drewN (Below.refl _ _)).alloc (Nat.le_refl _) _
  have RX : ∀ q, MapIs ((wF.drewN q).alloc (.map #[] 0)) wF.heap.size 0 (.map []) (la WK WV nw 0) := fun q => MapIs.made (wF.drewN q) WK WV nw
  clear HK HR HS hmk
  cases hrv : rh Z ps RK RV nr
  · rw [hrv] at HQ EH
    have E2 : Hid (xr h' (SH fpI ps L (Zf false Z ps WK WV nw) n) = xr h (SH fpI ps L Z n)) := by rw [EH.out]; exact HHs.out false
    exact mtail3_no w wF _ ps h r1 r2 u a a1 a2 a3 a4 n c n1 c1 n2 c2 n3 c3 n4 c4 A L C Z RK RV WK WV a' c' wF.heap.size nw h' A2 C2 _ hn HD.out.hL HD.out.hps G.out.ps2 hB (BX _) (Nat.le_refl _) G.out.hp HQ (RX _) (HW.out false) E2 _ _ _ _ _ _ _ _ _ _ _ _ _ _ _ _ _ _ _ _ _ _ _ _ _ _ _ _ _ _ _ _ _ _ _ _ _ _ _ _ _ _ _ _ _ _ _ _ _ _ _ _ _ _ _ _ _ _ _ _ _ _ _ _ _ _ _ _ _ _ _ _ _ _ _ _ _ _ _ _ _ _ _ _ _ _ _ _ _ _ _ _ _ _ _ _ _ _ _ _ _ _ _ _ _ _ _ _ _ _ _ _ _ _ _ _ _ _ _ _ _ _ _ _ _ _ _ _ _ _ _ _ _ _ _ _ _ _ _ _ _ _ _ _ _ _ _ _ _ _ _ _ _ _ _ _ _ _ _ _ _ _ _ _ _ _ _ _ _ _ _ _ _ _ _ _ _ _ _ _ _ _ _ _ _ _ _ _ _ _ _ _ _ _ _ _ _ _ _ _ _ _ _ _ _ _ _ _ _ _ _ _ _ _ _ _ _ _ _ _ _ _ _ _ _ _ _ _ _ _ _ _ _ _ _ _ _ _ _ _ _ _ _ _ _ _ _ _ _ _ _ _ _ _ _ _ _ _
  · rw [hrv] at HQ EH
    have E2 : Hid (xr h' (SH fpI ps L (Zf true Z ps WK WV nw) n) = xr h (SH fpI ps L Z n)) := by rw [EH.out]; exact HHs.out true
    exact mtail3_yes w wF _ ps h r1 r2 u a a1 a2 a3 a4 n c n1 c1 n2 c2 n3 c3 n4 c4 A L C Z RK RV WK WV a' c' wF.heap.size nw h' A2 C2 _ hn HD.out.hL HD.out.hps G.out.ps2 hB (BX _) (Nat.le_refl _) G.out.hp HQ (RX _) (HW.out true) E2 G.out.i3 G.out.i4 q3 q4 HD.out.h3 HD.out.h4 (fun i hi => ⟨hX.out.1 i (by omega), G.out.hw i (by omega)⟩) (fun i hi => hX.out.2.1 i (by omega)) _ _ _ _ _ _ _ _ _ _ _ _ _ _ _ _ _ _ _ _ _ _ _ _ _ _ _ _ _ _ _ _ _ _ _ _ _ _ _ _ _ _ _ _ _ _ _ _ _ _ _ _ _ _ _ _ _ _ _ _ _ _ _ _ _ _ _ _ _ _ _ _ _ _ _ _ _ _ _ _ _ _ _ _ _ _ _ _ _ _ _ _ _ _ _ _ _ _ _ _ _ _ _ _ _ _ _ _ _ _ _ _ _ _ _ _ _ _ _ _ _ _ _ _ _ _ _ _ _ _ _ _ _ _ _ _ _ _ _ _ _ _ _ _ _ _ _ _ _ _ _ _ _ _ _ _ _ _ _ _ _ _ _ _ _ _ _ _ _ _ _ _ _ _ _ _ _ _ _ _ _ _ _ _ _ _ _ _ _ _ _ _ _ _ _ _ _ _ _ _ _ _ _ _ _ _ _ _ _ _ _ _ _ _ _ _ _ _ _ _ _ _ _ _ _ _ _ _ _ _ _ _ _ _ _ _ _ _ _ _ _ _ _ _ _ _ _ _ _ _ _ _ _ _ _ _ _ _

end Go.Proofs.Qxb6602268a.M
