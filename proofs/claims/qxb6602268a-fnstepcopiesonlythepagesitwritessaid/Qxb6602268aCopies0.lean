/- FnStepCopiesOnlyThePagesItWrites: the copies of its four slices. -/
import Derived.Test.Qxb6602268aCopies1
namespace Go.Proofs.Qxb6602268a.M
open Go.ChangeShapes Go.WideShapes Go.ChangeAt Go.RowKit
set_option linter.unusedVariables false

set_option maxRecDepth 1000000 in
set_option maxHeartbeats 4000000 in
theorem copy4 (w wD : World) (ps h r1 r2 : Int) (u : Bool) (a a1 a2 a3 a4 : Option Addr) (n c n1 c1 n2 c2 n3 c3 n4 c4 : Nat) (A : Nat → Option Addr) (L C : Nat → Nat) (Z : Nat → Nat → Int) (RK RV WK WV : Nat → Int)
    (G : Hid (Here wD ps a a1 a2 a3 a4 n n1 c1 n2 c2 n3 c3 n4 c4 A L C Z RK RV WK WV)) (hB : Hid (Below w.heap.size w wD)) (v10 v11 v12 v13 v14 v15 v16 v17 v18 v19 v20 v21 v22 v23 v24 v25 v26 v27 v28 v29 v30 v31 v32 v33 v34 v35 v36 v37 v38 v39 v40 v41 v42 v43 v44 v45 v46 v47 v48 v49 v50 v51 v52 v53 v54 v55 v56 v57 v58 v59 v60 v61 v62 v63 v64 v65 v66 v67 v68 v69 v70 v71 v72 v73 v74 v75 v76 v77 v78 v79 v80 v81 v82 v83 v84 v85 v86 v87 v88 v89 v90 v91 v92 v93 v94 v95 v96 v97 v98 v99 v100 v101 v102 v103 v104 v105 v106 v107 v108 v109 v110 v111 v112 v113 v114 v115 v116 v117 v118 v119 v120 v121 v122 v123 v124 v125 v126 v127 v128 v129 v130 v131 v132 v133 v134 v135 v136 v137 v138 v139 v140 v141 v142 v143 v144 v145 v146 v147 v148 v149 v150 v151 v152 v153 v154 v155 v156 v157 v158 v159 v160 v161 v162 v163 v164 v165 v166 v167 v168 v169 v170 v171 v172 v173 v174 v175 v176 v177 v178 v179 v180 v181 v182 v183 v184 v185 v186 v187 v188 v189 v190 v191 v192 v193 v194 v195 v196 v197 v198 v199 v200 v201 v202 v203 v204 v205 v206 v207 v208 v209 v210 v211 v212 v213 v214 v215 v216 v217 v218 v219 v220 v221 v222 v223 v224 v225 v226 v227 v228 v229 v230 v231 v232 v233 v234 v235 v236 v237 v238 v239 v240 v241 : Value) :
    Code.wp Try.prog ((Try.f4.body.bind (restAt 19)).getD .skip) (bodyPost Try.prog Try.f4 (fun e w' => e = .returned (.bool true) ∧ Below w.heap.size w w')) ⟨#[.int .i32 ps, .slice a n c, .int .u64 h, .slice a1 n1 c1, .slice a2 n2 c2, .slice a3 n3 c3, .slice a4 n4 c4, .int .i64 r1, .int .i64 r2, .bool u, v10, v11, v12, v13, v14, v15, v16, v17, v18, v19, v20, v21, v22, v23, v24, v25, v26, v27, v28, v29, v30, v31, v32, v33, v34, v35, v36, v37, v38, v39, v40, v41, v42, v43, v44, v45, v46, v47, v48, v49, v50, v51, v52, v53, v54, v55, v56, v57, v58, v59, v60, v61, v62, v63, v64, v65, v66, v67, v68, v69, v70, v71, v72, v73, v74, v75, v76, v77, v78, v79, v80, v81, v82, v83, v84, v85, v86, v87, v88, v89, v90, v91, v92, v93, v94, v95, v96, v97, v98, v99, v100, v101, v102, v103, v104, v105, v106, v107, v108, v109, v110, v111, v112, v113, v114, v115, v116, v117, v118, v119, v120, v121, v122, v123, v124, v125, v126, v127, v128, v129, v130, v131, v132, v133, v134, v135, v136, v137, v138, v139, v140, v141, v142, v143, v144, v145, v146, v147, v148, v149, v150, v151, v152, v153, v154, v155, v156, v157, v158, v159, v160, v161, v162, v163, v164, v165, v166, v167, v168, v169, v170, v171, v172, v173, v174, v175, v176, v177, v178, v179, v180, v181, v182, v183, v184, v185, v186, v187, v188, v189, v190, v191, v192, v193, v194, v195, v196, v197, v198, v199, v200, v201, v202, v203, v204, v205, v206, v207, v208, v209, v210, v211, v212, v213, v214, v215, v216, v217, v218, v219, v220, v221, v222, v223, v224, v225, v226, v227, v228, v229, v230, v231, v232, v233, v234, v235, v236, v237, v238, v239, v240, v241], []⟩ wD := by
  have hq2 := fun w a n c => run_neq_slice_nil_any (P := Try.prog) w 24 21 a n c 0 0 Try.underlying24
  have g : n4 ≤ 131072 := G.out.dom.h4
  conv => arg 2; whnf
  go_upto_region 19 with fail
  rename_i K1 h1 K0 h0
  have HK : Hid (∀ (a : Act) (w : World), _ → K1 a w) := h1
  clear h1
  cases a4 with
  | none =>
    go_wp2_with fail
    exact HK.out _ _ (tail1 w _ ps h r1 r2 u a a1 a2 a3 none n c n1 c1 n2 c2 n3 c3 n4 c4 A L C Z RK RV WK WV G hB _ _ _ _ _ _ _ _ _ _ _ _ _ _ _ _ _ _ _ _ _ _ _ _ _ _ _ _ _ _ _ _ _ _ _ _ _ _ _ _ _ _ _ _ _ _ _ _ _ _ _ _ _ _ _ _ _ _ _ _ _ _ _ _ _ _ _ _ _ _ _ _ _ _ _ _ _ _ _ _ _ _ _ _ _ _ _ _ _ _ _ _ _ _ _ _ _ _ _ _ _ _ _ _ _ _ _ _ _ _ _ _ _ _ _ _ _ _ _ _ _ _ _ _ _ _ _ _ _ _ _ _ _ _ _ _ _ _ _ _ _ _ _ _ _ _ _ _ _ _ _ _ _ _ _ _ _ _ _ _ _ _ _ _ _ _ _ _ _ _ _ _ _ _ _ _ _ _ _ _ _ _ _ _ _ _ _ _ _ _ _ _ _ _ _ _ _ _ _ _ _ _ _ _ _ _ _ _ _ _ _ _ _ _ _ _ _ _ _ _ _ _ _ _ _ _ _ _ _ _ _ _)
  | some x =>
    have hmk := run_make_row' (P := Try.prog) 24 21 (.int .i32 0) 4 Try.underlying24 info21 rfl .i64 .i64 n4 (by omega) (by omega)
    have hb : Below wD.heap.size wD (wD.alloc (.cells (madeCells #[.int .i32 0] n4) 21)) := (Below.refl _ _).alloc (Nat.le_refl _) _
    obtain ⟨w2, hrun, hI, hB2⟩ := run_copy_ints (c := c4) (World.rowIs_made wD (.int .i32 0) n4 21) (G.out.i4.below hb) hb (Nat.le_refl _)
    have HG : Hid (Here w2 ps a a1 a2 a3 (some ⟨wD.heap.size, 0, none⟩) n n1 c1 n2 c2 n3 c3 n4 n4 A L C Z RK RV WK WV ∧ Below w.heap.size w w2) := by
      have H := G.out.below hB2
      exact ⟨⟨H.hp, H.i1, H.i2, H.i3, hI, H.k1, H.k2, H.k3, Nat.le_refl _, H.hr, H.hw, H.ps2, H.dom⟩, hB.out.trans (hB2.mono hB.out.size)⟩
    clear hI hB2 hb
    go_wp2_with fail
    exact HK.out _ _ (tail1 w _ ps h r1 r2 u a a1 a2 a3 (some ⟨wD.heap.size, 0, none⟩) n c n1 c1 n2 c2 n3 c3 n4 n4 A L C Z RK RV WK WV HG.out.1 HG.out.2 _ _ _ _ _ _ _ _ _ _ _ _ _ _ _ _ _ _ _ _ _ _ _ _ _ _ _ _ _ _ _ _ _ _ _ _ _ _ _ _ _ _ _ _ _ _ _ _ _ _ _ _ _ _ _ _ _ _ _ _ _ _ _ _ _ _ _ _ _ _ _ _ _ _ _ _ _ _ _ _ _ _ _ _ _ _ _ _ _ _ _ _ _ _ _ _ _ _ _ _ _ _ _ _ _ _ _ _ _ _ _ _ _ _ _ _ _ _ _ _ _ _ _ _ _ _ _ _ _ _ _ _ _ _ _ _ _ _ _ _ _ _ _ _ _ _ _ _ _ _ _ _ _ _ _ _ _ _ _ _ _ _ _ _ _ _ _ _ _ _ _ _ _ _ _ _ _ _ _ _ _ _ _ _ _ _ _ _ _ _ _ _ _ _ _ _ _ _ _ _ _ _ _ _ _ _ _ _ _ _ _ _ _ _ _ _ _ _ _ _ _ _ _ _ _ _ _ _ _ _ _ _)

set_option maxRecDepth 1000000 in
set_option maxHeartbeats 4000000 in
theorem copy3 (w wD : World) (ps h r1 r2 : Int) (u : Bool) (a a1 a2 a3 a4 : Option Addr) (n c n1 c1 n2 c2 n3 c3 n4 c4 : Nat) (A : Nat → Option Addr) (L C : Nat → Nat) (Z : Nat → Nat → Int) (RK RV WK WV : Nat → Int)
    (G : Hid (Here wD ps a a1 a2 a3 a4 n n1 c1 n2 c2 n3 c3 n4 c4 A L C Z RK RV WK WV)) (hB : Hid (Below w.heap.size w wD)) (v10 v11 v12 v13 v14 v15 v16 v17 v18 v19 v20 v21 v22 v23 v24 v25 v26 v27 v28 v29 v30 v31 v32 v33 v34 v35 v36 v37 v38 v39 v40 v41 v42 v43 v44 v45 v46 v47 v48 v49 v50 v51 v52 v53 v54 v55 v56 v57 v58 v59 v60 v61 v62 v63 v64 v65 v66 v67 v68 v69 v70 v71 v72 v73 v74 v75 v76 v77 v78 v79 v80 v81 v82 v83 v84 v85 v86 v87 v88 v89 v90 v91 v92 v93 v94 v95 v96 v97 v98 v99 v100 v101 v102 v103 v104 v105 v106 v107 v108 v109 v110 v111 v112 v113 v114 v115 v116 v117 v118 v119 v120 v121 v122 v123 v124 v125 v126 v127 v128 v129 v130 v131 v132 v133 v134 v135 v136 v137 v138 v139 v140 v141 v142 v143 v144 v145 v146 v147 v148 v149 v150 v151 v152 v153 v154 v155 v156 v157 v158 v159 v160 v161 v162 v163 v164 v165 v166 v167 v168 v169 v170 v171 v172 v173 v174 v175 v176 v177 v178 v179 v180 v181 v182 v183 v184 v185 v186 v187 v188 v189 v190 v191 v192 v193 v194 v195 v196 v197 v198 v199 v200 v201 v202 v203 v204 v205 v206 v207 v208 v209 v210 v211 v212 v213 v214 v215 v216 v217 v218 v219 v220 v221 v222 v223 v224 v225 v226 v227 v228 v229 v230 v231 v232 v233 v234 v235 v236 v237 v238 v239 v240 v241 : Value) :
    Code.wp Try.prog ((Try.f4.body.bind (restAt 15)).getD .skip) (bodyPost Try.prog Try.f4 (fun e w' => e = .returned (.bool true) ∧ Below w.heap.size w w')) ⟨#[.int .i32 ps, .slice a n c, .int .u64 h, .slice a1 n1 c1, .slice a2 n2 c2, .slice a3 n3 c3, .slice a4 n4 c4, .int .i64 r1, .int .i64 r2, .bool u, v10, v11, v12, v13, v14, v15, v16, v17, v18, v19, v20, v21, v22, v23, v24, v25, v26, v27, v28, v29, v30, v31, v32, v33, v34, v35, v36, v37, v38, v39, v40, v41, v42, v43, v44, v45, v46, v47, v48, v49, v50, v51, v52, v53, v54, v55, v56, v57, v58, v59, v60, v61, v62, v63, v64, v65, v66, v67, v68, v69, v70, v71, v72, v73, v74, v75, v76, v77, v78, v79, v80, v81, v82, v83, v84, v85, v86, v87, v88, v89, v90, v91, v92, v93, v94, v95, v96, v97, v98, v99, v100, v101, v102, v103, v104, v105, v106, v107, v108, v109, v110, v111, v112, v113, v114, v115, v116, v117, v118, v119, v120, v121, v122, v123, v124, v125, v126, v127, v128, v129, v130, v131, v132, v133, v134, v135, v136, v137, v138, v139, v140, v141, v142, v143, v144, v145, v146, v147, v148, v149, v150, v151, v152, v153, v154, v155, v156, v157, v158, v159, v160, v161, v162, v163, v164, v165, v166, v167, v168, v169, v170, v171, v172, v173, v174, v175, v176, v177, v178, v179, v180, v181, v182, v183, v184, v185, v186, v187, v188, v189, v190, v191, v192, v193, v194, v195, v196, v197, v198, v199, v200, v201, v202, v203, v204, v205, v206, v207, v208, v209, v210, v211, v212, v213, v214, v215, v216, v217, v218, v219, v220, v221, v222, v223, v224, v225, v226, v227, v228, v229, v230, v231, v232, v233, v234, v235, v236, v237, v238, v239, v240, v241], []⟩ wD := by
  have hq2 := fun w a n c => run_neq_slice_nil_any (P := Try.prog) w 24 21 a n c 0 0 Try.underlying24
  have g : n3 ≤ 131072 := G.out.dom.h3
  conv => arg 2; whnf
  go_upto_region 15 with fail
  rename_i K1 h1 K0 h0
  have HK : Hid (∀ (a : Act) (w : World), _ → K1 a w) := h1
  clear h1
  cases a3 with
  | none =>
    go_wp2_with fail
    exact HK.out _ _ (copy4 w _ ps h r1 r2 u a a1 a2 none a4 n c n1 c1 n2 c2 n3 c3 n4 c4 A L C Z RK RV WK WV G hB _ _ _ _ _ _ _ _ _ _ _ _ _ _ _ _ _ _ _ _ _ _ _ _ _ _ _ _ _ _ _ _ _ _ _ _ _ _ _ _ _ _ _ _ _ _ _ _ _ _ _ _ _ _ _ _ _ _ _ _ _ _ _ _ _ _ _ _ _ _ _ _ _ _ _ _ _ _ _ _ _ _ _ _ _ _ _ _ _ _ _ _ _ _ _ _ _ _ _ _ _ _ _ _ _ _ _ _ _ _ _ _ _ _ _ _ _ _ _ _ _ _ _ _ _ _ _ _ _ _ _ _ _ _ _ _ _ _ _ _ _ _ _ _ _ _ _ _ _ _ _ _ _ _ _ _ _ _ _ _ _ _ _ _ _ _ _ _ _ _ _ _ _ _ _ _ _ _ _ _ _ _ _ _ _ _ _ _ _ _ _ _ _ _ _ _ _ _ _ _ _ _ _ _ _ _ _ _ _ _ _ _ _ _ _ _ _ _ _ _ _ _ _ _ _ _ _ _ _ _ _ _)
  | some x =>
    have hmk := run_make_row' (P := Try.prog) 24 21 (.int .i32 0) 4 Try.underlying24 info21 rfl .i64 .i64 n3 (by omega) (by omega)
    have hb : Below wD.heap.size wD (wD.alloc (.cells (madeCells #[.int .i32 0] n3) 21)) := (Below.refl _ _).alloc (Nat.le_refl _) _
    obtain ⟨w2, hrun, hI, hB2⟩ := run_copy_ints (c := c3) (World.rowIs_made wD (.int .i32 0) n3 21) (G.out.i3.below hb) hb (Nat.le_refl _)
    have HG : Hid (Here w2 ps a a1 a2 (some ⟨wD.heap.size, 0, none⟩) a4 n n1 c1 n2 c2 n3 n3 n4 c4 A L C Z RK RV WK WV ∧ Below w.heap.size w w2) := by
      have H := G.out.below hB2
      exact ⟨⟨H.hp, H.i1, H.i2, hI, H.i4, H.k1, H.k2, Nat.le_refl _, H.k4, H.hr, H.hw, H.ps2, H.dom⟩, hB.out.trans (hB2.mono hB.out.size)⟩
    clear hI hB2 hb
    go_wp2_with fail
    exact HK.out _ _ (copy4 w _ ps h r1 r2 u a a1 a2 (some ⟨wD.heap.size, 0, none⟩) a4 n c n1 c1 n2 c2 n3 n3 n4 c4 A L C Z RK RV WK WV HG.out.1 HG.out.2 _ _ _ _ _ _ _ _ _ _ _ _ _ _ _ _ _ _ _ _ _ _ _ _ _ _ _ _ _ _ _ _ _ _ _ _ _ _ _ _ _ _ _ _ _ _ _ _ _ _ _ _ _ _ _ _ _ _ _ _ _ _ _ _ _ _ _ _ _ _ _ _ _ _ _ _ _ _ _ _ _ _ _ _ _ _ _ _ _ _ _ _ _ _ _ _ _ _ _ _ _ _ _ _ _ _ _ _ _ _ _ _ _ _ _ _ _ _ _ _ _ _ _ _ _ _ _ _ _ _ _ _ _ _ _ _ _ _ _ _ _ _ _ _ _ _ _ _ _ _ _ _ _ _ _ _ _ _ _ _ _ _ _ _ _ _ _ _ _ _ _ _ _ _ _ _ _ _ _ _ _ _ _ _ _ _ _ _ _ _ _ _ _ _ _ _ _ _ _ _ _ _ _ _ _ _ _ _ _ _ _ _ _ _ _ _ _ _ _ _ _ _ _ _ _ _ _ _ _ _ _ _)

set_option maxRecDepth 1000000 in
set_option maxHeartbeats 4000000 in
theorem copy2 (w wD : World) (ps h r1 r2 : Int) (u : Bool) (a a1 a2 a3 a4 : Option Addr) (n c n1 c1 n2 c2 n3 c3 n4 c4 : Nat) (A : Nat → Option Addr) (L C : Nat → Nat) (Z : Nat → Nat → Int) (RK RV WK WV : Nat → Int)
    (G : Hid (Here wD ps a a1 a2 a3 a4 n n1 c1 n2 c2 n3 c3 n4 c4 A L C Z RK RV WK WV)) (hB : Hid (Below w.heap.size w wD)) (v10 v11 v12 v13 v14 v15 v16 v17 v18 v19 v20 v21 v22 v23 v24 v25 v26 v27 v28 v29 v30 v31 v32 v33 v34 v35 v36 v37 v38 v39 v40 v41 v42 v43 v44 v45 v46 v47 v48 v49 v50 v51 v52 v53 v54 v55 v56 v57 v58 v59 v60 v61 v62 v63 v64 v65 v66 v67 v68 v69 v70 v71 v72 v73 v74 v75 v76 v77 v78 v79 v80 v81 v82 v83 v84 v85 v86 v87 v88 v89 v90 v91 v92 v93 v94 v95 v96 v97 v98 v99 v100 v101 v102 v103 v104 v105 v106 v107 v108 v109 v110 v111 v112 v113 v114 v115 v116 v117 v118 v119 v120 v121 v122 v123 v124 v125 v126 v127 v128 v129 v130 v131 v132 v133 v134 v135 v136 v137 v138 v139 v140 v141 v142 v143 v144 v145 v146 v147 v148 v149 v150 v151 v152 v153 v154 v155 v156 v157 v158 v159 v160 v161 v162 v163 v164 v165 v166 v167 v168 v169 v170 v171 v172 v173 v174 v175 v176 v177 v178 v179 v180 v181 v182 v183 v184 v185 v186 v187 v188 v189 v190 v191 v192 v193 v194 v195 v196 v197 v198 v199 v200 v201 v202 v203 v204 v205 v206 v207 v208 v209 v210 v211 v212 v213 v214 v215 v216 v217 v218 v219 v220 v221 v222 v223 v224 v225 v226 v227 v228 v229 v230 v231 v232 v233 v234 v235 v236 v237 v238 v239 v240 v241 : Value) :
    Code.wp Try.prog ((Try.f4.body.bind (restAt 11)).getD .skip) (bodyPost Try.prog Try.f4 (fun e w' => e = .returned (.bool true) ∧ Below w.heap.size w w')) ⟨#[.int .i32 ps, .slice a n c, .int .u64 h, .slice a1 n1 c1, .slice a2 n2 c2, .slice a3 n3 c3, .slice a4 n4 c4, .int .i64 r1, .int .i64 r2, .bool u, v10, v11, v12, v13, v14, v15, v16, v17, v18, v19, v20, v21, v22, v23, v24, v25, v26, v27, v28, v29, v30, v31, v32, v33, v34, v35, v36, v37, v38, v39, v40, v41, v42, v43, v44, v45, v46, v47, v48, v49, v50, v51, v52, v53, v54, v55, v56, v57, v58, v59, v60, v61, v62, v63, v64, v65, v66, v67, v68, v69, v70, v71, v72, v73, v74, v75, v76, v77, v78, v79, v80, v81, v82, v83, v84, v85, v86, v87, v88, v89, v90, v91, v92, v93, v94, v95, v96, v97, v98, v99, v100, v101, v102, v103, v104, v105, v106, v107, v108, v109, v110, v111, v112, v113, v114, v115, v116, v117, v118, v119, v120, v121, v122, v123, v124, v125, v126, v127, v128, v129, v130, v131, v132, v133, v134, v135, v136, v137, v138, v139, v140, v141, v142, v143, v144, v145, v146, v147, v148, v149, v150, v151, v152, v153, v154, v155, v156, v157, v158, v159, v160, v161, v162, v163, v164, v165, v166, v167, v168, v169, v170, v171, v172, v173, v174, v175, v176, v177, v178, v179, v180, v181, v182, v183, v184, v185, v186, v187, v188, v189, v190, v191, v192, v193, v194, v195, v196, v197, v198, v199, v200, v201, v202, v203, v204, v205, v206, v207, v208, v209, v210, v211, v212, v213, v214, v215, v216, v217, v218, v219, v220, v221, v222, v223, v224, v225, v226, v227, v228, v229, v230, v231, v232, v233, v234, v235, v236, v237, v238, v239, v240, v241], []⟩ wD := by
  have hq2 := fun w a n c => run_neq_slice_nil_any (P := Try.prog) w 24 21 a n c 0 0 Try.underlying24
  have g : n2 ≤ 131072 := G.out.dom.h2
  conv => arg 2; whnf
  go_upto_region 11 with fail
  rename_i K1 h1 K0 h0
  have HK : Hid (∀ (a : Act) (w : World), _ → K1 a w) := h1
  clear h1
  cases a2 with
  | none =>
    go_wp2_with fail
    exact HK.out _ _ (copy3 w _ ps h r1 r2 u a a1 none a3 a4 n c n1 c1 n2 c2 n3 c3 n4 c4 A L C Z RK RV WK WV G hB _ _ _ _ _ _ _ _ _ _ _ _ _ _ _ _ _ _ _ _ _ _ _ _ _ _ _ _ _ _ _ _ _ _ _ _ _ _ _ _ _ _ _ _ _ _ _ _ _ _ _ _ _ _ _ _ _ _ _ _ _ _ _ _ _ _ _ _ _ _ _ _ _ _ _ _ _ _ _ _ _ _ _ _ _ _ _ _ _ _ _ _ _ _ _ _ _ _ _ _ _ _ _ _ _ _ _ _ _ _ _ _ _ _ _ _ _ _ _ _ _ _ _ _ _ _ _ _ _ _ _ _ _ _ _ _ _ _ _ _ _ _ _ _ _ _ _ _ _ _ _ _ _ _ _ _ _ _ _ _ _ _ _ _ _ _ _ _ _ _ _ _ _ _ _ _ _ _ _ _ _ _ _ _ _ _ _ _ _ _ _ _ _ _ _ _ _ _ _ _ _ _ _ _ _ _ _ _ _ _ _ _ _ _ _ _ _ _ _ _ _ _ _ _ _ _ _ _ _ _ _ _)
  | some x =>
    have hmk := run_make_row' (P := Try.prog) 24 21 (.int .i32 0) 4 Try.underlying24 info21 rfl .i64 .i64 n2 (by omega) (by omega)
    have hb : Below wD.heap.size wD (wD.alloc (.cells (madeCells #[.int .i32 0] n2) 21)) := (Below.refl _ _).alloc (Nat.le_refl _) _
    obtain ⟨w2, hrun, hI, hB2⟩ := run_copy_ints (c := c2) (World.rowIs_made wD (.int .i32 0) n2 21) (G.out.i2.below hb) hb (Nat.le_refl _)
    have HG : Hid (Here w2 ps a a1 (some ⟨wD.heap.size, 0, none⟩) a3 a4 n n1 c1 n2 n2 n3 c3 n4 c4 A L C Z RK RV WK WV ∧ Below w.heap.size w w2) := by
      have H := G.out.below hB2
      exact ⟨⟨H.hp, H.i1, hI, H.i3, H.i4, H.k1, Nat.le_refl _, H.k3, H.k4, H.hr, H.hw, H.ps2, H.dom⟩, hB.out.trans (hB2.mono hB.out.size)⟩
    clear hI hB2 hb
    go_wp2_with fail
    exact HK.out _ _ (copy3 w _ ps h r1 r2 u a a1 (some ⟨wD.heap.size, 0, none⟩) a3 a4 n c n1 c1 n2 n2 n3 c3 n4 c4 A L C Z RK RV WK WV HG.out.1 HG.out.2 _ _ _ _ _ _ _ _ _ _ _ _ _ _ _ _ _ _ _ _ _ _ _ _ _ _ _ _ _ _ _ _ _ _ _ _ _ _ _ _ _ _ _ _ _ _ _ _ _ _ _ _ _ _ _ _ _ _ _ _ _ _ _ _ _ _ _ _ _ _ _ _ _ _ _ _ _ _ _ _ _ _ _ _ _ _ _ _ _ _ _ _ _ _ _ _ _ _ _ _ _ _ _ _ _ _ _ _ _ _ _ _ _ _ _ _ _ _ _ _ _ _ _ _ _ _ _ _ _ _ _ _ _ _ _ _ _ _ _ _ _ _ _ _ _ _ _ _ _ _ _ _ _ _ _ _ _ _ _ _ _ _ _ _ _ _ _ _ _ _ _ _ _ _ _ _ _ _ _ _ _ _ _ _ _ _ _ _ _ _ _ _ _ _ _ _ _ _ _ _ _ _ _ _ _ _ _ _ _ _ _ _ _ _ _ _ _ _ _ _ _ _ _ _ _ _ _ _ _ _ _ _)

set_option maxRecDepth 1000000 in
set_option maxHeartbeats 4000000 in
theorem copy1 (w wD : World) (ps h r1 r2 : Int) (u : Bool) (a a1 a2 a3 a4 : Option Addr) (n c n1 c1 n2 c2 n3 c3 n4 c4 : Nat) (A : Nat → Option Addr) (L C : Nat → Nat) (Z : Nat → Nat → Int) (RK RV WK WV : Nat → Int)
    (G : Hid (Here wD ps a a1 a2 a3 a4 n n1 c1 n2 c2 n3 c3 n4 c4 A L C Z RK RV WK WV)) (hB : Hid (Below w.heap.size w wD)) (v10 v11 v12 v13 v14 v15 v16 v17 v18 v19 v20 v21 v22 v23 v24 v25 v26 v27 v28 v29 v30 v31 v32 v33 v34 v35 v36 v37 v38 v39 v40 v41 v42 v43 v44 v45 v46 v47 v48 v49 v50 v51 v52 v53 v54 v55 v56 v57 v58 v59 v60 v61 v62 v63 v64 v65 v66 v67 v68 v69 v70 v71 v72 v73 v74 v75 v76 v77 v78 v79 v80 v81 v82 v83 v84 v85 v86 v87 v88 v89 v90 v91 v92 v93 v94 v95 v96 v97 v98 v99 v100 v101 v102 v103 v104 v105 v106 v107 v108 v109 v110 v111 v112 v113 v114 v115 v116 v117 v118 v119 v120 v121 v122 v123 v124 v125 v126 v127 v128 v129 v130 v131 v132 v133 v134 v135 v136 v137 v138 v139 v140 v141 v142 v143 v144 v145 v146 v147 v148 v149 v150 v151 v152 v153 v154 v155 v156 v157 v158 v159 v160 v161 v162 v163 v164 v165 v166 v167 v168 v169 v170 v171 v172 v173 v174 v175 v176 v177 v178 v179 v180 v181 v182 v183 v184 v185 v186 v187 v188 v189 v190 v191 v192 v193 v194 v195 v196 v197 v198 v199 v200 v201 v202 v203 v204 v205 v206 v207 v208 v209 v210 v211 v212 v213 v214 v215 v216 v217 v218 v219 v220 v221 v222 v223 v224 v225 v226 v227 v228 v229 v230 v231 v232 v233 v234 v235 v236 v237 v238 v239 v240 v241 : Value) :
    Code.wp Try.prog ((Try.f4.body.bind (restAt 7)).getD .skip) (bodyPost Try.prog Try.f4 (fun e w' => e = .returned (.bool true) ∧ Below w.heap.size w w')) ⟨#[.int .i32 ps, .slice a n c, .int .u64 h, .slice a1 n1 c1, .slice a2 n2 c2, .slice a3 n3 c3, .slice a4 n4 c4, .int .i64 r1, .int .i64 r2, .bool u, v10, v11, v12, v13, v14, v15, v16, v17, v18, v19, v20, v21, v22, v23, v24, v25, v26, v27, v28, v29, v30, v31, v32, v33, v34, v35, v36, v37, v38, v39, v40, v41, v42, v43, v44, v45, v46, v47, v48, v49, v50, v51, v52, v53, v54, v55, v56, v57, v58, v59, v60, v61, v62, v63, v64, v65, v66, v67, v68, v69, v70, v71, v72, v73, v74, v75, v76, v77, v78, v79, v80, v81, v82, v83, v84, v85, v86, v87, v88, v89, v90, v91, v92, v93, v94, v95, v96, v97, v98, v99, v100, v101, v102, v103, v104, v105, v106, v107, v108, v109, v110, v111, v112, v113, v114, v115, v116, v117, v118, v119, v120, v121, v122, v123, v124, v125, v126, v127, v128, v129, v130, v131, v132, v133, v134, v135, v136, v137, v138, v139, v140, v141, v142, v143, v144, v145, v146, v147, v148, v149, v150, v151, v152, v153, v154, v155, v156, v157, v158, v159, v160, v161, v162, v163, v164, v165, v166, v167, v168, v169, v170, v171, v172, v173, v174, v175, v176, v177, v178, v179, v180, v181, v182, v183, v184, v185, v186, v187, v188, v189, v190, v191, v192, v193, v194, v195, v196, v197, v198, v199, v200, v201, v202, v203, v204, v205, v206, v207, v208, v209, v210, v211, v212, v213, v214, v215, v216, v217, v218, v219, v220, v221, v222, v223, v224, v225, v226, v227, v228, v229, v230, v231, v232, v233, v234, v235, v236, v237, v238, v239, v240, v241], []⟩ wD := by
  have hq2 := fun w a n c => run_neq_slice_nil_any (P := Try.prog) w 24 21 a n c 0 0 Try.underlying24
  have g : n1 ≤ 131072 := G.out.dom.h1
  conv => arg 2; whnf
  go_upto_region 7 with fail
  rename_i K1 h1 K0 h0
  have HK : Hid (∀ (a : Act) (w : World), _ → K1 a w) := h1
  clear h1
  cases a1 with
  | none =>
    go_wp2_with fail
    exact HK.out _ _ (copy2 w _ ps h r1 r2 u a none a2 a3 a4 n c n1 c1 n2 c2 n3 c3 n4 c4 A L C Z RK RV WK WV G hB _ _ _ _ _ _ _ _ _ _ _ _ _ _ _ _ _ _ _ _ _ _ _ _ _ _ _ _ _ _ _ _ _ _ _ _ _ _ _ _ _ _ _ _ _ _ _ _ _ _ _ _ _ _ _ _ _ _ _ _ _ _ _ _ _ _ _ _ _ _ _ _ _ _ _ _ _ _ _ _ _ _ _ _ _ _ _ _ _ _ _ _ _ _ _ _ _ _ _ _ _ _ _ _ _ _ _ _ _ _ _ _ _ _ _ _ _ _ _ _ _ _ _ _ _ _ _ _ _ _ _ _ _ _ _ _ _ _ _ _ _ _ _ _ _ _ _ _ _ _ _ _ _ _ _ _ _ _ _ _ _ _ _ _ _ _ _ _ _ _ _ _ _ _ _ _ _ _ _ _ _ _ _ _ _ _ _ _ _ _ _ _ _ _ _ _ _ _ _ _ _ _ _ _ _ _ _ _ _ _ _ _ _ _ _ _ _ _ _ _ _ _ _ _ _ _ _ _ _ _ _ _)
  | some x =>
    have hmk := run_make_row' (P := Try.prog) 24 21 (.int .i32 0) 4 Try.underlying24 info21 rfl .i64 .i64 n1 (by omega) (by omega)
    have hb : Below wD.heap.size wD (wD.alloc (.cells (madeCells #[.int .i32 0] n1) 21)) := (Below.refl _ _).alloc (Nat.le_refl _) _
    obtain ⟨w2, hrun, hI, hB2⟩ := run_copy_ints (c := c1) (World.rowIs_made wD (.int .i32 0) n1 21) (G.out.i1.below hb) hb (Nat.le_refl _)
    have HG : Hid (Here w2 ps a (some ⟨wD.heap.size, 0, none⟩) a2 a3 a4 n n1 n1 n2 c2 n3 c3 n4 c4 A L C Z RK RV WK WV ∧ Below w.heap.size w w2) := by
      have H := G.out.below hB2
      exact ⟨⟨H.hp, hI, H.i2, H.i3, H.i4, Nat.le_refl _, H.k2, H.k3, H.k4, H.hr, H.hw, H.ps2, H.dom⟩, hB.out.trans (hB2.mono hB.out.size)⟩
    clear hI hB2 hb
    go_wp2_with fail
    exact HK.out _ _ (copy2 w _ ps h r1 r2 u a (some ⟨wD.heap.size, 0, none⟩) a2 a3 a4 n c n1 n1 n2 c2 n3 c3 n4 c4 A L C Z RK RV WK WV HG.out.1 HG.out.2 _ _ _ _ _ _ _ _ _ _ _ _ _ _ _ _ _ _ _ _ _ _ _ _ _ _ _ _ _ _ _ _ _ _ _ _ _ _ _ _ _ _ _ _ _ _ _ _ _ _ _ _ _ _ _ _ _ _ _ _ _ _ _ _ _ _ _ _ _ _ _ _ _ _ _ _ _ _ _ _ _ _ _ _ _ _ _ _ _ _ _ _ _ _ _ _ _ _ _ _ _ _ _ _ _ _ _ _ _ _ _ _ _ _ _ _ _ _ _ _ _ _ _ _ _ _ _ _ _ _ _ _ _ _ _ _ _ _ _ _ _ _ _ _ _ _ _ _ _ _ _ _ _ _ _ _ _ _ _ _ _ _ _ _ _ _ _ _ _ _ _ _ _ _ _ _ _ _ _ _ _ _ _ _ _ _ _ _ _ _ _ _ _ _ _ _ _ _ _ _ _ _ _ _ _ _ _ _ _ _ _ _ _ _ _ _ _ _ _ _ _ _ _ _ _ _ _ _ _ _ _ _)

end Go.Proofs.Qxb6602268a.M
