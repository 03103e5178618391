/- FnModelAddNumbersAsSpecified: from the model on, where the transaction is judged. -/
import Derived.Test.Qxb6602268aBefore
namespace Go.Proofs.Qxb6602268a.M
open Go.ChangeShapes Go.WideShapes Go.ChangeAt Go.RowKit Go.Maps
set_option linter.unusedVariables false

set_option maxRecDepth 1000000 in
set_option maxHeartbeats 4000000 in
theorem add1j (w0 w : World) (cl ca re : Int) (a0 a1 a2 a3 a4 a5 a6 a7 : Option Addr) (n1 n3 n5 n7 c0 c1 c2 c3 c4 c5 c6 c7 : Nat) (L0 L2 L4 L6 : List ByteArray) (oc : ByteArray) (kb vb kbb vbb sr sw : Nat) (rm wm : Option Nat) (fr fw : BA → Option Value) (tr tw : BA → Option BA) (st : NS) (aR aW : Option Addr) (cR cW : Nat) (u : Bool) (HB : Hid (Before w0 w a0 a2 aR aW kb vb kbb vbb sr sw (.map rm) (.map wm) fr fw tr tw L0 L2 L4 L6 st)) (ho1 : (oc.toList == [97, 98, 111, 114, 116, 101, 100]) = false) (ho2 : (oc.toList == [117, 110, 107, 110, 111, 119, 110]) = u) (hu : u = true → sw ≠ 0)
    (v12 v13 v14 v15 v16 v17 v18 v19 v20 v21 v22 v23 v24 v33 v34 v35 v36 v37 v38 v39 v40 v41 v42 v43 v44 v45 v46 v47 v48 v49 v50 v51 v52 v53 v54 v55 v56 v57 v58 v59 v60 v61 v62 v63 v64 v65 v66 v67 v68 v69 v70 v71 v72 v73 v74 v75 v76 v77 v78 v79 v80 v81 v82 v83 v84 v85 v86 v87 v88 v89 v90 v91 v92 v93 v94 v95 v96 v97 v98 v99 v100 v101 v102 v103 v104 v105 v106 v107 v108 v109 v110 v111 v112 v113 v114 v115 v116 v117 v118 v119 v120 v121 v122 v123 v124 v125 v126 v127 v128 v129 v130 v131 v132 v133 v134 v135 v136 v137 v138 v139 v140 v141 v142 v143 v144 v145 v146 v147 v148 v149 v150 v151 v152 v153 v154 v155 v156 v157 v158 v159 v160 v161 v162 v163 v164 v165 v166 v167 v168 v169 v170 v171 v172 v173 v174 v175 v176 v177 v178 v179 v180 v181 v182 v183 v184 v185 v186 v187 v188 v189 v190 v191 v192 v193 v194 v195 v196 v197 v198 v199 v200 v201 v202 v203 v204 v205 v206 v207 v208 v209 v210 v211 v212 v213 v214 v215 v216 v217 v218 v219 v220 v221 v222 v223 v224 v225 v226 v227 v228 v229 v230 v231 v232 v233 v234 v235 v236 v237 v238 v239 v240 v241 v242 v243 v244 v245 v246 v247 v248 v249 v250 v251 v252 v253 v254 v255 v256 v257 v258 v259 v260 v261 : Value) :
    Code.wp Try.prog ((Try.f5.body.bind (restAt 15)).getD .skip) (bodyPost Try.prog Try.f5 (fun e w' => e = .returned (.bool true) ∧ Below w0.heap.size w0 w')) ⟨#[.slice a0 L0.length c0, .slice a1 n1 c1, .slice a2 L2.length c2, .slice a3 n3 c3, .int .i64 cl, .int .i64 ca, .int .i64 re, .slice a4 L4.length c4, .slice a5 n5 c5, .slice a6 L6.length c6, .slice a7 n7 c7, .string oc, v12, v13, v14, v15, v16, v17, v18, v19, v20, v21, v22, v23, v24, .map (some kb), .map (some kbb), .map (some vb), .map (some vbb), .map rm, .map wm, .slice aR (dist L4).length cR, .slice aW (dist L6).length cW, v33, v34, v35, v36, v37, v38, v39, v40, v41, v42, v43, v44, v45, v46, v47, v48, v49, v50, v51, v52, v53, v54, v55, v56, v57, v58, v59, v60, v61, v62, v63, v64, v65, v66, v67, v68, v69, v70, v71, v72, v73, v74, v75, v76, v77, v78, v79, v80, v81, v82, v83, v84, v85, v86, v87, v88, v89, v90, v91, v92, v93, v94, v95, v96, v97, v98, v99, v100, v101, v102, v103, v104, v105, v106, v107, v108, v109, v110, v111, v112, v113, v114, v115, v116, v117, v118, v119, v120, v121, v122, v123, v124, v125, v126, v127, v128, v129, v130, v131, v132, v133, v134, v135, v136, v137, v138, v139, v140, v141, v142, v143, v144, v145, v146, v147, v148, v149, v150, v151, v152, v153, v154, v155, v156, v157, v158, v159, v160, v161, v162, v163, v164, v165, v166, v167, v168, v169, v170, v171, v172, v173, v174, v175, v176, v177, v178, v179, v180, v181, v182, v183, v184, v185, v186, v187, v188, v189, v190, v191, v192, v193, v194, v195, v196, v197, v198, v199, v200, v201, v202, v203, v204, v205, v206, v207, v208, v209, v210, v211, v212, v213, v214, v215, v216, v217, v218, v219, v220, v221, v222, v223, v224, v225, v226, v227, v228, v229, v230, v231, v232, v233, v234, v235, v236, v237, v238, v239, v240, v241, v242, v243, v244, v245, v246, v247, v248, v249, v250, v251, v252, v253, v254, v255, v256, v257, v258, v259, v260, v261], []⟩ w := by
  have HO1 := hid ho1
  have HO2 := hid ho2
  clear ho1 ho2
  cases u
  · have H22 := hid (newModel_any w kb vb)
    conv => arg 2; whnf
    go_upto_region 19 with (first | (go_at_call 22; refine H22.out.mono ?_; clear H22; rintro e wN ⟨rfl, hrow, bN⟩; have HN := hid (HB.out.below bN); have HbN := hid bN; have H23 := hid (HN.out.c23 _ cl ca re oc false hrow HO1.out HO2.out (fun e => by cases e)); clear hrow bN) | (go_at_call 23; refine H23.out.mono ?_; clear H23; rintro e w1 ⟨⟨v, rfl⟩, visR, visW, ob, qb, c, ar, aw, cr, cw, hj⟩; have HA := hid (HB.out.judged HbN.out hj).1; have HB1 := hid (HB.out.judged HbN.out hj).2; have H24 := hid (modelKeys_any w1 _ _ hj.m1); have H25 := hid (modelValues_any w1 _ _ hj.m2); clear hj) | (go_at_call 24; refine H24.out.mono ?_; clear H24; rintro e w2 ⟨rfl, rfl⟩) | (go_at_call 25; refine H25.out.mono ?_; clear H25; rintro e w2 ⟨rfl, rfl⟩))
    rename_i K1 h1 K0 h0
    have HK : Hid (∀ (a : Act) (w : World), _ → K1 a w) := h1
    clear h1
    have ho1 := HO1.out
    have ho2 := HO2.out
    have hln := fun ty => HA.out.kw.len ty
    go_wp2_with fail
    exact HK.out _ _ (add2 w0 _ cl ca re a0 a1 a2 a3 a4 a5 a6 a7 n1 n3 n5 n7 c0 c1 c2 c3 c4 c5 c6 c7 L0 L2 L4 L6 oc kb vb kbb vbb w.heap.size sr sw (.map rm) (.map wm) fr fw tr tw st aR aW cR cW visR visW ob qb c ar aw cr cw false HA HB1 HO2.out _ _ _ _ _ _ _ _ _ _ _ _ _ _ _ _ _ _ _ _ _ _ _ _ _ _ _ _ _ _ _ _ _ _ _ _ _ _ _ _ _ _ _ _ _ _ _ _ _ _ _ _ _ _ _ _ _ _ _ _ _ _ _ _ _ _ _ _ _ _ _ _ _ _ _ _ _ _ _ _ _ _ _ _ _ _ _ _ _ _ _ _ _ _ _ _ _ _ _ _ _ _ _ _ _ _ _ _ _ _ _ _ _ _ _ _ _ _ _ _ _ _ _ _ _ _ _ _ _ _ _ _ _ _ _ _ _ _ _ _ _ _ _ _ _ _ _ _ _ _ _ _ _ _ _ _ _ _ _ _ _ _ _ _ _ _ _ _ _ _ _ _ _ _ _ _ _ _ _ _ _ _ _ _ _ _ _ _ _ _ _ _ _ _ _ _ _ _ _ _ _ _ _ _ _ _ _ _ _ _ _ _ _ _ _ _ _ _ _ _ _ _ _ _ _ _ _ _ _ _ _ _ _ _ _ _ _ _ _ _ _)
  · have hsw := hu rfl
    clear hu
    have H22 := hid (newModel_any w kb vb)
    conv => arg 2; whnf
    go_upto_region 19 with (first | (go_at_call 22; refine H22.out.mono ?_; clear H22; rintro e wN ⟨rfl, hrow, bN⟩; have HN := hid (HB.out.below bN); have HbN := hid bN; have H23 := hid (HN.out.c23 _ cl ca re oc true hrow HO1.out HO2.out (fun _ => hsw)); clear hrow bN) | (go_at_call 23; refine H23.out.mono ?_; clear H23; rintro e w1 ⟨⟨v, rfl⟩, visR, visW, ob, qb, c, ar, aw, cr, cw, hj⟩; have HA := hid (HB.out.judged HbN.out hj).1; have HB1 := hid (HB.out.judged HbN.out hj).2; have H24 := hid (modelKeys_any w1 _ _ hj.m1); have H25 := hid (modelValues_any w1 _ _ hj.m2); clear hj) | (go_at_call 24; refine H24.out.mono ?_; clear H24; rintro e w2 ⟨rfl, rfl⟩) | (go_at_call 25; refine H25.out.mono ?_; clear H25; rintro e w2 ⟨rfl, rfl⟩))
    rename_i K1 h1 K0 h0
    have HK : Hid (∀ (a : Act) (w : World), _ → K1 a w) := h1
    clear h1
    have ho1 := HO1.out
    have ho2 := HO2.out
    have hln := fun ty => HA.out.kw.len ty
    go_wp2_with fail
    exact HK.out _ _ (add2 w0 _ cl ca re a0 a1 a2 a3 a4 a5 a6 a7 n1 n3 n5 n7 c0 c1 c2 c3 c4 c5 c6 c7 L0 L2 L4 L6 oc kb vb kbb vbb w.heap.size sr sw (.map rm) (.map wm) fr fw tr tw st aR aW cR cW visR visW ob qb c ar aw cr cw true HA HB1 HO2.out _ _ _ _ _ _ _ _ _ _ _ _ _ _ _ _ _ _ _ _ _ _ _ _ _ _ _ _ _ _ _ _ _ _ _ _ _ _ _ _ _ _ _ _ _ _ _ _ _ _ _ _ _ _ _ _ _ _ _ _ _ _ _ _ _ _ _ _ _ _ _ _ _ _ _ _ _ _ _ _ _ _ _ _ _ _ _ _ _ _ _ _ _ _ _ _ _ _ _ _ _ _ _ _ _ _ _ _ _ _ _ _ _ _ _ _ _ _ _ _ _ _ _ _ _ _ _ _ _ _ _ _ _ _ _ _ _ _ _ _ _ _ _ _ _ _ _ _ _ _ _ _ _ _ _ _ _ _ _ _ _ _ _ _ _ _ _ _ _ _ _ _ _ _ _ _ _ _ _ _ _ _ _ _ _ _ _ _ _ _ _ _ _ _ _ _ _ _ _ _ _ _ _ _ _ _ _ _ _ _ _ _ _ _ _ _ _ _ _ _ _ _ _ _ _ _ _ _ _ _ _ _ _ _ _ _ _ _ _ _ _)

end Go.Proofs.Qxb6602268a.M
