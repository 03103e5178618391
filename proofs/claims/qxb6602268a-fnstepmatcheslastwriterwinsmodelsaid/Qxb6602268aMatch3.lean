/- FnStepMatchesLastWriterWinsModel: from the table of the last writers on. -/
import Derived.Test.Qxb6602268aMatch4
namespace Go.Proofs.Qxb6602268a.M
open Go.ChangeShapes Go.WideShapes Go.ChangeAt Go.RowKit Go.Maps
set_option linter.unusedVariables false

set_option maxRecDepth 1000000 in
set_option maxHeartbeats 4000000 in
theorem mtail3_no (w wP wX : World) (ps h r1 r2 : Int) (u : Bool) (a a1 a2 a3 a4 : Option Addr) (n c n1 c1 n2 c2 n3 c3 n4 c4 : Nat) (A : Nat → Option Addr) (L C : Nat → Nat) (Z : Nat → Nat → Int) (RK RV WK WV : Nat → Int) (a' : Option Addr) (c' mb nw : Nat) (h' : Int) (A2 : Nat → Option Addr) (C2 : Nat → Nat) (Z2 : Nat → Nat → Int)
    (hn : n ≤ 131072) (hL : ∀ r, r < n → L r ≤ 131072) (h1 : 1 ≤ ps) (h2 : ps ≤ 2147483647) (hB : Hid (Below w.heap.size w wP)) (hPX : Hid (Below wP.heap.size wP wX)) (hmb : wP.heap.size ≤ mb)
    (hp : Hid (Pages wP a n A L C Z)) (hq : Hid (Pages wP a' n A2 L C2 Z2)) (hm : MapIs wX mb 0 (.map []) (la WK WV nw 0))
    (hz : Hid (∀ p i, Z2 p i = if isKey ps p i then (lf false WK WV nw (keyAt ps p i)).getD (Z p i) else Z p i)) (hh : Hid (xr h' (SH fpI ps L Z2 n) = xr h (SH fpI ps L Z n)))
    (v10 v11 v12 v13 v14 v15 v16 v17 v18 v19 v20 v21 v22 v23 v24 v25 v27 v28 v33 v34 v35 v36 v37 v38 v39 v40 v41 v42 v43 v44 v45 v46 v47 v48 v49 v50 v51 v52 v53 v54 v55 v56 v57 v58 v59 v60 v61 v62 v63 v64 v65 v66 v67 v68 v69 v70 v71 v72 v73 v74 v75 v76 v77 v78 v79 v80 v81 v82 v83 v84 v85 v86 v87 v88 v89 v90 v91 v92 v93 v94 v95 v96 v97 v98 v99 v100 v101 v102 v103 v104 v105 v106 v107 v108 v109 v110 v111 v112 v113 v114 v115 v116 v117 v118 v119 v120 v121 v122 v123 v124 v125 v126 v127 v128 v129 v130 v131 v132 v133 v134 v135 v136 v137 v138 v139 v140 v141 v142 v143 v144 v145 v146 v147 v148 v149 v150 v151 v152 v153 v154 v155 v156 v157 v158 v159 v160 v161 v162 v163 v164 v165 v166 v167 v168 v169 v170 v171 v172 v173 v174 v175 v176 v177 v178 v179 v180 v181 v182 v183 v184 v185 v186 v187 v188 v189 v190 v191 v192 v193 v194 v195 v196 v197 v198 v199 v200 v201 v202 v203 v204 v205 v206 v207 v208 v209 v210 v211 v212 v213 v214 v215 v216 v217 v218 v219 v220 v221 v222 v223 v224 v225 v226 v227 v228 v229 v230 v231 v232 v233 v234 v235 v236 v237 v238 v239 v240 v241 v242 v243 v244 v245 v246 v247 v248 v249 v250 v251 v252 v253 v254 v255 v256 v257 v258 v259 v260 v261 v262 v263 v264 v265 v266 v267 v268 v269 v270 v271 v272 : Value) :
    Code.wp Try.prog ((Try.f3.body.bind (restAt 33)).getD .skip) (bodyPost Try.prog Try.f3 (fun e w' => e = .returned (.bool true) ∧ Below w.heap.size w w')) ⟨#[.int .i32 ps, .slice a n c, .int .u64 h, .slice a1 n1 c1, .slice a2 n2 c2, .slice a3 n3 c3, .slice a4 n4 c4, .int .i64 r1, .int .i64 r2, .bool u, v10, v11, v12, v13, v14, v15, v16, v17, v18, v19, v20, v21, v22, v23, v24, v25, .int .i64 (nw : Int), v27, v28, .slice a' n c', .int .u64 h', .bool false, .map (some mb), v33, v34, v35, v36, v37, v38, v39, v40, v41, v42, v43, v44, v45, v46, v47, v48, v49, v50, v51, v52, v53, v54, v55, v56, v57, v58, v59, v60, v61, v62, v63, v64, v65, v66, v67, v68, v69, v70, v71, v72, v73, v74, v75, v76, v77, v78, v79, v80, v81, v82, v83, v84, v85, v86, v87, v88, v89, v90, v91, v92, v93, v94, v95, v96, v97, v98, v99, v100, v101, v102, v103, v104, v105, v106, v107, v108, v109, v110, v111, v112, v113, v114, v115, v116, v117, v118, v119, v120, v121, v122, v123, v124, v125, v126, v127, v128, v129, v130, v131, v132, v133, v134, v135, v136, v137, v138, v139, v140, v141, v142, v143, v144, v145, v146, v147, v148, v149, v150, v151, v152, v153, v154, v155, v156, v157, v158, v159, v160, v161, v162, v163, v164, v165, v166, v167, v168, v169, v170, v171, v172, v173, v174, v175, v176, v177, v178, v179, v180, v181, v182, v183, v184, v185, v186, v187, v188, v189, v190, v191, v192, v193, v194, v195, v196, v197, v198, v199, v200, v201, v202, v203, v204, v205, v206, v207, v208, v209, v210, v211, v212, v213, v214, v215, v216, v217, v218, v219, v220, v221, v222, v223, v224, v225, v226, v227, v228, v229, v230, v231, v232, v233, v234, v235, v236, v237, v238, v239, v240, v241, v242, v243, v244, v245, v246, v247, v248, v249, v250, v251, v252, v253, v254, v255, v256, v257, v258, v259, v260, v261, v262, v263, v264, v265, v266, v267, v268, v269, v270, v271, v272], []⟩ wX := by
  conv => arg 2; whnf
  go_upto_region 33 with fail
  rename_i K1 h1' K0 h0'
  have HK : Hid (∀ (a : Act) (w : World), _ → K1 a w) := h1'
  clear h1'
  go_wp2_with fail
  exact HK.out _ _ (mtail4 w _ ps h r1 r2 u a a1 a2 a3 a4 n c n1 c1 n2 c2 n3 c3 n4 c4 A L C Z RK RV WK WV a' c' mb 0 h' A2 C2 Z2 (.map []) (lf false WK WV nw) hn hL h1 h2 (hB.out.trans ((hPX.out).mono hB.out.size)) (hp.out.below (hPX.out)) (hq.out.below (hPX.out)) (hm.congr fun k => rfl) hz hh _ _ _ _ _ _ _ _ _ _ _ _ _ _ _ _ _ _ _ _ _ _ _ _ _ _ _ _ _ _ _ _ _ _ _ _ _ _ _ _ _ _ _ _ _ _ _ _ _ _ _ _ _ _ _ _ _ _ _ _ _ _ _ _ _ _ _ _ _ _ _ _ _ _ _ _ _ _ _ _ _ _ _ _ _ _ _ _ _ _ _ _ _ _ _ _ _ _ _ _ _ _ _ _ _ _ _ _ _ _ _ _ _ _ _ _ _ _ _ _ _ _ _ _ _ _ _ _ _ _ _ _ _ _ _ _ _ _ _ _ _ _ _ _ _ _ _ _ _ _ _ _ _ _ _ _ _ _ _ _ _ _ _ _ _ _ _ _ _ _ _ _ _ _ _ _ _ _ _ _ _ _ _ _ _ _ _ _ _ _ _ _ _ _ _ _ _ _ _ _ _ _ _ _ _ _ _ _ _ _ _ _ _ _ _ _ _ _ _ _ _ _ _ _ _ _ _ _ _ _ _ _ _ _ _ _ _ _ _ _ _ _ _ _ _ _ _ _ _ _ _ _ _ _ _ _ _ _ _ _)

set_option maxRecDepth 1000000 in
set_option maxHeartbeats 4000000 in
theorem mtail3_yes (w wP wX : World) (ps h r1 r2 : Int) (u : Bool) (a a1 a2 a3 a4 : Option Addr) (n c n1 c1 n2 c2 n3 c3 n4 c4 : Nat) (A : Nat → Option Addr) (L C : Nat → Nat) (Z : Nat → Nat → Int) (RK RV WK WV : Nat → Int) (a' : Option Addr) (c' mb nw : Nat) (h' : Int) (A2 : Nat → Option Addr) (C2 : Nat → Nat) (Z2 : Nat → Nat → Int)
    (hn : n ≤ 131072) (hL : ∀ r, r < n → L r ≤ 131072) (h1 : 1 ≤ ps) (h2 : ps ≤ 2147483647) (hB : Hid (Below w.heap.size w wP)) (hPX : Hid (Below wP.heap.size wP wX)) (hmb : wP.heap.size ≤ mb)
    (hp : Hid (Pages wP a n A L C Z)) (hq : Hid (Pages wP a' n A2 L C2 Z2)) (hm : MapIs wX mb 0 (.map []) (la WK WV nw 0))
    (hz : Hid (∀ p i, Z2 p i = if isKey ps p i then (lf true WK WV nw (keyAt ps p i)).getD (Z p i) else Z p i)) (hh : Hid (xr h' (SH fpI ps L Z2 n) = xr h (SH fpI ps L Z n)))
    (i3 : Ints wP a3 n3 WK) (i4 : Ints wP a4 n4 WV) (hw3 : nw ≤ n3) (hw4 : nw ≤ n4) (h3 : n3 ≤ 131072) (h4 : n4 ≤ 131072) (wk : ∀ i, i < nw → -2147483648 ≤ WK i ∧ WK i ≤ 2147483647) (wv : ∀ i, i < nw → -2147483648 ≤ WV i ∧ WV i ≤ 2147483647)
    (v10 v11 v12 v13 v14 v15 v16 v17 v18 v19 v20 v21 v22 v23 v24 v25 v27 v28 v33 v34 v35 v36 v37 v38 v39 v40 v41 v42 v43 v44 v45 v46 v47 v48 v49 v50 v51 v52 v53 v54 v55 v56 v57 v58 v59 v60 v61 v62 v63 v64 v65 v66 v67 v68 v69 v70 v71 v72 v73 v74 v75 v76 v77 v78 v79 v80 v81 v82 v83 v84 v85 v86 v87 v88 v89 v90 v91 v92 v93 v94 v95 v96 v97 v98 v99 v100 v101 v102 v103 v104 v105 v106 v107 v108 v109 v110 v111 v112 v113 v114 v115 v116 v117 v118 v119 v120 v121 v122 v123 v124 v125 v126 v127 v128 v129 v130 v131 v132 v133 v134 v135 v136 v137 v138 v139 v140 v141 v142 v143 v144 v145 v146 v147 v148 v149 v150 v151 v152 v153 v154 v155 v156 v157 v158 v159 v160 v161 v162 v163 v164 v165 v166 v167 v168 v169 v170 v171 v172 v173 v174 v175 v176 v177 v178 v179 v180 v181 v182 v183 v184 v185 v186 v187 v188 v189 v190 v191 v192 v193 v194 v195 v196 v197 v198 v199 v200 v201 v202 v203 v204 v205 v206 v207 v208 v209 v210 v211 v212 v213 v214 v215 v216 v217 v218 v219 v220 v221 v222 v223 v224 v225 v226 v227 v228 v229 v230 v231 v232 v233 v234 v235 v236 v237 v238 v239 v240 v241 v242 v243 v244 v245 v246 v247 v248 v249 v250 v251 v252 v253 v254 v255 v256 v257 v258 v259 v260 v261 v262 v263 v264 v265 v266 v267 v268 v269 v270 v271 v272 : Value) :
    Code.wp Try.prog ((Try.f3.body.bind (restAt 33)).getD .skip) (bodyPost Try.prog Try.f3 (fun e w' => e = .returned (.bool true) ∧ Below w.heap.size w w')) ⟨#[.int .i32 ps, .slice a n c, .int .u64 h, .slice a1 n1 c1, .slice a2 n2 c2, .slice a3 n3 c3, .slice a4 n4 c4, .int .i64 r1, .int .i64 r2, .bool u, v10, v11, v12, v13, v14, v15, v16, v17, v18, v19, v20, v21, v22, v23, v24, v25, .int .i64 (nw : Int), v27, v28, .slice a' n c', .int .u64 h', .bool true, .map (some mb), v33, v34, v35, v36, v37, v38, v39, v40, v41, v42, v43, v44, v45, v46, v47, v48, v49, v50, v51, v52, v53, v54, v55, v56, v57, v58, v59, v60, v61, v62, v63, v64, v65, v66, v67, v68, v69, v70, v71, v72, v73, v74, v75, v76, v77, v78, v79, v80, v81, v82, v83, v84, v85, v86, v87, v88, v89, v90, v91, v92, v93, v94, v95, v96, v97, v98, v99, v100, v101, v102, v103, v104, v105, v106, v107, v108, v109, v110, v111, v112, v113, v114, v115, v116, v117, v118, v119, v120, v121, v122, v123, v124, v125, v126, v127, v128, v129, v130, v131, v132, v133, v134, v135, v136, v137, v138, v139, v140, v141, v142, v143, v144, v145, v146, v147, v148, v149, v150, v151, v152, v153, v154, v155, v156, v157, v158, v159, v160, v161, v162, v163, v164, v165, v166, v167, v168, v169, v170, v171, v172, v173, v174, v175, v176, v177, v178, v179, v180, v181, v182, v183, v184, v185, v186, v187, v188, v189, v190, v191, v192, v193, v194, v195, v196, v197, v198, v199, v200, v201, v202, v203, v204, v205, v206, v207, v208, v209, v210, v211, v212, v213, v214, v215, v216, v217, v218, v219, v220, v221, v222, v223, v224, v225, v226, v227, v228, v229, v230, v231, v232, v233, v234, v235, v236, v237, v238, v239, v240, v241, v242, v243, v244, v245, v246, v247, v248, v249, v250, v251, v252, v253, v254, v255, v256, v257, v258, v259, v260, v261, v262, v263, v264, v265, v266, v267, v268, v269, v270, v271, v272], []⟩ wX := by
  conv => arg 2; whnf
  go_upto_region 33 with fail
  rename_i K1 h1' K0 h0'
  have HK : Hid (∀ (a : Act) (w : World), _ → K1 a w) := h1'
  clear h1'
  go_wp2_with fail
  go_loopw [33] (fun i wr => ∃ (c nn : Nat) (D : DataW Unit), c ≤ nw ∧ nn ≤ c ∧ i = .int .i64 ((nw : Int) - c - 1) ∧ MapIs wr mb nn D (la WK WV nw c) ∧ Below wP.heap.size wP wr) (fun i _ => (intOf i + 1).toNat)
  case atStart => exact ⟨0, 0, _, Nat.zero_le _, Nat.le_refl _, by go_num, hm, hPX.out⟩
  case round =>
    obtain ⟨cc, nn, D, hcc, hnn, rfl, hM, hbl⟩ := hrel
    clear hm hPX
    by_cases hlt : cc < nw
    · obtain ⟨j, hj⟩ : ∃ j, nw - (cc + 1) = j := ⟨_, rfl⟩
      have hjn : j < nw := by omega
      have ej : (nw : Int) - cc - 1 = (j : Int) := by omega
      rw [ej]
      obtain ⟨b3, o3, rfl, hc3⟩ := i3 (by omega)
      obtain ⟨b4, o4, rfl, hc4⟩ := i4 (by omega)
      have c3 : wr.cell? ⟨b3, o3 + j, none⟩ = _ := (hbl.cell (lt_of_cell (hc3 j (by omega)))).trans (hc3 j (by omega))
      have c4 : wr.cell? ⟨b4, o4 + j, none⟩ = _ := (hbl.cell (lt_of_cell (hc4 j (by omega)))).trans (hc4 j (by omega))
      have hwf : (Lit.int .i32 (WK j)).wf = true := WalkArith.wf_i32 (by have := wk j hjn; omega)
      have hwf2 : (Lit.int .i32 (WV j)).wf = true := WalkArith.wf_i32 (by have := wv j hjn; omega)
      have hhas := hM.has _ hwf
      have HO := hM.own
      have HM : Hid (MapIs wr mb nn D (la WK WV nw cc)) := hM
      have EJ : Hid ((nw : Int) - cc - 1 = (j : Int) ∧ nw - (cc + 1) = j) := ⟨ej, hj⟩
      have j3 : (j : Int) < n3 := by omega
      have j4 : (j : Int) < n4 := by omega
      clear hc3 hc4 i3 i4 wk wv hM hL ej hj
      cases ht : la WK WV nw cc (WK j) with
      | some v =>
        rw [ht] at hhas
        simp only [Option.isSome_some] at hhas
        have HS : Hid (MapIs wr mb nn D (la WK WV nw (cc + 1))) := HM.out.seen (v := v) (by rw [EJ.out.2]; exact ht)
        clear ht
        go_wp2_with (at_lookup; refine wpList_lookup_own_ok_int _ rfl _ _ 33 rfl 21 21 .i32 law21 Try.underlying33 Try.underlying21 (zero21 _) mb nn D rfl HO _ _ rfl (keyOf_int_mk Try.underlying21 hwf) ?_; intro c0 hat hwc; clear hat hwc)
        go_roundw
        case rel => exact ⟨cc + 1, nn, D, by omega, by omega, by have := EJ.out; go_num, HS.out, hbl⟩
        case measure => simp [intOf]
      | none =>
        rw [ht] at hhas
        simp only [Option.isSome_none] at hhas
        have HT : Hid (la WK WV nw cc (WK j) = none) := ht
        clear ht
        go_wp2_with (at_lookup; refine wpList_lookup_own_ok_int _ rfl _ _ 33 rfl 21 21 .i32 law21 Try.underlying33 Try.underlying21 (zero21 _) mb nn D rfl HO _ _ rfl (keyOf_int_mk Try.underlying21 hwf) ?_; intro c0 hat hwc; clear hat hwc)
        refine region_tail 9 (by kernel_rfl) (by kernel_rfl) ?_
        simp only [List.take_succ_cons, List.take_zero, List.drop_succ_cons, List.drop_zero]
        repeat still_step
        refine wpStill_nil ?_
        go_wp2_with (at_mapUpdate; refine wpList_mapUpdate_own _ rfl _ _ _ 33 rfl 21 21 law21 Try.underlying33 _ mb nn D rfl (show World.ownsMap wr.drew _ _ _ _ _ _ from HO) (by unfold maxLen; omega) _ _ _ rfl rfl (keyOf_int_mk Try.underlying21 hwf) _ [] (plainElem_int Try.underlying21 hwf2) ?_; intro w1 hown1 hgrow1)
        have HP := HM.out.put (c := cc) (w' := w1) (by rw [EJ.out.2]; exact HT.out) (by rw [EJ.out.2]; exact hwf) (by rw [EJ.out.2]; exact hown1)
        go_roundw
        case rel => exact ⟨cc + 1, nn + 1, _, by omega, by omega, by have := EJ.out; go_num, HP, hbl.drew.grown hgrow1 hbl.size (fun k hk => by cases hk; exact hmb)⟩
        case measure => simp [intOf]
    · obtain rfl : cc = nw := by omega
      go_wp2_with fail
      exact HK.out _ _ (mtail4 w _ ps h r1 r2 u a a1 a2 a3 a4 n c n1 c1 n2 c2 n3 c3 n4 c4 A L C Z RK RV WK WV a' c' mb nn h' A2 C2 Z2 D (lf true WK WV cc) hn hL h1 h2 (hB.out.trans ((hbl).mono hB.out.size)) (hp.out.below (hbl)) (hq.out.below (hbl)) (hM.congr fun k => rfl) hz hh _ _ _ _ _ _ _ _ _ _ _ _ _ _ _ _ _ _ _ _ _ _ _ _ _ _ _ _ _ _ _ _ _ _ _ _ _ _ _ _ _ _ _ _ _ _ _ _ _ _ _ _ _ _ _ _ _ _ _ _ _ _ _ _ _ _ _ _ _ _ _ _ _ _ _ _ _ _ _ _ _ _ _ _ _ _ _ _ _ _ _ _ _ _ _ _ _ _ _ _ _ _ _ _ _ _ _ _ _ _ _ _ _ _ _ _ _ _ _ _ _ _ _ _ _ _ _ _ _ _ _ _ _ _ _ _ _ _ _ _ _ _ _ _ _ _ _ _ _ _ _ _ _ _ _ _ _ _ _ _ _ _ _ _ _ _ _ _ _ _ _ _ _ _ _ _ _ _ _ _ _ _ _ _ _ _ _ _ _ _ _ _ _ _ _ _ _ _ _ _ _ _ _ _ _ _ _ _ _ _ _ _ _ _ _ _ _ _ _ _ _ _ _ _ _ _ _ _ _ _ _ _ _ _ _ _ _ _ _ _ _ _ _ _ _ _ _ _ _ _ _ _ _ _ _ _ _ _ _ _)

end Go.Proofs.Qxb6602268a.M
