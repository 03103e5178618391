/- FnStepCopiesOnlyThePagesItWrites: behind the step. -/
import Derived.Test.Qxb6602268aCopies3
namespace Go.Proofs.Qxb6602268a.M
open Go.ChangeShapes Go.WideShapes Go.ChangeAt Go.RowKit
set_option linter.unusedVariables false

set_option maxRecDepth 1000000 in
set_option maxHeartbeats 4000000 in
theorem tail2 (w w0 wF : World) (ps h r1 r2 : Int) (u : Bool) (a a1 a2 a3 a4 : Option Addr) (n c n1 c1 n2 c2 n3 c3 n4 c4 : Nat) (A : Nat → Option Addr) (L C : Nat → Nat) (Z : Nat → Nat → Int) (RK RV WK WV : Nat → Int) (b a' : Option Addr) (bc c' nr nw : Nat) (h' : Int) (A' : Nat → Option Addr) (C' : Nat → Nat)
    (G : Hid (Here wF ps a a1 a2 a3 a4 n n1 c1 n2 c2 n3 c3 n4 c4 A L C Z RK RV WK WV)) (hB : Hid (Below w.heap.size w wF)) (cp : Hid (Cp w0 b n A' L C' Z)) (hB0 : Hid (Below w0.heap.size w0 wF))
    (ho : Hid (Out w0 wF b n bc nr nw A' L C' Z ps h RK RV WK WV a' c' h')) (hm : Hid (nr = min n1 n2 ∧ nw = min n3 n4))
    (v10 v11 v12 v13 v14 v15 v16 v17 v18 v19 v20 v21 v22 v23 v24 v31 v32 v33 v34 v35 v36 v37 v38 v39 v40 v41 v42 v43 v44 v45 v46 v47 v48 v49 v50 v51 v52 v53 v54 v55 v56 v57 v58 v59 v60 v61 v62 v63 v64 v65 v66 v67 v68 v69 v70 v71 v72 v73 v74 v75 v76 v77 v78 v79 v80 v81 v82 v83 v84 v85 v86 v87 v88 v89 v90 v91 v92 v93 v94 v95 v96 v97 v98 v99 v100 v101 v102 v103 v104 v105 v106 v107 v108 v109 v110 v111 v112 v113 v114 v115 v116 v117 v118 v119 v120 v121 v122 v123 v124 v125 v126 v127 v128 v129 v130 v131 v132 v133 v134 v135 v136 v137 v138 v139 v140 v141 v142 v143 v144 v145 v146 v147 v148 v149 v150 v151 v152 v153 v154 v155 v156 v157 v158 v159 v160 v161 v162 v163 v164 v165 v166 v167 v168 v169 v170 v171 v172 v173 v174 v175 v176 v177 v178 v179 v180 v181 v182 v183 v184 v185 v186 v187 v188 v189 v190 v191 v192 v193 v194 v195 v196 v197 v198 v199 v200 v201 v202 v203 v204 v205 v206 v207 v208 v209 v210 v211 v212 v213 v214 v215 v216 v217 v218 v219 v220 v221 v222 v223 v224 v225 v226 v227 v228 v229 v230 v231 v232 v233 v234 v235 v236 v237 v238 v239 v240 v241 : Value) :
    Code.wp Try.prog ((Try.f4.body.bind (restAt 27)).getD .skip) (bodyPost Try.prog Try.f4 (fun e w' => e = .returned (.bool true) ∧ Below w.heap.size w w')) ⟨#[.int .i32 ps, .slice a n c, .int .u64 h, .slice a1 n1 c1, .slice a2 n2 c2, .slice a3 n3 c3, .slice a4 n4 c4, .int .i64 r1, .int .i64 r2, .bool u, v10, v11, v12, v13, v14, v15, v16, v17, v18, v19, v20, v21, v22, v23, v24, .int .i64 (nr : Int), .int .i64 (nw : Int), .slice b n bc, .bool (rh Z ps RK RV nr), .slice a' n c', .int .u64 h', v31, v32, v33, v34, v35, v36, v37, v38, v39, v40, v41, v42, v43, v44, v45, v46, v47, v48, v49, v50, v51, v52, v53, v54, v55, v56, v57, v58, v59, v60, v61, v62, v63, v64, v65, v66, v67, v68, v69, v70, v71, v72, v73, v74, v75, v76, v77, v78, v79, v80, v81, v82, v83, v84, v85, v86, v87, v88, v89, v90, v91, v92, v93, v94, v95, v96, v97, v98, v99, v100, v101, v102, v103, v104, v105, v106, v107, v108, v109, v110, v111, v112, v113, v114, v115, v116, v117, v118, v119, v120, v121, v122, v123, v124, v125, v126, v127, v128, v129, v130, v131, v132, v133, v134, v135, v136, v137, v138, v139, v140, v141, v142, v143, v144, v145, v146, v147, v148, v149, v150, v151, v152, v153, v154, v155, v156, v157, v158, v159, v160, v161, v162, v163, v164, v165, v166, v167, v168, v169, v170, v171, v172, v173, v174, v175, v176, v177, v178, v179, v180, v181, v182, v183, v184, v185, v186, v187, v188, v189, v190, v191, v192, v193, v194, v195, v196, v197, v198, v199, v200, v201, v202, v203, v204, v205, v206, v207, v208, v209, v210, v211, v212, v213, v214, v215, v216, v217, v218, v219, v220, v221, v222, v223, v224, v225, v226, v227, v228, v229, v230, v231, v232, v233, v234, v235, v236, v237, v238, v239, v240, v241], []⟩ wF := by
  have hd := G.out.dom
  have hn := hd.hn
  have q1 : nr ≤ n1 := by have := hm.out.1; omega
  have q2 : nr ≤ n2 := by have := hm.out.1; omega
  have q3 : nw ≤ n3 := by have := hm.out.2; omega
  have g1 := hd.h1
  have g2 := hd.h2
  have HD : Hid (Dom ps n L n1 n2 n3 n4 RK WK) := hd
  clear hd
  have HR : Hid (∀ nq, Calls Try.prog 12 _ (wF.drewN nq) _) := fun nq => readsHold_any ps a a1 a2 n c n1 c1 n2 c2 nr A L C Z RK RV (wF.drewN nq) (G.out.hp.drewN nq) (G.out.i1.drewN nq) (G.out.i2.drewN nq) hn HD.out.hL g1 g2 q1 q2 HD.out.hps G.out.ps2 (fun i hi => HD.out.hr i (by have := hm.out.1; omega)) (fun i hi => G.out.hr i (by omega))
  have HS : Hid (∀ nq, Calls Try.prog 13 _ (wF.drewN nq) _) := fun nq => same_any b a n bc c A' A L C' C Z (wF.drewN nq) ((cp.out.below hB0.out).pages.drewN nq) (G.out.hp.drewN nq) hn HD.out.hL
  have hmk := run_make_row' (P := Try.prog) 37 4 (.bool false) 1 Try.underlying37 info4 rfl .i64 .i64 n (by omega) (by omega)
  have HPG : Hid (0 < n → ∃ (N cb nn : Nat) (F : Nat → Value), a' = some ⟨N, 0, none⟩ ∧ b = some ⟨cb, 0, none⟩ ∧ n ≤ nn ∧ wF.rowIs N 24 nn F ∧ wF.rowIs cb 24 n (fun r => .slice (A' r) (L r) (C' r)) ∧ (rh Z ps RK RV nr = true → 0 < nw → N ≠ cb) ∧ ∀ p, p < n → PageIs wF (F p) (A' p) (L p) (rh Z ps RK RV nr && hit ps WK nw p)) := fun h0 => pages_beside cp.out ho.out hB0.out h0
  conv => arg 2; whnf
  go_wp2_with fail
  refine (HR.out 0).mono ?_
  rintro e w' ⟨rfl, nq, rfl⟩
  rw [World.drewN_drewN]
  go_wp2_with fail
  refine (HS.out _).mono ?_
  rintro e w' ⟨rfl, nq2, rfl⟩
  rw [World.drewN_drewN]
  go_upto_region 32 with fail
  rename_i K1 h1
  have HK : Hid (∀ (a : Act) (w : World), _ → K1 a w) := h1
  clear h1
  go_wp2_with fail
  refine HK.out _ _ ?_
  have BX : ∀ q, Below wF.heap.size wF ((wF.drewN q).alloc (.cells (madeCells #[.bool false] n) 4)) := fun q => (below_drewN (Below.refl _ _)).alloc (Nat.le_refl _) _
  have RX : ∀ q, ((wF.drewN q).alloc (.cells (madeCells #[.bool false] n) 4)).rowIs wF.heap.size 4 n (fun _ => .bool false) := fun q => World.rowIs_made (wF.drewN q) (.bool false) n 4
  clear HK HR HS hmk
  cases hrv : rh Z ps RK RV nr
  · rw [hrv] at HPG
    exact tail3_no w wF _ ps h r1 r2 u a a1 a2 a3 a4 n c n1 c1 n2 c2 n3 c3 n4 c4 A L C Z RK RV WK WV b a' bc c' wF.heap.size nw A' C' hn HD.out.hL hB (BX _) (Nat.le_refl _) (RX _) HPG _ _ _ _ _ _ _ _ _ _ _ _ _ _ _ _ _ _ _ _ _ _ _ _ _ _ _ _ _ _ _ _ _ _ _ _ _ _ _ _ _ _ _ _ _ _ _ _ _ _ _ _ _ _ _ _ _ _ _ _ _ _ _ _ _ _ _ _ _ _ _ _ _ _ _ _ _ _ _ _ _ _ _ _ _ _ _ _ _ _ _ _ _ _ _ _ _ _ _ _ _ _ _ _ _ _ _ _ _ _ _ _ _ _ _ _ _ _ _ _ _ _ _ _ _ _ _ _ _ _ _ _ _ _ _ _ _ _ _ _ _ _ _ _ _ _ _ _ _ _ _ _ _ _ _ _ _ _ _ _ _ _ _ _ _ _ _ _ _ _ _ _ _ _ _ _ _ _ _ _ _ _ _ _ _ _ _ _ _ _ _ _ _ _ _ _ _ _ _ _ _ _ _ _ _ _ _ _ _ _ _ _ _ _ _ _ _ _ _ _ _ _ _ _ _ _ _
  · rw [hrv] at HPG
    exact tail3_yes w wF _ ps h r1 r2 u a a1 a2 a3 a4 n c n1 c1 n2 c2 n3 c3 n4 c4 A L C Z RK RV WK WV b a' bc c' wF.heap.size nw A' C' hn HD.out.hL hB (BX _) (Nat.le_refl _) (RX _) HPG G.out.i3 q3 HD.out.h3 HD.out.hps G.out.ps2 (fun i hi => HD.out.hw i (by have := hm.out.2; omega)) (fun i hi => G.out.hw i (by omega)) _ _ _ _ _ _ _ _ _ _ _ _ _ _ _ _ _ _ _ _ _ _ _ _ _ _ _ _ _ _ _ _ _ _ _ _ _ _ _ _ _ _ _ _ _ _ _ _ _ _ _ _ _ _ _ _ _ _ _ _ _ _ _ _ _ _ _ _ _ _ _ _ _ _ _ _ _ _ _ _ _ _ _ _ _ _ _ _ _ _ _ _ _ _ _ _ _ _ _ _ _ _ _ _ _ _ _ _ _ _ _ _ _ _ _ _ _ _ _ _ _ _ _ _ _ _ _ _ _ _ _ _ _ _ _ _ _ _ _ _ _ _ _ _ _ _ _ _ _ _ _ _ _ _ _ _ _ _ _ _ _ _ _ _ _ _ _ _ _ _ _ _ _ _ _ _ _ _ _ _ _ _ _ _ _ _ _ _ _ _ _ _ _ _ _ _ _ _ _ _ _ _ _ _ _ _ _ _ _ _ _ _ _ _ _ _ _ _ _ _ _ _ _ _ _ _ _

end Go.Proofs.Qxb6602268a.M
