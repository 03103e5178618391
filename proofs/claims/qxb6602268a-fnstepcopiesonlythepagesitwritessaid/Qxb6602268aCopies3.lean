/- FnStepCopiesOnlyThePagesItWrites: from its marks of the pages that are hit on. -/
import Derived.Test.Qxb6602268aCopies4
namespace Go.Proofs.Qxb6602268a.M
open Go.ChangeShapes Go.WideShapes Go.ChangeAt Go.RowKit
set_option linter.unusedVariables false


/-- one mark more -/
theorem mark_step {wr : World} {hb n j : Nat} {ps : Int} {WK : Nat → Int} (h : wr.rowIs hb 4 n (fun p => .bool (hit ps WK j p))) :
    (wr.setCell ⟨hb, (WK j / ps).toNat, none⟩ (.bool true)).rowIs hb 4 n (fun p => .bool (hit ps WK (j + 1) p)) := by
  refine (h.set (WK j / ps).toNat (.bool true)).congr fun p _ => ?_
  by_cases e : p = (WK j / ps).toNat
  · rw [if_pos e, hit, beq_iff_eq.2 e, Bool.or_true]
  · rw [if_neg e, hit, beq_eq_false_iff_ne.2 e, Bool.or_false]

set_option maxRecDepth 1000000 in
set_option maxHeartbeats 4000000 in
theorem tail3_no (w wP wX : World) (ps h r1 r2 : Int) (u : Bool) (a a1 a2 a3 a4 : Option Addr) (n c n1 c1 n2 c2 n3 c3 n4 c4 : Nat) (A : Nat → Option Addr) (L C : Nat → Nat) (Z : Nat → Nat → Int) (RK RV WK WV : Nat → Int) (b a' : Option Addr) (bc c' hb nw : Nat) (A' : Nat → Option Addr) (C' : Nat → Nat)
    (hn : n ≤ 131072) (hL : ∀ r, r < n → L r ≤ 131072) (hB : Hid (Below w.heap.size w wP)) (hPX : Hid (Below wP.heap.size wP wX)) (hhb : wP.heap.size ≤ hb) (hrow : wX.rowIs hb 4 n (fun _ => .bool false))
    (hpg : Hid (0 < n → ∃ (N cb nn : Nat) (F : Nat → Value), a' = some ⟨N, 0, none⟩ ∧ b = some ⟨cb, 0, none⟩ ∧ n ≤ nn ∧ wP.rowIs N 24 nn F ∧ wP.rowIs cb 24 n (fun r => .slice (A' r) (L r) (C' r)) ∧ (false = true → 0 < nw → N ≠ cb) ∧ ∀ p, p < n → PageIs wP (F p) (A' p) (L p) (false && hit ps WK nw p)))
    (v10 v11 v12 v13 v14 v15 v16 v17 v18 v19 v20 v21 v22 v23 v24 v25 v28 v30 v33 v34 v35 v36 v37 v38 v39 v40 v41 v42 v43 v44 v45 v46 v47 v48 v49 v50 v51 v52 v53 v54 v55 v56 v57 v58 v59 v60 v61 v62 v63 v64 v65 v66 v67 v68 v69 v70 v71 v72 v73 v74 v75 v76 v77 v78 v79 v80 v81 v82 v83 v84 v85 v86 v87 v88 v89 v90 v91 v92 v93 v94 v95 v96 v97 v98 v99 v100 v101 v102 v103 v104 v105 v106 v107 v108 v109 v110 v111 v112 v113 v114 v115 v116 v117 v118 v119 v120 v121 v122 v123 v124 v125 v126 v127 v128 v129 v130 v131 v132 v133 v134 v135 v136 v137 v138 v139 v140 v141 v142 v143 v144 v145 v146 v147 v148 v149 v150 v151 v152 v153 v154 v155 v156 v157 v158 v159 v160 v161 v162 v163 v164 v165 v166 v167 v168 v169 v170 v171 v172 v173 v174 v175 v176 v177 v178 v179 v180 v181 v182 v183 v184 v185 v186 v187 v188 v189 v190 v191 v192 v193 v194 v195 v196 v197 v198 v199 v200 v201 v202 v203 v204 v205 v206 v207 v208 v209 v210 v211 v212 v213 v214 v215 v216 v217 v218 v219 v220 v221 v222 v223 v224 v225 v226 v227 v228 v229 v230 v231 v232 v233 v234 v235 v236 v237 v238 v239 v240 v241 : Value) :
    Code.wp Try.prog ((Try.f4.body.bind (restAt 33)).getD .skip) (bodyPost Try.prog Try.f4 (fun e w' => e = .returned (.bool true) ∧ Below w.heap.size w w')) ⟨#[.int .i32 ps, .slice a n c, .int .u64 h, .slice a1 n1 c1, .slice a2 n2 c2, .slice a3 n3 c3, .slice a4 n4 c4, .int .i64 r1, .int .i64 r2, .bool u, v10, v11, v12, v13, v14, v15, v16, v17, v18, v19, v20, v21, v22, v23, v24, v25, .int .i64 (nw : Int), .slice b n bc, v28, .slice a' n c', v30, .bool false, .slice (some ⟨hb, 0, none⟩) n n, v33, v34, v35, v36, v37, v38, v39, v40, v41, v42, v43, v44, v45, v46, v47, v48, v49, v50, v51, v52, v53, v54, v55, v56, v57, v58, v59, v60, v61, v62, v63, v64, v65, v66, v67, v68, v69, v70, v71, v72, v73, v74, v75, v76, v77, v78, v79, v80, v81, v82, v83, v84, v85, v86, v87, v88, v89, v90, v91, v92, v93, v94, v95, v96, v97, v98, v99, v100, v101, v102, v103, v104, v105, v106, v107, v108, v109, v110, v111, v112, v113, v114, v115, v116, v117, v118, v119, v120, v121, v122, v123, v124, v125, v126, v127, v128, v129, v130, v131, v132, v133, v134, v135, v136, v137, v138, v139, v140, v141, v142, v143, v144, v145, v146, v147, v148, v149, v150, v151, v152, v153, v154, v155, v156, v157, v158, v159, v160, v161, v162, v163, v164, v165, v166, v167, v168, v169, v170, v171, v172, v173, v174, v175, v176, v177, v178, v179, v180, v181, v182, v183, v184, v185, v186, v187, v188, v189, v190, v191, v192, v193, v194, v195, v196, v197, v198, v199, v200, v201, v202, v203, v204, v205, v206, v207, v208, v209, v210, v211, v212, v213, v214, v215, v216, v217, v218, v219, v220, v221, v222, v223, v224, v225, v226, v227, v228, v229, v230, v231, v232, v233, v234, v235, v236, v237, v238, v239, v240, v241], []⟩ wX := by
  conv => arg 2; whnf
  go_upto_region 38 with fail
  rename_i K1 h1 K0 h0
  have HK : Hid (∀ (a : Act) (w : World), _ → K1 a w) := h1
  clear h1
  go_quiet (fail)
  go_wp2_with fail
  refine HK.out _ _ (tail4 w _ ps h r1 r2 u a a1 a2 a3 a4 n c n1 c1 n2 c2 n3 c3 n4 c4 A L C Z RK RV WK WV b a' bc c' hb A' C' (fun _ => false) hn hL (below_drewN (hB.out.trans (hPX.out.mono hB.out.size))) hrow ?_ _ _ _ _ _ _ _ _ _ _ _ _ _ _ _ _ _ _ _ _ _ _ _ _ _ _ _ _ _ _ _ _ _ _ _ _ _ _ _ _ _ _ _ _ _ _ _ _ _ _ _ _ _ _ _ _ _ _ _ _ _ _ _ _ _ _ _ _ _ _ _ _ _ _ _ _ _ _ _ _ _ _ _ _ _ _ _ _ _ _ _ _ _ _ _ _ _ _ _ _ _ _ _ _ _ _ _ _ _ _ _ _ _ _ _ _ _ _ _ _ _ _ _ _ _ _ _ _ _ _ _ _ _ _ _ _ _ _ _ _ _ _ _ _ _ _ _ _ _ _ _ _ _ _ _ _ _ _ _ _ _ _ _ _ _ _ _ _ _ _ _ _ _ _ _ _ _ _ _ _ _ _ _ _ _ _ _ _ _ _ _ _ _ _ _ _ _ _ _ _ _ _ _ _ _ _ _ _ _ _ _ _ _ _ _ _ _ _ _ _ _ _ _ _ _ _ _ _ _)
  intro h0
  obtain ⟨N, cb, nn, F, e1, e2, e3, q1, q2, _, q3⟩ := hpg.out h0
  exact ⟨N, cb, nn, F, e1, e2, e3, rowIs_drewN (rowIs_below q1 hPX.out q1.lt), rowIs_drewN (rowIs_below q2 hPX.out q2.lt), fun p hp => (q3 p hp).below (below_drewN hPX.out)⟩

set_option maxRecDepth 1000000 in
set_option maxHeartbeats 4000000 in
theorem tail3_yes (w wP wX : World) (ps h r1 r2 : Int) (u : Bool) (a a1 a2 a3 a4 : Option Addr) (n c n1 c1 n2 c2 n3 c3 n4 c4 : Nat) (A : Nat → Option Addr) (L C : Nat → Nat) (Z : Nat → Nat → Int) (RK RV WK WV : Nat → Int) (b a' : Option Addr) (bc c' hb nw : Nat) (A' : Nat → Option Addr) (C' : Nat → Nat)
    (hn : n ≤ 131072) (hL : ∀ r, r < n → L r ≤ 131072) (hB : Hid (Below w.heap.size w wP)) (hPX : Hid (Below wP.heap.size wP wX)) (hhb : wP.heap.size ≤ hb) (hrow : wX.rowIs hb 4 n (fun _ => .bool false))
    (hpg : Hid (0 < n → ∃ (N cb nn : Nat) (F : Nat → Value), a' = some ⟨N, 0, none⟩ ∧ b = some ⟨cb, 0, none⟩ ∧ n ≤ nn ∧ wP.rowIs N 24 nn F ∧ wP.rowIs cb 24 n (fun r => .slice (A' r) (L r) (C' r)) ∧ (true = true → 0 < nw → N ≠ cb) ∧ ∀ p, p < n → PageIs wP (F p) (A' p) (L p) (true && hit ps WK nw p)))
    (i3 : Ints wP a3 n3 WK) (hw3 : nw ≤ n3) (h3 : n3 ≤ 131072) (hps : 1 ≤ ps) (hps2 : ps ≤ 2147483647) (wk : ∀ i, i < nw → kin n L ps (WK i) = true) (wk2 : ∀ i, i < nw → WK i ≤ 2147483647)
    (v10 v11 v12 v13 v14 v15 v16 v17 v18 v19 v20 v21 v22 v23 v24 v25 v28 v30 v33 v34 v35 v36 v37 v38 v39 v40 v41 v42 v43 v44 v45 v46 v47 v48 v49 v50 v51 v52 v53 v54 v55 v56 v57 v58 v59 v60 v61 v62 v63 v64 v65 v66 v67 v68 v69 v70 v71 v72 v73 v74 v75 v76 v77 v78 v79 v80 v81 v82 v83 v84 v85 v86 v87 v88 v89 v90 v91 v92 v93 v94 v95 v96 v97 v98 v99 v100 v101 v102 v103 v104 v105 v106 v107 v108 v109 v110 v111 v112 v113 v114 v115 v116 v117 v118 v119 v120 v121 v122 v123 v124 v125 v126 v127 v128 v129 v130 v131 v132 v133 v134 v135 v136 v137 v138 v139 v140 v141 v142 v143 v144 v145 v146 v147 v148 v149 v150 v151 v152 v153 v154 v155 v156 v157 v158 v159 v160 v161 v162 v163 v164 v165 v166 v167 v168 v169 v170 v171 v172 v173 v174 v175 v176 v177 v178 v179 v180 v181 v182 v183 v184 v185 v186 v187 v188 v189 v190 v191 v192 v193 v194 v195 v196 v197 v198 v199 v200 v201 v202 v203 v204 v205 v206 v207 v208 v209 v210 v211 v212 v213 v214 v215 v216 v217 v218 v219 v220 v221 v222 v223 v224 v225 v226 v227 v228 v229 v230 v231 v232 v233 v234 v235 v236 v237 v238 v239 v240 v241 : Value) :
    Code.wp Try.prog ((Try.f4.body.bind (restAt 33)).getD .skip) (bodyPost Try.prog Try.f4 (fun e w' => e = .returned (.bool true) ∧ Below w.heap.size w w')) ⟨#[.int .i32 ps, .slice a n c, .int .u64 h, .slice a1 n1 c1, .slice a2 n2 c2, .slice a3 n3 c3, .slice a4 n4 c4, .int .i64 r1, .int .i64 r2, .bool u, v10, v11, v12, v13, v14, v15, v16, v17, v18, v19, v20, v21, v22, v23, v24, v25, .int .i64 (nw : Int), .slice b n bc, v28, .slice a' n c', v30, .bool true, .slice (some ⟨hb, 0, none⟩) n n, v33, v34, v35, v36, v37, v38, v39, v40, v41, v42, v43, v44, v45, v46, v47, v48, v49, v50, v51, v52, v53, v54, v55, v56, v57, v58, v59, v60, v61, v62, v63, v64, v65, v66, v67, v68, v69, v70, v71, v72, v73, v74, v75, v76, v77, v78, v79, v80, v81, v82, v83, v84, v85, v86, v87, v88, v89, v90, v91, v92, v93, v94, v95, v96, v97, v98, v99, v100, v101, v102, v103, v104, v105, v106, v107, v108, v109, v110, v111, v112, v113, v114, v115, v116, v117, v118, v119, v120, v121, v122, v123, v124, v125, v126, v127, v128, v129, v130, v131, v132, v133, v134, v135, v136, v137, v138, v139, v140, v141, v142, v143, v144, v145, v146, v147, v148, v149, v150, v151, v152, v153, v154, v155, v156, v157, v158, v159, v160, v161, v162, v163, v164, v165, v166, v167, v168, v169, v170, v171, v172, v173, v174, v175, v176, v177, v178, v179, v180, v181, v182, v183, v184, v185, v186, v187, v188, v189, v190, v191, v192, v193, v194, v195, v196, v197, v198, v199, v200, v201, v202, v203, v204, v205, v206, v207, v208, v209, v210, v211, v212, v213, v214, v215, v216, v217, v218, v219, v220, v221, v222, v223, v224, v225, v226, v227, v228, v229, v230, v231, v232, v233, v234, v235, v236, v237, v238, v239, v240, v241], []⟩ wX := by
  conv => arg 2; whnf
  go_wp2_with fail
  go_loopw [33] (fun i wr => ∃ (j : Nat), j ≤ nw ∧ i = .int .i64 j ∧ wr.rowIs hb 4 n (fun p => .bool (hit ps WK j p)) ∧ Below wP.heap.size wP wr) (fun i _ => nw - (intOf i).toNat)
  case atStart => exact ⟨0, Nat.zero_le _, rfl, hrow.congr fun p _ => rfl, hPX.out⟩
  case round =>
    clear hrow hPX
    obtain ⟨j, hj, rfl, hr, hbl⟩ := hrel
    by_cases hlt : j < nw
    · obtain ⟨q0, q1, q2⟩ := (kin_iff _ _ _ _).1 (wk j hlt)
      have q3 := wk2 j hlt
      obtain ⟨d0, d1⟩ := div_bd (WK j) ps hps q0
      have d2 : WK j / ps < n := by omega
      obtain ⟨b3, o3, rfl, hc3⟩ := i3 (by omega)
      have c3 : wr.cell? ⟨b3, o3 + j, none⟩ = _ := (hbl.cell (lt_of_cell (hc3 j (by omega)))).trans (hc3 j (by omega))
      have c4 := hr.cell (i := (WK j / ps).toNat) q1
      have f4 := hr.frozen (WK j / ps).toNat
      have HM : Hid ((wr.setCell ⟨hb, (WK j / ps).toNat, none⟩ (.bool true)).rowIs hb 4 n (fun p => .bool (hit ps WK (j + 1) p))) := mark_step hr
      have HBL : Hid (Below wP.heap.size wP (wr.setCell ⟨hb, (WK j / ps).toNat, none⟩ (.bool true))) := hbl.setCell (by exact hhb) _
      have j3 : (j : Int) < n3 := by omega
      clear hc3 i3 wk wk2 hr hL
      go_wp2_with fail
      go_roundw
      case rel => exact ⟨j + 1, by omega, by go_num, HM.out, HBL.out⟩
      case measure => simp [intOf]; omega
    · obtain rfl : j = nw := by omega
      clear hlt wk2 i3
      by_cases hw0 : 0 < j
      · have wk0 := (kin_iff _ _ _ _).1 (wk 0 hw0)
        have hn0 : 0 < n := by omega
        have hn1 : (0 : Int) < (n : Int) := by omega
        have hw1 : (0 : Int) < (j : Int) := by omega
        obtain ⟨N, cb, nn, F, ea, eb, e3, q1, q2, q4, q3⟩ := hpg.out hn0
        rw [ea, eb]
        have hpg' := hpg
        rw [ea, eb] at hpg'
        have heq : ∀ nq, (binOp .eql 38 (.pointer (some ⟨N, 0, none⟩)) (.pointer (some ⟨cb, 0, none⟩))).run Try.prog (wr.drewN nq) = .ok (.bool false) (wr.drewN nq) := fun nq => eql38_other (q4 (by simp) hw0) (rowIs_drewN (rowIs_below q1 hbl q1.lt)) (rowIs_drewN (rowIs_below q2 hbl q2.lt))
        clear wk wk0 q1 q2 q3 q4 hn0 hpg ea eb
        go_upto_region 38 with fail
        rename_i K1 h1 K0 h0
        have HK : Hid (∀ (a : Act) (w : World), _ → K1 a w) := h1
        clear h1
        go_quiet (fail)
        go_wp2_with fail
        refine HK.out _ _ (tail4 w _ ps h r1 r2 u a a1 a2 a3 a4 n c n1 c1 n2 c2 n3 c3 n4 c4 A L C Z RK RV WK WV (some ⟨cb, 0, none⟩) (some ⟨N, 0, none⟩) bc c' hb A' C' (fun p => true && hit ps WK j p) hn hL (below_drewN (hB.out.trans (hbl.mono hB.out.size))) (rowIs_drewN (hr.congr fun p _ => by simp)) ?_ _ _ _ _ _ _ _ _ _ _ _ _ _ _ _ _ _ _ _ _ _ _ _ _ _ _ _ _ _ _ _ _ _ _ _ _ _ _ _ _ _ _ _ _ _ _ _ _ _ _ _ _ _ _ _ _ _ _ _ _ _ _ _ _ _ _ _ _ _ _ _ _ _ _ _ _ _ _ _ _ _ _ _ _ _ _ _ _ _ _ _ _ _ _ _ _ _ _ _ _ _ _ _ _ _ _ _ _ _ _ _ _ _ _ _ _ _ _ _ _ _ _ _ _ _ _ _ _ _ _ _ _ _ _ _ _ _ _ _ _ _ _ _ _ _ _ _ _ _ _ _ _ _ _ _ _ _ _ _ _ _ _ _ _ _ _ _ _ _ _ _ _ _ _ _ _ _ _ _ _ _ _ _ _ _ _ _ _ _ _ _ _ _ _ _ _ _ _ _ _ _ _ _ _ _ _ _ _ _ _ _ _ _ _ _ _ _ _ _ _ _ _ _ _ _ _ _ _ _)
        intro h0
        obtain ⟨N, cb, nn, F, e1, e2, e3, q1, q2, _, q3⟩ := hpg'.out h0
        exact ⟨N, cb, nn, F, e1, e2, e3, rowIs_drewN (rowIs_below q1 hbl q1.lt), rowIs_drewN (rowIs_below q2 hbl q2.lt), fun p hp => (q3 p hp).below (below_drewN hbl)⟩
      · have hj0 : j = 0 := by omega
        subst hj0
        clear wk hw0
        go_upto_region 38 with fail
        rename_i K1 h1 K0 h0
        have HK : Hid (∀ (a : Act) (w : World), _ → K1 a w) := h1
        clear h1
        go_quiet (fail)
        go_wp2_with fail
        refine HK.out _ _ (tail4 w _ ps h r1 r2 u a a1 a2 a3 a4 n c n1 c1 n2 c2 n3 c3 n4 c4 A L C Z RK RV WK WV b a' bc c' hb A' C' (fun p => true && hit ps WK 0 p) hn hL (below_drewN (hB.out.trans (hbl.mono hB.out.size))) (rowIs_drewN (hr.congr fun p _ => by simp)) ?_ _ _ _ _ _ _ _ _ _ _ _ _ _ _ _ _ _ _ _ _ _ _ _ _ _ _ _ _ _ _ _ _ _ _ _ _ _ _ _ _ _ _ _ _ _ _ _ _ _ _ _ _ _ _ _ _ _ _ _ _ _ _ _ _ _ _ _ _ _ _ _ _ _ _ _ _ _ _ _ _ _ _ _ _ _ _ _ _ _ _ _ _ _ _ _ _ _ _ _ _ _ _ _ _ _ _ _ _ _ _ _ _ _ _ _ _ _ _ _ _ _ _ _ _ _ _ _ _ _ _ _ _ _ _ _ _ _ _ _ _ _ _ _ _ _ _ _ _ _ _ _ _ _ _ _ _ _ _ _ _ _ _ _ _ _ _ _ _ _ _ _ _ _ _ _ _ _ _ _ _ _ _ _ _ _ _ _ _ _ _ _ _ _ _ _ _ _ _ _ _ _ _ _ _ _ _ _ _ _ _ _ _ _ _ _ _ _ _ _ _ _ _ _ _ _ _ _ _ _)
        intro h0
        obtain ⟨N, cb, nn, F, e1, e2, e3, q1, q2, _, q3⟩ := hpg.out h0
        exact ⟨N, cb, nn, F, e1, e2, e3, rowIs_drewN (rowIs_below q1 hbl q1.lt), rowIs_drewN (rowIs_below q2 hbl q2.lt), fun p hp => (q3 p hp).below (below_drewN hbl)⟩

end Go.Proofs.Qxb6602268a.M
