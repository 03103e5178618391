/- The end of FnStepCopiesOnlyThePagesItWrites: its last loop. -/
import Derived.Test.Qxb6602268aLawKit
namespace Go.Proofs.Qxb6602268a.M
open Go.ChangeShapes Go.WideShapes Go.ChangeAt Go.RowKit
set_option linter.unusedVariables false

set_option maxRecDepth 1000000 in
set_option maxHeartbeats 4000000 in
theorem tail4 (w wX : World) (ps h r1 r2 : Int) (u : Bool) (a a1 a2 a3 a4 : Option Addr) (n c n1 c1 n2 c2 n3 c3 n4 c4 : Nat) (A : Nat → Option Addr) (L C : Nat → Nat) (Z : Nat → Nat → Int) (RK RV WK WV : Nat → Int) (b a' : Option Addr) (bc c' hb : Nat) (A' : Nat → Option Addr) (C' : Nat → Nat) (hv : Nat → Bool)
    (hn : n ≤ 131072) (hL : ∀ r, r < n → L r ≤ 131072) (hB : Hid (Below w.heap.size w wX)) (hrow : wX.rowIs hb 4 n (fun p => .bool (hv p)))
    (hpg : 0 < n → ∃ (N cb nn : Nat) (F : Nat → Value), a' = some ⟨N, 0, none⟩ ∧ b = some ⟨cb, 0, none⟩ ∧ n ≤ nn ∧ wX.rowIs N 24 nn F ∧ wX.rowIs cb 24 n (fun r => .slice (A' r) (L r) (C' r)) ∧ ∀ p, p < n → PageIs wX (F p) (A' p) (L p) (hv p))
    (v10 v11 v12 v13 v14 v15 v16 v17 v18 v19 v20 v21 v22 v23 v24 v25 v26 v28 v30 v31 v33 v34 v35 v36 v37 v38 v39 v40 v41 v42 v43 v44 v45 v46 v47 v48 v49 v50 v51 v52 v53 v54 v55 v56 v57 v58 v59 v60 v61 v62 v63 v64 v65 v66 v67 v68 v69 v70 v71 v72 v73 v74 v75 v76 v77 v78 v79 v80 v81 v82 v83 v84 v85 v86 v87 v88 v89 v90 v91 v92 v93 v94 v95 v96 v97 v98 v99 v100 v101 v102 v103 v104 v105 v106 v107 v108 v109 v110 v111 v112 v113 v114 v115 v116 v117 v118 v119 v120 v121 v122 v123 v124 v125 v126 v127 v128 v129 v130 v131 v132 v133 v134 v135 v136 v137 v138 v139 v140 v141 v142 v143 v144 v145 v146 v147 v148 v149 v150 v151 v152 v153 v154 v155 v156 v157 v158 v159 v160 v161 v162 v163 v164 v165 v166 v167 v168 v169 v170 v171 v172 v173 v174 v175 v176 v177 v178 v179 v180 v181 v182 v183 v184 v185 v186 v187 v188 v189 v190 v191 v192 v193 v194 v195 v196 v197 v198 v199 v200 v201 v202 v203 v204 v205 v206 v207 v208 v209 v210 v211 v212 v213 v214 v215 v216 v217 v218 v219 v220 v221 v222 v223 v224 v225 v226 v227 v228 v229 v230 v231 v232 v233 v234 v235 v236 v237 v238 v239 v240 v241 : Value) :
    Code.wp Try.prog ((Try.f4.body.bind (restAt 40)).getD .skip) (bodyPost Try.prog Try.f4 (fun e w' => e = .returned (.bool true) ∧ Below w.heap.size w w')) ⟨#[.int .i32 ps, .slice a n c, .int .u64 h, .slice a1 n1 c1, .slice a2 n2 c2, .slice a3 n3 c3, .slice a4 n4 c4, .int .i64 r1, .int .i64 r2, .bool u, v10, v11, v12, v13, v14, v15, v16, v17, v18, v19, v20, v21, v22, v23, v24, v25, v26, .slice b n bc, v28, .slice a' n c', v30, v31, .slice (some ⟨hb, 0, none⟩) n n, v33, v34, v35, v36, v37, v38, v39, v40, v41, v42, v43, v44, v45, v46, v47, v48, v49, v50, v51, v52, v53, v54, v55, v56, v57, v58, v59, v60, v61, v62, v63, v64, v65, v66, v67, v68, v69, v70, v71, v72, v73, v74, v75, v76, v77, v78, v79, v80, v81, v82, v83, v84, v85, v86, v87, v88, v89, v90, v91, v92, v93, v94, v95, v96, v97, v98, v99, v100, v101, v102, v103, v104, v105, v106, v107, v108, v109, v110, v111, v112, v113, v114, v115, v116, v117, v118, v119, v120, v121, v122, v123, v124, v125, v126, v127, v128, v129, v130, v131, v132, v133, v134, v135, v136, v137, v138, v139, v140, v141, v142, v143, v144, v145, v146, v147, v148, v149, v150, v151, v152, v153, v154, v155, v156, v157, v158, v159, v160, v161, v162, v163, v164, v165, v166, v167, v168, v169, v170, v171, v172, v173, v174, v175, v176, v177, v178, v179, v180, v181, v182, v183, v184, v185, v186, v187, v188, v189, v190, v191, v192, v193, v194, v195, v196, v197, v198, v199, v200, v201, v202, v203, v204, v205, v206, v207, v208, v209, v210, v211, v212, v213, v214, v215, v216, v217, v218, v219, v220, v221, v222, v223, v224, v225, v226, v227, v228, v229, v230, v231, v232, v233, v234, v235, v236, v237, v238, v239, v240, v241], []⟩ wX := by
  conv => arg 2; whnf
  go_wp2_with fail
  go_loopw [34] (fun i wr => ∃ (k nq : Nat), k ≤ n ∧ i = .int .i64 k ∧ wr = wX.drewN nq) (fun i _ => n - (intOf i).toNat)
  case atStart => exact ⟨0, 0, Nat.zero_le _, rfl, rfl⟩
  case round =>
    obtain ⟨k, nq, hk, rfl, rfl⟩ := hrel
    by_cases hlt : k < n
    · obtain ⟨N, cb, nn, F, rfl, rfl, hnn, hN, hC, hP⟩ := hpg (by omega)
      obtain ⟨an, cn, hF, hpt⟩ := hP k hlt
      have c1 := hN.cell (i := k) (by omega)
      rw [hF] at c1
      have c2 := hC.cell (i := k) hlt
      have c3 := hrow.cell (i := k) hlt
      have hLk := hL k hlt
      clear hN hC hP hF hrow hpg hL
      by_cases hl : L k = 0
      · rw [hl] at c1 c2
        clear hl hpt hLk
        go_wp2_with fail
        go_quiet (fail)
        go_wp2_with fail
        go_roundw
        case rel => exact ⟨k + 1, _, by omega, by go_num, rfl⟩
        case measure => simp [intOf]; omega
      · have hl0 : ((L k : Int) == 0) = false := by rw [beq_eq_false_iff_ne]; omega
        have l0 : 0 < L k := by omega
        have l1 : (0 : Int) < (L k : Int) := by omega
        obtain ⟨z, y, rfl, hy, e0, e1⟩ := hpt l0
        rw [hy] at c2
        clear hy hl
        cases hh : hv k
        · obtain rfl := e0 hh
          rw [hh] at c3
          clear e0 e1 hh
          have heq := fun wx => eql39_same wx ⟨z, 0, none⟩
          go_wp2_with fail
          go_quiet (fail)
          go_wp2_with fail
          go_roundw
          case rel => exact ⟨k + 1, _, by omega, by go_num, rfl⟩
          case measure => simp [intOf]; omega
        · obtain ⟨hne, ⟨k1, f1, q1⟩, k2, f2, q2⟩ := e1 hh
          rw [hh] at c3
          clear e0 e1 hh
          have heq : ∀ nq, (binOp .eql 39 (.pointer (some ⟨z, 0, none⟩)) (.pointer (some ⟨y, 0, none⟩))).run Try.prog (wX.drewN nq) = .ok (.bool false) (wX.drewN nq) := fun nq => eql39_other hne (rowIs_drewN q1) (rowIs_drewN q2)
          clear q1 q2
          go_wp2_with fail
          go_quiet (fail)
          go_wp2_with fail
          go_roundw
          case rel => exact ⟨k + 1, _, by omega, by go_num, rfl⟩
          case measure => simp [intOf]; omega
    · go_wp2_with fail
      go_ret
      exact ⟨rfl, below_drewN hB.out⟩

end Go.Proofs.Qxb6602268a.M
