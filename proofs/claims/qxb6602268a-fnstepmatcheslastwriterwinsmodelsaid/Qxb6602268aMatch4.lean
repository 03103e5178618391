/- The end of FnStepMatchesLastWriterWinsModel: its last loops. -/
import Derived.Test.Qxb6602268aMatchKit
namespace Go.Proofs.Qxb6602268a.M
open Go.ChangeShapes Go.WideShapes Go.ChangeAt Go.RowKit Go.Maps
set_option linter.unusedVariables false

theorem lit_inj {H : Type} {a b : Int} (h : (DataW.lit (.int .i32 a) : DataW H) = .lit (.int .i32 b)) : a = b := by cases h; rfl

theorem keyRes_wf {ps : Int} {p i : Nat} (hps : 1 ≤ ps) : (Lit.int .i32 (keyRes ps p i)).wf = true := by
  refine WalkArith.wf_i32 ?_
  unfold keyRes
  split
  · rename_i h
    unfold isKey at h
    rw [decide_eq_true_iff] at h
    have : 0 ≤ (p : Int) * ps := Int.mul_nonneg (by omega) (by omega)
    unfold keyAt
    omega
  · omega

set_option maxRecDepth 1000000 in
set_option maxHeartbeats 4000000 in
theorem mtail4 (w wX : World) (ps h r1 r2 : Int) (u : Bool) (a a1 a2 a3 a4 : Option Addr) (n c n1 c1 n2 c2 n3 c3 n4 c4 : Nat) (A : Nat → Option Addr) (L C : Nat → Nat) (Z : Nat → Nat → Int) (RK RV WK WV : Nat → Int) (a' : Option Addr) (c' mb nn : Nat) (h' : Int) (A2 : Nat → Option Addr) (C2 : Nat → Nat) (Z2 : Nat → Nat → Int) (D : DataW Unit) (tb : Int → Option Int)
    (hn : n ≤ 131072) (hL : ∀ r, r < n → L r ≤ 131072) (h1 : 1 ≤ ps) (h2 : ps ≤ 2147483647) (hB : Hid (Below w.heap.size w wX)) (hp : Pages wX a n A L C Z) (hq : Pages wX a' n A2 L C2 Z2) (hm : MapIs wX mb nn D tb)
    (hz : Hid (∀ p i, Z2 p i = if isKey ps p i then (tb (keyAt ps p i)).getD (Z p i) else Z p i)) (hh : Hid (xr h' (SH fpI ps L Z2 n) = xr h (SH fpI ps L Z n)))
    (v10 v11 v12 v13 v14 v15 v16 v17 v18 v19 v20 v21 v22 v23 v24 v25 v26 v27 v28 v31 v33 v34 v35 v36 v37 v38 v39 v40 v41 v42 v43 v44 v45 v46 v47 v48 v49 v50 v51 v52 v53 v54 v55 v56 v57 v58 v59 v60 v61 v62 v63 v64 v65 v66 v67 v68 v69 v70 v71 v72 v73 v74 v75 v76 v77 v78 v79 v80 v81 v82 v83 v84 v85 v86 v87 v88 v89 v90 v91 v92 v93 v94 v95 v96 v97 v98 v99 v100 v101 v102 v103 v104 v105 v106 v107 v108 v109 v110 v111 v112 v113 v114 v115 v116 v117 v118 v119 v120 v121 v122 v123 v124 v125 v126 v127 v128 v129 v130 v131 v132 v133 v134 v135 v136 v137 v138 v139 v140 v141 v142 v143 v144 v145 v146 v147 v148 v149 v150 v151 v152 v153 v154 v155 v156 v157 v158 v159 v160 v161 v162 v163 v164 v165 v166 v167 v168 v169 v170 v171 v172 v173 v174 v175 v176 v177 v178 v179 v180 v181 v182 v183 v184 v185 v186 v187 v188 v189 v190 v191 v192 v193 v194 v195 v196 v197 v198 v199 v200 v201 v202 v203 v204 v205 v206 v207 v208 v209 v210 v211 v212 v213 v214 v215 v216 v217 v218 v219 v220 v221 v222 v223 v224 v225 v226 v227 v228 v229 v230 v231 v232 v233 v234 v235 v236 v237 v238 v239 v240 v241 v242 v243 v244 v245 v246 v247 v248 v249 v250 v251 v252 v253 v254 v255 v256 v257 v258 v259 v260 v261 v262 v263 v264 v265 v266 v267 v268 v269 v270 v271 v272 : Value) :
    Code.wp Try.prog ((Try.f3.body.bind (restAt 40)).getD .skip) (bodyPost Try.prog Try.f3 (fun e w' => e = .returned (.bool true) ∧ Below w.heap.size w w')) ⟨#[.int .i32 ps, .slice a n c, .int .u64 h, .slice a1 n1 c1, .slice a2 n2 c2, .slice a3 n3 c3, .slice a4 n4 c4, .int .i64 r1, .int .i64 r2, .bool u, v10, v11, v12, v13, v14, v15, v16, v17, v18, v19, v20, v21, v22, v23, v24, v25, v26, v27, v28, .slice a' n c', .int .u64 h', v31, .map (some mb), v33, v34, v35, v36, v37, v38, v39, v40, v41, v42, v43, v44, v45, v46, v47, v48, v49, v50, v51, v52, v53, v54, v55, v56, v57, v58, v59, v60, v61, v62, v63, v64, v65, v66, v67, v68, v69, v70, v71, v72, v73, v74, v75, v76, v77, v78, v79, v80, v81, v82, v83, v84, v85, v86, v87, v88, v89, v90, v91, v92, v93, v94, v95, v96, v97, v98, v99, v100, v101, v102, v103, v104, v105, v106, v107, v108, v109, v110, v111, v112, v113, v114, v115, v116, v117, v118, v119, v120, v121, v122, v123, v124, v125, v126, v127, v128, v129, v130, v131, v132, v133, v134, v135, v136, v137, v138, v139, v140, v141, v142, v143, v144, v145, v146, v147, v148, v149, v150, v151, v152, v153, v154, v155, v156, v157, v158, v159, v160, v161, v162, v163, v164, v165, v166, v167, v168, v169, v170, v171, v172, v173, v174, v175, v176, v177, v178, v179, v180, v181, v182, v183, v184, v185, v186, v187, v188, v189, v190, v191, v192, v193, v194, v195, v196, v197, v198, v199, v200, v201, v202, v203, v204, v205, v206, v207, v208, v209, v210, v211, v212, v213, v214, v215, v216, v217, v218, v219, v220, v221, v222, v223, v224, v225, v226, v227, v228, v229, v230, v231, v232, v233, v234, v235, v236, v237, v238, v239, v240, v241, v242, v243, v244, v245, v246, v247, v248, v249, v250, v251, v252, v253, v254, v255, v256, v257, v258, v259, v260, v261, v262, v263, v264, v265, v266, v267, v268, v269, v270, v271, v272], []⟩ wX := by
  conv => arg 2; whnf
  go_wp2_with fail
  go_loopw [36] (fun i wr => ∃ (k nq : Nat), k ≤ n ∧ i = .int .i64 k ∧ wr = wX.drewN nq) (fun i _ => n - (intOf i).toNat)
  case atStart => exact ⟨0, 0, Nat.zero_le _, rfl, rfl⟩
  case round =>
    obtain ⟨k, nq, hk, rfl, rfl⟩ := hrel
    by_cases hlt : k < n
    · obtain ⟨b, o, rfl, hc⟩ := hp.top (by omega)
      obtain ⟨b', o', rfl, hc'⟩ := hq.top (by omega)
      have hck := hc k hlt
      have hck' := hc' k hlt
      have hLk := hL k hlt
      have hr := hp.row k hlt
      have hr' := hq.row k hlt
      clear hc hc' hL hh
      go_wp2_with fail
      go_quiet (fail)
      go_wp2_with fail
      go_loopw [37] (fun i wr => ∃ (j nq : Nat), j ≤ L k ∧ i = .int .i64 j ∧ wr = wX.drewN nq) (fun i _ => L k - (intOf i).toNat)
      case atStart => exact ⟨0, _, Nat.zero_le _, rfl, World.drewN_drewN _ _ _⟩
      case round =>
        obtain ⟨j, nq, hj, rfl, rfl⟩ := hrel
        by_cases hjl : j < L k
        · obtain ⟨y, oy, hy, hyc⟩ := hr (by omega)
          obtain ⟨y', oy', hy', hyc'⟩ := hr' (by omega)
          have hcj := hyc j hjl
          have hcj' := hyc' j hjl
          rw [hz.out k j] at hcj'
          rw [hy] at hck
          rw [hy'] at hck'
          clear hyc hyc' hy hy' hr hr'
          go_wp2_with fail
          refine (cellKey_any ps k j _ (by omega) (by omega) h1 h2).mono ?_
          rintro e w' ⟨rfl, rfl⟩
          cases hb : isKey ps k j
          · rw [hb] at hcj'
            simp only [Bool.false_eq_true, if_false] at hcj'
            clear hb
            go_wp2_with fail
            go_roundw
            case rel => exact ⟨j + 1, _, by omega, by go_num, rfl⟩
            case measure => simp [intOf]; omega
          · rw [hb] at hcj'
            simp only [if_true] at hcj'
            have hkr : keyRes ps k j = keyAt ps k j := by unfold keyRes; rw [if_pos hb]
            have hwf : (Lit.int .i32 (keyRes ps k j)).wf = true := keyRes_wf h1
            rw [← hkr] at hcj'
            have hhas := hm.has _ hwf
            have HA : Hid (∀ v, tb (keyRes ps k j) = some v → D.atKey (.int .i32 (keyRes ps k j)) (.lit (.int .i32 0)) = .lit (.int .i32 v)) := hm.at' _ hwf
            have HO : ∀ q, (wX.drewN q).ownsMap Try.prog 21 (plainElem Try.prog 21) mb nn D := fun q => hm.own
            clear hb hkr
            cases ht : tb (keyRes ps k j) with
            | none =>
              rw [ht] at hhas hcj'
              simp only [Option.isSome_none, Option.getD_none] at hhas hcj'
              clear ht HA
              go_wp2_with (at_lookup; refine wpList_lookup_own_ok_int _ rfl _ _ 33 rfl 21 21 .i32 law21 Try.underlying33 Try.underlying21 (zero21 _) mb nn D rfl (HO _) _ _ rfl (keyOf_int_mk Try.underlying21 hwf) ?_; intro cc hat hwc)
              go_roundw
              case rel => exact ⟨j + 1, _, by omega, by go_num, rfl⟩
              case measure => simp [intOf]; omega
            | some v =>
              have HV : Hid (D.atKey (.int .i32 (keyRes ps k j)) (.lit (.int .i32 0)) = .lit (.int .i32 v)) := HA.out v ht
              rw [ht] at hhas hcj'
              simp only [Option.isSome_some, Option.getD_some] at hhas hcj'
              clear ht HA
              go_wp2_with (at_lookup; refine wpList_lookup_own_ok_int _ rfl _ _ 33 rfl 21 21 .i32 law21 Try.underlying33 Try.underlying21 (zero21 _) mb nn D rfl (HO _) _ _ rfl (keyOf_int_mk Try.underlying21 hwf) ?_; intro cc hat hwc; have ecc : cc = v := lit_inj (hat.symm.trans HV.out); rw [ecc]; clear hat hwc ecc)
              go_roundw
              case rel => exact ⟨j + 1, _, by omega, by go_num, rfl⟩
              case measure => simp [intOf]; omega
        · go_wp2_with fail
          go_roundw
          case rel => exact ⟨k + 1, _, by omega, by go_num, rfl⟩
          case measure => simp [intOf]; omega
    · obtain rfl : k = n := by omega
      have hE : (bits BinOp.xor IntKind.u64 h' (SH fpI ps L Z2 k) == bits BinOp.xor IntKind.u64 h (SH fpI ps L Z k)) = true := by
        rw [beq_iff_eq]; exact hh.out
      go_wp2_with fail
      refine (stateHash_any ps a' k c' A2 L C2 Z2 _ (hq.drewN _) hn hL h1 h2).mono ?_
      rintro e w' ⟨rfl, rfl⟩
      go_wp2_with fail
      refine (stateHash_any ps a k c A L C Z _ (hp.drewN _) hn hL h1 h2).mono ?_
      rintro e w' ⟨rfl, rfl⟩
      go_wp2_with fail
      go_ret
      exact ⟨rfl, below_drewN hB.out⟩

end Go.Proofs.Qxb6602268a.M
