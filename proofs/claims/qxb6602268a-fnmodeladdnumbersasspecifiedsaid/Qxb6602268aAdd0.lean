/- FnModelAddNumbersAsSpecified: its tables and lists. -/
import Derived.Test.Qxb6602268aAdd1s
namespace Go.Proofs.Qxb6602268a.M
open Go.ChangeShapes Go.WideShapes Go.ChangeAt Go.RowKit Go.Maps
set_option linter.unusedVariables false

/-- What is known of the arguments. -/
structure Args6 (w : World) (a0 a1 a2 a3 a4 a5 a6 a7 : Option Addr) (n1 n3 n5 n7 : Nat) (L0 L2 L4 L6 : List BA) (Z1 Z3 : Nat → Int) (A5 A7 : Nat → Option Addr) (T5 T7 : Nat → BA) : Prop where
  s0 : Strs w a0 L0
  s2 : Strs w a2 L2
  s4 : Strs w a4 L4
  s6 : Strs w a6 L6
  i1 : Ints w a1 n1 Z1
  i3 : Ints w a3 n3 Z3
  p5 : Ptrs w a5 n5 A5 T5
  p7 : Ptrs w a7 n7 A7 T7
  f0 : Fits L0
  f2 : Fits L2
  f4 : Fits L4
  f6 : Fits L6
  r1 : ∀ i, i < n1 → -2147483648 ≤ Z1 i ∧ Z1 i ≤ 2147483647
  r3 : ∀ i, i < n3 → -2147483648 ≤ Z3 i ∧ Z3 i ≤ 2147483647

theorem Kv.isMap {B : Nat} {w : World} {v : Value} {f : BA → Option Value} {tx : BA → Option BA} {L : List BA} {s : Nat} (h : Kv B w v f tx L s) : ∃ m, v = .map m := by
  rcases h.m with ⟨rfl, _⟩ | ⟨b, rfl, _⟩
  · exact ⟨_, rfl⟩
  · exact ⟨_, rfl⟩

theorem numTab_any (w0 w : World) (hb : Below w0.heap.size w0 w) (a a2 : Option Addr) (c m c2 : Nat) (L : List BA) (Z : Nat → Int) (hL : L.length ≤ 1048576) (hm : m ≤ 1048576) (hf : Fits L) (hs : Strs w0 a L) (hi : Ints w0 a2 m Z) :
    Calls Try.prog 19 #[.slice a L.length c, .slice a2 m c2] w (fun e w' => e = .returned (.map (some w.heap.size)) ∧ Tab 9 slit w' w.heap.size (IT (numT L Z m)) (bs (nth L) (numAt Z m) L.length) ∧ Below w.heap.size w w') := by
  rw [numT_IT]
  exact numberTable_any w a a2 c m c2 L Z hL hm hf (Vals.below hs hb) (hi.below hb)
theorem dist_any (w0 w : World) (hb : Below w0.heap.size w0 w) (a : Option Addr) (c : Nat) (L : List BA) (hL : L.length ≤ 1048576) (hf : Fits L) (hs : Strs w0 a L) :
    Calls Try.prog 21 #[.slice a L.length c] w (fun e w' => RetStrs w w' e (dist L)) := distinct_any w a c L hL hf (Vals.below hs hb)

set_option maxRecDepth 1000000 in
set_option maxHeartbeats 4000000 in
theorem add0 (w0 : World) (cl ca re : Int) (a0 a1 a2 a3 a4 a5 a6 a7 : Option Addr) (n1 n3 n5 n7 c0 c1 c2 c3 c4 c5 c6 c7 : Nat) (L0 L2 L4 L6 : List ByteArray) (oc : ByteArray) (Z1 Z3 : Nat → Int) (A5 A7 : Nat → Option Addr) (T5 T7 : Nat → ByteArray) (HG : Hid (Args6 w0 a0 a1 a2 a3 a4 a5 a6 a7 n1 n3 n5 n7 L0 L2 L4 L6 Z1 Z3 A5 A7 T5 T7)) (h0 : L0.length ≤ 1048576) (h1 : n1 ≤ 1048576) (h2 : L2.length ≤ 1048576) (h3 : n3 ≤ 1048576) (h4 : L4.length ≤ 1048576) (h5 : n5 ≤ 1048576) (h6 : L6.length ≤ 1048576) (h7 : n7 ≤ 1048576)
    (v12 v13 v14 v15 v16 v17 v18 v19 v20 v21 v22 v23 v24 v25 v26 v27 v28 v29 v30 v31 v32 v33 v34 v35 v36 v37 v38 v39 v40 v41 v42 v43 v44 v45 v46 v47 v48 v49 v50 v51 v52 v53 v54 v55 v56 v57 v58 v59 v60 v61 v62 v63 v64 v65 v66 v67 v68 v69 v70 v71 v72 v73 v74 v75 v76 v77 v78 v79 v80 v81 v82 v83 v84 v85 v86 v87 v88 v89 v90 v91 v92 v93 v94 v95 v96 v97 v98 v99 v100 v101 v102 v103 v104 v105 v106 v107 v108 v109 v110 v111 v112 v113 v114 v115 v116 v117 v118 v119 v120 v121 v122 v123 v124 v125 v126 v127 v128 v129 v130 v131 v132 v133 v134 v135 v136 v137 v138 v139 v140 v141 v142 v143 v144 v145 v146 v147 v148 v149 v150 v151 v152 v153 v154 v155 v156 v157 v158 v159 v160 v161 v162 v163 v164 v165 v166 v167 v168 v169 v170 v171 v172 v173 v174 v175 v176 v177 v178 v179 v180 v181 v182 v183 v184 v185 v186 v187 v188 v189 v190 v191 v192 v193 v194 v195 v196 v197 v198 v199 v200 v201 v202 v203 v204 v205 v206 v207 v208 v209 v210 v211 v212 v213 v214 v215 v216 v217 v218 v219 v220 v221 v222 v223 v224 v225 v226 v227 v228 v229 v230 v231 v232 v233 v234 v235 v236 v237 v238 v239 v240 v241 v242 v243 v244 v245 v246 v247 v248 v249 v250 v251 v252 v253 v254 v255 v256 v257 v258 v259 v260 v261 : Value) :
    Code.wp Try.prog ((Try.f5.body.bind (restAt 7)).getD .skip) (bodyPost Try.prog Try.f5 (fun e w' => e = .returned (.bool true) ∧ Below w0.heap.size w0 w')) ⟨#[.slice a0 L0.length c0, .slice a1 n1 c1, .slice a2 L2.length c2, .slice a3 n3 c3, .int .i64 cl, .int .i64 ca, .int .i64 re, .slice a4 L4.length c4, .slice a5 n5 c5, .slice a6 L6.length c6, .slice a7 n7 c7, .string oc, v12, v13, v14, v15, v16, v17, v18, v19, v20, v21, v22, v23, v24, v25, v26, v27, v28, v29, v30, v31, v32, v33, v34, v35, v36, v37, v38, v39, v40, v41, v42, v43, v44, v45, v46, v47, v48, v49, v50, v51, v52, v53, v54, v55, v56, v57, v58, v59, v60, v61, v62, v63, v64, v65, v66, v67, v68, v69, v70, v71, v72, v73, v74, v75, v76, v77, v78, v79, v80, v81, v82, v83, v84, v85, v86, v87, v88, v89, v90, v91, v92, v93, v94, v95, v96, v97, v98, v99, v100, v101, v102, v103, v104, v105, v106, v107, v108, v109, v110, v111, v112, v113, v114, v115, v116, v117, v118, v119, v120, v121, v122, v123, v124, v125, v126, v127, v128, v129, v130, v131, v132, v133, v134, v135, v136, v137, v138, v139, v140, v141, v142, v143, v144, v145, v146, v147, v148, v149, v150, v151, v152, v153, v154, v155, v156, v157, v158, v159, v160, v161, v162, v163, v164, v165, v166, v167, v168, v169, v170, v171, v172, v173, v174, v175, v176, v177, v178, v179, v180, v181, v182, v183, v184, v185, v186, v187, v188, v189, v190, v191, v192, v193, v194, v195, v196, v197, v198, v199, v200, v201, v202, v203, v204, v205, v206, v207, v208, v209, v210, v211, v212, v213, v214, v215, v216, v217, v218, v219, v220, v221, v222, v223, v224, v225, v226, v227, v228, v229, v230, v231, v232, v233, v234, v235, v236, v237, v238, v239, v240, v241, v242, v243, v244, v245, v246, v247, v248, v249, v250, v251, v252, v253, v254, v255, v256, v257, v258, v259, v260, v261], []⟩ w0 := by
  have HL := hid (And.intro h0 (And.intro h1 (And.intro h2 (And.intro h3 (And.intro h4 (And.intro h5 (And.intro h6 h7)))))))
  have C1 := hid (numTab_any w0 w0 (Below.refl _ _) a0 a1 c0 n1 c1 L0 Z1 h0 h1 HG.out.f0 HG.out.s0 HG.out.i1)
  clear h0 h1 h2 h3 h4 h5 h6 h7
  conv => arg 2; whnf
  go_upto_region 14 with (first | (go_at_call 19; refine C1.out.mono ?_; clear C1; rintro e w1 ⟨rfl, T, b⟩; have T1 := hid T; have b1 := hid b; have B1 := hid b; have C2 := hid (numTab_any w0 w1 b a0 a1 c0 n1 c1 L0 Z1 HL.out.1 HL.out.2.1 HG.out.f0 HG.out.s0 HG.out.i1); clear T b) | (go_at_call 19; refine C2.out.mono ?_; clear C2; rintro e w2 ⟨rfl, T, b⟩; have T2 := hid T; have b2 := hid b; have B2 := hid (below_then B1.out b); have C3 := hid (numTab_any w0 w2 B2.out a2 a3 c2 n3 c3 L2 Z3 HL.out.2.2.1 HL.out.2.2.2.1 HG.out.f2 HG.out.s2 HG.out.i3); clear T b) | (go_at_call 19; refine C3.out.mono ?_; clear C3; rintro e w3 ⟨rfl, T, b⟩; have T3 := hid T; have b3 := hid b; have B3 := hid (below_then B2.out b); have C4 := hid (numTab_any w0 w3 B3.out a2 a3 c2 n3 c3 L2 Z3 HL.out.2.2.1 HL.out.2.2.2.1 HG.out.f2 HG.out.s2 HG.out.i3); clear T b) | (go_at_call 19; refine C4.out.mono ?_; clear C4; rintro e w4 ⟨rfl, T, b⟩; have T4 := hid T; have b4 := hid b; have B4 := hid (below_then B3.out b); have C5 := hid (txn_any w0 w4 B4.out a4 a5 c4 n5 c5 L4 A5 T5 HL.out.2.2.2.2.1 HL.out.2.2.2.2.2.1 HG.out.f4 HG.out.s4 HG.out.p5); clear T b) | (go_at_call 20; refine C5.out.mono ?_; clear C5; rintro e w5 ⟨v, fr, tr, sr, rfl, k, hn, b⟩; obtain ⟨rm, rfl⟩ := k.isMap; have K5 := hid k; have N5 := hid hn; have b5 := hid b; have B5 := hid (below_then B4.out b); have C6 := hid (txn_any w0 w5 B5.out a6 a7 c6 n7 c7 L6 A7 T7 HL.out.2.2.2.2.2.2.1 HL.out.2.2.2.2.2.2.2 HG.out.f6 HG.out.s6 HG.out.p7); clear k hn b) | (go_at_call 20; refine C6.out.mono ?_; clear C6; rintro e w6 ⟨v, fw, tw, sw, rfl, k, hn, b⟩; obtain ⟨wm, rfl⟩ := k.isMap; have K6 := hid k; have N6 := hid hn; have b6 := hid b; have B6 := hid (below_then B5.out b); have C7 := hid (dist_any w0 w6 B6.out a4 c4 L4 HL.out.2.2.2.2.1 HG.out.f4 HG.out.s4); clear k hn b) | (go_at_call 21; refine C7.out.mono ?_; clear C7; rintro e w7 ⟨aR, cR, rfl, S, b⟩; have S7 := hid S; have b7 := hid b; have B7 := hid (below_then B6.out b); have C8 := hid (dist_any w0 w7 B7.out a6 c6 L6 HL.out.2.2.2.2.2.2.1 HG.out.f6 HG.out.s6); clear S b))
  rename_i K1 h1
  have HK : Hid (∀ (a : Act) (w : World), _ → K1 a w) := h1
  clear h1
  go_wp2_with (go_at_call 21; refine C8.out.mono ?_; clear C8; rintro e w8 ⟨aW, cW, rfl, S, b⟩; have S8 := hid S; have b8 := hid b; have B8 := hid (below_then B7.out b); clear S b)
  have e8 := b8.out
  have e7 := below_then b7.out e8
  have e6 := below_then b6.out e7
  have e5 := below_then b5.out e6
  have e4 := below_then b4.out e5
  have e3 := below_then b3.out e4
  have e2 := below_then b2.out e3
  have t1 := T1.out.lt
  have t2 := T2.out.lt
  have t3 := T3.out.lt
  have t4 := T4.out.lt
  have z1 := b1.out.size
  have z2 := b2.out.size
  have z3 := b3.out.size
  have z4 := b4.out.size
  have z5 := b5.out.size
  have FX : Fix L0 L2 L4 L6 ⟨numT L0 Z1 n1, bs (nth L0) (numAt Z1 n1) L0.length, numT L2 Z3 n3, bs (nth L2) (numAt Z3 n3) L2.length⟩ := ⟨HL.out.1, HL.out.2.2.1, HL.out.2.2.2.2.1, HL.out.2.2.2.2.2.2.1, HG.out.f0, HG.out.f2, HG.out.f4, HG.out.f6, Nat.le_trans (bs_le _ _ _) HL.out.1, Nat.le_trans (bs_le _ _ _) HL.out.2.2.1, fun x hx => (numT_mem L0 Z1 n1 x).2 hx, fun x hx => (numT_mem L2 Z3 n3 x).2 hx, numT_bound L0 Z1 n1 HG.out.r1, numT_bound L2 Z3 n3 HG.out.r3⟩
  have BF : Before w0 w8 a0 a2 aR aW w0.heap.size w2.heap.size w1.heap.size w3.heap.size sr sw (.map rm) (.map wm) fr fw tr tw L0 L2 L4 L6 ⟨numT L0 Z1 n1, bs (nth L0) (numAt Z1 n1) L0.length, numT L2 Z3 n3, bs (nth L2) (numAt Z3 n3) L2.length⟩ :=
    ⟨FX, Vals.below HG.out.s0 B8.out, Vals.below HG.out.s2 B8.out, Vals.below S7.out e8, S8.out, T1.out.below e2, T3.out.below e4, T2.out.below e3, T4.out.below e5, K5.out.below e6, K6.out.below e7, (fun b e => by have := N5.out b e; omega), (fun b e => by have := N6.out b e; omega), by omega, by omega, by omega, by omega, by omega, by omega, by omega, B8.out⟩
  cases o1 : (oc.toList == [97, 98, 111, 114, 116, 101, 100]) with
  | true => exact HK.out _ _ (add1s w0 w8 cl ca re a0 a1 a2 a3 a4 a5 a6 a7 n1 n3 n5 n7 c0 c1 c2 c3 c4 c5 c6 c7 L0 L2 L4 L6 oc w0.heap.size w2.heap.size w1.heap.size w3.heap.size sr sw rm wm fr fw tr tw ⟨numT L0 Z1 n1, bs (nth L0) (numAt Z1 n1) L0.length, numT L2 Z3 n3, bs (nth L2) (numAt Z3 n3) L2.length⟩ aR aW cR cW BF (Or.inl o1) _ _ _ _ _ _ _ _ _ _ _ _ _ _ _ _ _ _ _ _ _ _ _ _ _ _ _ _ _ _ _ _ _ _ _ _ _ _ _ _ _ _ _ _ _ _ _ _ _ _ _ _ _ _ _ _ _ _ _ _ _ _ _ _ _ _ _ _ _ _ _ _ _ _ _ _ _ _ _ _ _ _ _ _ _ _ _ _ _ _ _ _ _ _ _ _ _ _ _ _ _ _ _ _ _ _ _ _ _ _ _ _ _ _ _ _ _ _ _ _ _ _ _ _ _ _ _ _ _ _ _ _ _ _ _ _ _ _ _ _ _ _ _ _ _ _ _ _ _ _ _ _ _ _ _ _ _ _ _ _ _ _ _ _ _ _ _ _ _ _ _ _ _ _ _ _ _ _ _ _ _ _ _ _ _ _ _ _ _ _ _ _ _ _ _ _ _ _ _ _ _ _ _ _ _ _ _ _ _ _ _ _ _ _ _ _ _ _ _ _ _ _ _ _ _ _ _ _ _ _ _ _ _ _ _ _ _ _ _ _ _ _)
  | false =>
    cases o2 : (oc.toList == [117, 110, 107, 110, 111, 119, 110]) with
    | false => exact HK.out _ _ (add1j w0 w8 cl ca re a0 a1 a2 a3 a4 a5 a6 a7 n1 n3 n5 n7 c0 c1 c2 c3 c4 c5 c6 c7 L0 L2 L4 L6 oc w0.heap.size w2.heap.size w1.heap.size w3.heap.size sr sw rm wm fr fw tr tw ⟨numT L0 Z1 n1, bs (nth L0) (numAt Z1 n1) L0.length, numT L2 Z3 n3, bs (nth L2) (numAt Z3 n3) L2.length⟩ aR aW cR cW false BF o1 o2 (fun e => by cases e) _ _ _ _ _ _ _ _ _ _ _ _ _ _ _ _ _ _ _ _ _ _ _ _ _ _ _ _ _ _ _ _ _ _ _ _ _ _ _ _ _ _ _ _ _ _ _ _ _ _ _ _ _ _ _ _ _ _ _ _ _ _ _ _ _ _ _ _ _ _ _ _ _ _ _ _ _ _ _ _ _ _ _ _ _ _ _ _ _ _ _ _ _ _ _ _ _ _ _ _ _ _ _ _ _ _ _ _ _ _ _ _ _ _ _ _ _ _ _ _ _ _ _ _ _ _ _ _ _ _ _ _ _ _ _ _ _ _ _ _ _ _ _ _ _ _ _ _ _ _ _ _ _ _ _ _ _ _ _ _ _ _ _ _ _ _ _ _ _ _ _ _ _ _ _ _ _ _ _ _ _ _ _ _ _ _ _ _ _ _ _ _ _ _ _ _ _ _ _ _ _ _ _ _ _ _ _ _ _ _ _ _ _ _ _ _ _ _ _ _ _ _ _ _ _ _ _ _ _ _ _ _ _ _ _ _ _ _ _ _ _ _)
    | true =>
      by_cases hs : sw = 0
      · exact HK.out _ _ (add1s w0 w8 cl ca re a0 a1 a2 a3 a4 a5 a6 a7 n1 n3 n5 n7 c0 c1 c2 c3 c4 c5 c6 c7 L0 L2 L4 L6 oc w0.heap.size w2.heap.size w1.heap.size w3.heap.size sr sw rm wm fr fw tr tw ⟨numT L0 Z1 n1, bs (nth L0) (numAt Z1 n1) L0.length, numT L2 Z3 n3, bs (nth L2) (numAt Z3 n3) L2.length⟩ aR aW cR cW BF (Or.inr ⟨o1, o2, hs⟩) _ _ _ _ _ _ _ _ _ _ _ _ _ _ _ _ _ _ _ _ _ _ _ _ _ _ _ _ _ _ _ _ _ _ _ _ _ _ _ _ _ _ _ _ _ _ _ _ _ _ _ _ _ _ _ _ _ _ _ _ _ _ _ _ _ _ _ _ _ _ _ _ _ _ _ _ _ _ _ _ _ _ _ _ _ _ _ _ _ _ _ _ _ _ _ _ _ _ _ _ _ _ _ _ _ _ _ _ _ _ _ _ _ _ _ _ _ _ _ _ _ _ _ _ _ _ _ _ _ _ _ _ _ _ _ _ _ _ _ _ _ _ _ _ _ _ _ _ _ _ _ _ _ _ _ _ _ _ _ _ _ _ _ _ _ _ _ _ _ _ _ _ _ _ _ _ _ _ _ _ _ _ _ _ _ _ _ _ _ _ _ _ _ _ _ _ _ _ _ _ _ _ _ _ _ _ _ _ _ _ _ _ _ _ _ _ _ _ _ _ _ _ _ _ _ _ _ _ _ _ _ _ _ _ _ _ _ _ _ _ _ _)
      · exact HK.out _ _ (add1j w0 w8 cl ca re a0 a1 a2 a3 a4 a5 a6 a7 n1 n3 n5 n7 c0 c1 c2 c3 c4 c5 c6 c7 L0 L2 L4 L6 oc w0.heap.size w2.heap.size w1.heap.size w3.heap.size sr sw rm wm fr fw tr tw ⟨numT L0 Z1 n1, bs (nth L0) (numAt Z1 n1) L0.length, numT L2 Z3 n3, bs (nth L2) (numAt Z3 n3) L2.length⟩ aR aW cR cW true BF o1 o2 (fun _ => hs) _ _ _ _ _ _ _ _ _ _ _ _ _ _ _ _ _ _ _ _ _ _ _ _ _ _ _ _ _ _ _ _ _ _ _ _ _ _ _ _ _ _ _ _ _ _ _ _ _ _ _ _ _ _ _ _ _ _ _ _ _ _ _ _ _ _ _ _ _ _ _ _ _ _ _ _ _ _ _ _ _ _ _ _ _ _ _ _ _ _ _ _ _ _ _ _ _ _ _ _ _ _ _ _ _ _ _ _ _ _ _ _ _ _ _ _ _ _ _ _ _ _ _ _ _ _ _ _ _ _ _ _ _ _ _ _ _ _ _ _ _ _ _ _ _ _ _ _ _ _ _ _ _ _ _ _ _ _ _ _ _ _ _ _ _ _ _ _ _ _ _ _ _ _ _ _ _ _ _ _ _ _ _ _ _ _ _ _ _ _ _ _ _ _ _ _ _ _ _ _ _ _ _ _ _ _ _ _ _ _ _ _ _ _ _ _ _ _ _ _ _ _ _ _ _ _ _ _ _ _ _ _ _ _ _ _ _ _ _ _ _ _)

end Go.Proofs.Qxb6602268a.M
