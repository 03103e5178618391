/- FnStringValueMatchesConcatenationOverScript: its last loop. -/
import Derived.Test.Qxb6002359aStack
namespace Go.Proofs.Qxb6002359a.M
open Go.RowKit Go.ChangeShapes Go.WideShapes Go.ChangeAt
set_option linter.unusedVariables false
set_option linter.unusedSimpArgs false

theorem hid {p : Prop} (h : p) : Hid p := h
theorem below_then {w0 w w1 : World} (h : Below w0.heap.size w0 w) (k : Below w.heap.size w w1) : Below w0.heap.size w0 w1 :=
  ⟨k.os.trans h.os, k.tape.trans h.tape, k.output.trans h.output, Nat.le_trans h.size k.size, fun i hi => (k.block i (Nat.lt_of_lt_of_le hi h.size)).trans (h.block i hi)⟩

/-- one more read of entry j -/
theorem read_once {w1 wr : World} {E : List Ent} {v : Value} {b l : Nat} {t : BA} (h : Lp w1 wr E v) (hm : (b, t, l) ∈ E) :
    Calls Try.prog 17 #[.agg #[.pointer (some ⟨b, 0, none⟩)]] wr.drew (fun e w' => e = .returned (.string t) ∧ Lp w1 w' E v ∧ ∀ i, i < wr.heap.size → i ≠ b → w'.heap[i]? = wr.heap[i]?) := by
  have hn := h.nds _ hm
  have hs := h.sm _ hm
  have hn' : Nd wr.drew b t l := hn.keep fun i cs hi => hi
  refine (zzValue_any wr.drew b l t hn' hs.2.1 hs.1).mono ?_
  rintro e w' ⟨rfl, hj⟩
  have hj' : Joined wr w' b t := ⟨hj.os, hj.tape, hj.output, hj.size, hj.block, hj.at'⟩
  exact ⟨rfl, h.joined hn hs.2.2 hj', hj'.block⟩

set_option maxRecDepth 1000000 in
set_option maxHeartbeats 4000000 in
theorem last_loop (w0 w1 w : World) (E : List Ent) (aa : Option Addr) (cc : Nat) (hE : E.length ≤ 1024) (HL : Hid (Lp w1 w E (.slice aa E.length cc))) (H0 : Hid (Below w0.heap.size w0 w1))
    (v0 v1 v2 v3 v4 v6 v7 v8 v9 v10 v11 v12 v13 v14 v15 v16 v17 v18 v19 v20 v21 v22 v23 v24 v25 v26 v27 v28 v29 v30 v31 v32 v33 v34 v35 v36 v37 v38 v39 v40 v41 v42 v43 v44 v45 v46 v47 v48 v49 v50 v51 v52 v53 v54 v55 v56 v57 v58 v59 v60 v61 v62 v63 v64 v65 v66 v67 v68 v69 v70 v71 v72 v73 v74 v75 v76 v77 v78 v79 v80 v81 v82 v83 v84 v85 v86 v87 v88 v89 v90 v91 v92 v93 v94 v95 v96 v97 v98 v99 v100 v101 v102 v103 v104 v105 v106 v107 v108 v109 v110 v111 v112 v113 v114 v115 v116 v117 v118 v119 v120 v121 v122 v123 v124 v125 v126 v127 v128 v129 v130 v131 v132 v133 v134 v135 v136 v137 v138 v139 v140 v141 v142 v143 v144 v145 v146 v147 v148 v149 v150 v151 v152 v153 v154 v155 v156 v157 v158 v159 v160 v161 v162 v163 v164 v165 v166 v167 v168 v169 v170 v171 v172 v173 v174 v175 v176 v177 v178 v179 v180 v181 v182 v183 v184 v185 v186 v187 v188 v189 v190 v191 v192 : Value) :
    Code.wp Try.prog ((Try.f5.body.bind (restAt 38)).getD .skip) (bodyPost Try.prog Try.f5 (fun e w' => e = .returned (.bool true) ∧ Below w0.heap.size w0 w')) ⟨#[v0, v1, v2, v3, v4, .slice aa E.length cc, v6, v7, v8, v9, v10, v11, v12, v13, v14, v15, v16, v17, v18, v19, v20, v21, v22, v23, v24, v25, v26, v27, v28, v29, v30, v31, v32, v33, v34, v35, v36, v37, v38, v39, v40, v41, v42, v43, v44, v45, v46, v47, v48, v49, v50, v51, v52, v53, v54, v55, v56, v57, v58, v59, v60, v61, v62, v63, v64, v65, v66, v67, v68, v69, v70, v71, v72, v73, v74, v75, v76, v77, v78, v79, v80, v81, v82, v83, v84, v85, v86, v87, v88, v89, v90, v91, v92, v93, v94, v95, v96, v97, v98, v99, v100, v101, v102, v103, v104, v105, v106, v107, v108, v109, v110, v111, v112, v113, v114, v115, v116, v117, v118, v119, v120, v121, v122, v123, v124, v125, v126, v127, v128, v129, v130, v131, v132, v133, v134, v135, v136, v137, v138, v139, v140, v141, v142, v143, v144, v145, v146, v147, v148, v149, v150, v151, v152, v153, v154, v155, v156, v157, v158, v159, v160, v161, v162, v163, v164, v165, v166, v167, v168, v169, v170, v171, v172, v173, v174, v175, v176, v177, v178, v179, v180, v181, v182, v183, v184, v185, v186, v187, v188, v189, v190, v191, v192], []⟩ w := by
  conv => arg 2; whnf
  go_wp2_with fail
  go_loopw [14] (fun i wr => ∃ j : Nat, j ≤ E.length ∧ i = .int .i64 j ∧ Lp w1 wr E (.slice aa E.length cc)) (fun i _ => E.length - (intOf i).toNat)
  case atStart => exact ⟨0, Nat.zero_le _, rfl, HL.out⟩
  case round =>
    obtain ⟨j, hj, rfl, hL⟩ := hrel
    clear HL
    by_cases hlt : j < E.length
    · obtain ⟨g, cs, rfl, hg, hcc, hc⟩ := hL.cells (by omega)
      obtain ⟨⟨b, t, l⟩, he⟩ : ∃ e, e = E[j] := ⟨_, rfl⟩
      have hm : (b, t, l) ∈ E := by rw [he]; exact List.getElem_mem _
      obtain ⟨c0, c1, _⟩ := hc j hlt
      rw [← he] at c0 c1
      have hgw : g < wr.heap.size := lt_of_heap hg
      have hgb : g ≠ b := fun e => by
        obtain ⟨cs', hk⟩ := (hL.nds _ hm).kind
        simp only at hk
        rw [← e, hg] at hk
        simp at hk
      have H1 := hid (read_once hL hm)
      have HM := hid hm
      have HG := hid hg
      have hjn : (j : Int) < E.length := by omega
      have HS0 := hid (And.intro c0 c1)
      clear hL hc he hm hg
      go_wp2_with fail
      go_region_held3 (fun w' : World => w'.cell? ⟨g, j * 3, none⟩ = some (.pointer (some ⟨b, 0, none⟩)) ∧ w'.cell? ⟨g, j * 3 + 1, none⟩ = some (.string t)) (first | exact HS0.out | exact HS1.out) ((go_at_call 17; refine H1.out.mono ?_; clear H1; rintro e w2 ⟨rfl, hL2, hk2⟩; have HS1 := hid (And.intro ((World.cell?_of_block (hk2 g hgw hgb)).trans HS0.out.1) ((World.cell?_of_block (hk2 g hgw hgb)).trans HS0.out.2)); have H2 := hid (read_once hL2 HM.out); have hgw2 : g < w2.heap.size := lt_of_cell HS1.out.1; clear hk2 hL2))
      go_wp2_with fail
      go_region_held3 (fun w' : World => w'.cell? ⟨g, j * 3, none⟩ = some (.pointer (some ⟨b, 0, none⟩)) ∧ w'.cell? ⟨g, j * 3 + 1, none⟩ = some (.string t)) (first | exact HS1.out | exact HS2.out) ((go_at_call 17; refine H2.out.mono ?_; clear H2; rintro e w3 ⟨rfl, hL3, hk3⟩; have HS2 := hid (And.intro ((World.cell?_of_block (hk3 g hgw2 hgb)).trans HS1.out.1) ((World.cell?_of_block (hk3 g hgw2 hgb)).trans HS1.out.2)); have HL3 := hid hL3; clear hk3 hL3))
      go_wp2_with fail
      go_roundw
      case rel => exact ⟨j + 1, by omega, by go_num, HL3.out⟩
      case measure => simp [intOf]; omega
    · have hjn : ¬ (j : Int) < E.length := by omega
      have HE := hid (below_then H0.out hL.blw)
      clear hL
      go_wp2_with fail
      go_ret
      exact ⟨rfl, HE.out⟩

end Go.Proofs.Qxb6002359a.M
