/- FnStringValueMatchesConcatenationOverScript: its script. -/
import Derived.Test.Qxb6002359aLoop2
namespace Go.Proofs.Qxb6002359a.M
open Go.RowKit Go.ChangeShapes Go.WideShapes Go.ChangeAt
set_option linter.unusedVariables false
set_option linter.unusedSimpArgs false

theorem upto41 (a : Addr) (n c m : Nat) (h : m ≤ c) (w : World) : (Instr.slice 35 (.slice (some a) n c) none (some (.int .i64 (m : Int))) none).run Try.prog w = .ok (.slice (some a) m c) w := by
  have e : Try.prog.elem 35 = 41 := by kernel_rfl
  have u : Try.prog.underlying 35 = some (.slice (Try.prog.elem 35)) := by rw [e]; exact Try.underlying35
  have h2 : (sizeOf (Try.prog.elem 35)).run Try.prog w = .ok 3 w := by rw [e]; exact Try.sizeOf41 w
  rw [run_slice_h (P := Try.prog) w 35 (some a) n c u .i64 (m : Int) (by omega) (by omega), h2]
  have h3 : sliced (some a) 0 (m : Int).toNat c 3 = .slice (some a) m c := by
    unfold sliced
    simp [Addr.add]
  show Result.ok (sliced (some a) 0 (m : Int).toNat c 3) w = _
  rw [h3]

set_option maxRecDepth 1000000 in
set_option maxHeartbeats 4000000 in
theorem main_loop (w0 w1 w : World) (a a2 a5 : Option Addr) (n n2 c c2 c5 : Nat) (S : Nat → BA) (Z : Nat → Int) (hn : n ≤ 1024) (hn2 : n2 ≤ 1024) (HS : Hid (Strs w1 a n S)) (HZ : Hid (Bytes w1 a2 n2 Z)) (hZ : ∀ i, i < n2 → 0 ≤ Z i ∧ Z i ≤ 255) (HL0 : Hid (Lp w1 w [] (.slice a5 0 c5))) (H0 : Hid (Below w0.heap.size w0 w1))
    (v2 v3 v4 v7 v8 v9 v10 v11 v12 v13 v14 v15 v16 v17 v18 v19 v20 v21 v22 v23 v24 v25 v26 v27 v28 v29 v30 v31 v32 v33 v34 v35 v36 v37 v38 v39 v40 v41 v42 v43 v44 v45 v46 v47 v48 v49 v50 v51 v52 v53 v54 v55 v56 v57 v58 v59 v60 v61 v62 v63 v64 v65 v66 v67 v68 v69 v70 v71 v72 v73 v74 v75 v76 v77 v78 v79 v80 v81 v82 v83 v84 v85 v86 v87 v88 v89 v90 v91 v92 v93 v94 v95 v96 v97 v98 v99 v100 v101 v102 v103 v104 v105 v106 v107 v108 v109 v110 v111 v112 v113 v114 v115 v116 v117 v118 v119 v120 v121 v122 v123 v124 v125 v126 v127 v128 v129 v130 v131 v132 v133 v134 v135 v136 v137 v138 v139 v140 v141 v142 v143 v144 v145 v146 v147 v148 v149 v150 v151 v152 v153 v154 v155 v156 v157 v158 v159 v160 v161 v162 v163 v164 v165 v166 v167 v168 v169 v170 v171 v172 v173 v174 v175 v176 v177 v178 v179 v180 v181 v182 v183 v184 v185 v186 v187 v188 v189 v190 v191 v192 : Value) :
    Code.wp Try.prog ((Try.f5.body.bind (restAt 11)).getD .skip) (bodyPost Try.prog Try.f5 (fun e w' => e = .returned (.bool true) ∧ Below w0.heap.size w0 w')) ⟨#[.slice a n c, .slice a2 n2 c2, v2, v3, v4, .slice a5 0 c5, .int .i64 0, v7, v8, v9, v10, v11, v12, v13, v14, v15, v16, v17, v18, v19, v20, v21, v22, v23, v24, v25, v26, v27, v28, v29, v30, v31, v32, v33, v34, v35, v36, v37, v38, v39, v40, v41, v42, v43, v44, v45, v46, v47, v48, v49, v50, v51, v52, v53, v54, v55, v56, v57, v58, v59, v60, v61, v62, v63, v64, v65, v66, v67, v68, v69, v70, v71, v72, v73, v74, v75, v76, v77, v78, v79, v80, v81, v82, v83, v84, v85, v86, v87, v88, v89, v90, v91, v92, v93, v94, v95, v96, v97, v98, v99, v100, v101, v102, v103, v104, v105, v106, v107, v108, v109, v110, v111, v112, v113, v114, v115, v116, v117, v118, v119, v120, v121, v122, v123, v124, v125, v126, v127, v128, v129, v130, v131, v132, v133, v134, v135, v136, v137, v138, v139, v140, v141, v142, v143, v144, v145, v146, v147, v148, v149, v150, v151, v152, v153, v154, v155, v156, v157, v158, v159, v160, v161, v162, v163, v164, v165, v166, v167, v168, v169, v170, v171, v172, v173, v174, v175, v176, v177, v178, v179, v180, v181, v182, v183, v184, v185, v186, v187, v188, v189, v190, v191, v192], []⟩ w := by
  conv => arg 2; whnf
  go_upto_region 11 with fail
  rename_i K1 hh1 K0 hh0
  have HK : Hid (∀ (a : Act) (w : World), _ → K1 a w) := hh1
  clear hh1
  go_wp2_with fail
  go_loopw [5, 6, 7] (fun v k i wr => ∃ (E : List Ent) (kk ii : Nat), ii ≤ n2 ∧ E.length ≤ ii ∧ kk ≤ ii ∧ Lp w1 wr E v ∧ k = .int .i64 kk ∧ i = .int .i64 ii) (fun _ _ i _ => n2 - (intOf i).toNat)
  case atStart => exact ⟨[], 0, 0, Nat.zero_le _, Nat.le_refl _, Nat.le_refl _, HL0.out, rfl, rfl⟩
  case round =>
    obtain ⟨E, kk, ii, hii, hEi, hki, hL, rfl, rfl⟩ := hrel
    clear HL0
    obtain ⟨aa, cc, rfl⟩ := hL.form
    by_cases hlt : ii < n2
    rotate_left
    · have hin : ¬ (ii : Int) < n2 := by omega
      have HL := hid hL
      clear hL hZ
      go_wp2_with fail
      exact HK.out _ _ (last_loop w0 w1 wr E aa cc (by omega) HL H0 _ _ _ _ _ _ _ _ _ _ _ _ _ _ _ _ _ _ _ _ _ _ _ _ _ _ _ _ _ _ _ _ _ _ _ _ _ _ _ _ _ _ _ _ _ _ _ _ _ _ _ _ _ _ _ _ _ _ _ _ _ _ _ _ _ _ _ _ _ _ _ _ _ _ _ _ _ _ _ _ _ _ _ _ _ _ _ _ _ _ _ _ _ _ _ _ _ _ _ _ _ _ _ _ _ _ _ _ _ _ _ _ _ _ _ _ _ _ _ _ _ _ _ _ _ _ _ _ _ _ _ _ _ _ _ _ _ _ _ _ _ _ _ _ _ _ _ _ _ _ _ _ _ _ _ _ _ _ _ _ _ _ _ _ _ _ _ _ _ _ _ _ _ _ _ _ _ _ _ _ _ _ _ _ _ _ _ _ _ _ _ _)
    obtain ⟨sb, so, rfl, hcz⟩ := HZ.out (by omega)
    have cZ := hcz ii hlt
    have cz : wr.cell? ⟨sb, so + ii, none⟩ = some (.int .u8 (Z ii)) := (hL.blw.cell (lt_of_cell cZ)).trans cZ
    have hz := hZ ii hlt
    obtain ⟨z, hzz⟩ : ∃ z, z = Z ii := ⟨_, rfl⟩
    rw [← hzz] at cz hz
    have hin : (ii : Int) < n2 := by omega
    clear hcz cZ hzz hZ
    have h4 : z % 4 = 0 ∨ z % 4 = 1 ∨ z % 4 = 2 ∨ z % 4 = 3 := by omega
    have htm : z.tmod 4 = z % 4 := by rw [Int.tmod_eq_emod_of_nonneg (by omega)]
    rcases h4 with hz4 | hz4 | hz4 | hz4
    · rw [hz4] at htm
      by_cases hn0 : n = 0
      · subst hn0
        have HL := hid hL
        clear hL
        go_wp2_with fail
        go_roundw
        case rel => exact ⟨E, kk, ii + 1, by omega, by omega, by omega, HL.out, by go_num, by go_num⟩
        case measure => simp [intOf]; omega
      · obtain ⟨lb, lo, rfl, hcs⟩ := HS.out (by omega)
        have hkn : kk % n < n := Nat.mod_lt _ (by omega)
        have cS : w1.cell? ⟨lb, lo + kk % n, none⟩ = some (.string (S (kk % n))) := hcs _ hkn
        obtain ⟨s, hs⟩ : ∃ s, s = S (kk % n) := ⟨_, rfl⟩
        rw [← hs] at cS
        have cs : wr.cell? ⟨lb, lo + kk % n, none⟩ = some (.string s) := (hL.blw.cell (lt_of_cell cS)).trans cS
        have n0 : (n : Int) ≠ 0 := by omega
        have nb0 : ((n : Int) == 0) = false := by rw [beq_eq_false_iff_ne]; exact n0
        clear hs cS hcs
        by_cases h4 : s.size ≤ 4096
        rotate_left
        · have h4' : (s.size : Int) > 4096 := by omega
          have HL := hid hL
          clear hL
          go_wp2_with fail
          go_roundw
          case rel => exact ⟨E, kk + 1, ii + 1, by omega, by omega, by omega, HL.out, by go_num, by go_num⟩
          case measure => simp [intOf]; omega
        · have h4' : ¬ (s.size : Int) > 4096 := by omega
          have HL := hid hL
          have C15 := hid (zzLeaf_any wr s)
          clear hL
          obtain ⟨i0, hi, hz0, hz1, hz2⟩ := info_parts info41
          go_wp2_with (first | (go_at_call 15; refine C15.out.mono ?_; clear C15; rintro e w2 ⟨b, rfl, hnd, hb, hbb⟩; have HL2 := hid (HL.out.below hb); have HN2 := hid hnd; have hwb : w1.heap.size ≤ b := Nat.le_trans HL.out.blw.size hbb; have hbl : w1.heap.size ≤ w2.heap.size := HL2.out.blw.size; clear HL hnd hb) | (at_builtin; refine wpList_append_own_at _ rfl _ _ 35 rfl w1.heap.size 41 i0 (.agg #[.pointer none, .string ByteArray.empty, .int .i64 0]) 3 32 Try.underlying35 hi hz0 hz1 hz2 rfl (by decide) _ _ _ rfl (HL2.out.own.alloc _) ⟨w2.heap.size, 0, none⟩ 1 1 (ent (b, s, 1)) rfl rfl (three_new _ (b, s, 1) (by simp)) (three_one _) (by unfold maxLen; omega) (by omega) (by simp; omega) ?_; intro v6 w6 own6 g6 nil6 hb6))
          have hbA : Below w2.heap.size w2 (w2.alloc (.cells #[.pointer (some ⟨b, 0, none⟩), .string s, .int .i64 1] 41)) := (Below.refl _ _).alloc (Nat.le_refl _) _
          have HP := hid ((HL2.out.below hbA).pushed (e := (b, s, 1)) (HN2.out.keep fun i cs h => (hbA.block i (lt_of_heap h)).trans h) ⟨h4, (by omega : 1 ≤ 4096), hwb⟩ own6 g6)
          clear own6 g6 nil6 hb6 hbA
          go_wp2_with fail
          go_roundw
          case rel => exact ⟨E ++ [(b, s, 1)], kk + 1, ii + 1, by omega, by simp; omega, by omega, HP.out, by go_num, by go_num⟩
          case measure => simp [intOf]; omega
    · rw [hz4] at htm
      by_cases hE : E.length < 2
      · have hE' : (E.length : Int) < 2 := by omega
        have HL := hid hL
        clear hL
        go_wp2_with fail
        go_roundw
        case rel => exact ⟨E, kk, ii + 1, by omega, by omega, by omega, HL.out, by go_num, by go_num⟩
        case measure => simp [intOf]; omega
      obtain ⟨m, hm⟩ : ∃ m, E.length = m + 2 := ⟨E.length - 2, by omega⟩
      obtain ⟨g, cs, rfl, hg, hcc, hc⟩ := hL.cells (by omega)
      obtain ⟨⟨x, t1, l1⟩, he1⟩ : ∃ e, e = E[m] := ⟨_, rfl⟩
      obtain ⟨⟨y, t2, l2⟩, he2⟩ : ∃ e, e = E[m + 1] := ⟨_, rfl⟩
      have hm1 : (x, t1, l1) ∈ E := by rw [he1]; exact List.getElem_mem _
      have hm2 : (y, t2, l2) ∈ E := by rw [he2]; exact List.getElem_mem _
      obtain ⟨c0, c1, c2⟩ := hc m (by omega)
      obtain ⟨d0, d1, d2⟩ := hc (m + 1) (by omega)
      rw [← he1] at c0 c1 c2
      rw [← he2] at d0 d1 d2
      have hgw : g < wr.heap.size := lt_of_heap hg
      have hm8 : m ≤ 1024 := by omega
      have hE' : ¬ ((m : Int) + 2) < 2 := by omega
      have s1 := hL.sm _ hm1
      have s2 := hL.sm _ hm2
      simp only at s1 s2
      have q1 := s1.1
      have q2 := s2.1
      have q3 := s1.2.1
      have q4 := s2.2.1
      have HL := hid hL
      have HM := hid (And.intro hm1 hm2)
      have HE := hid hm
      have HG := hid hg
      have hsl := fun w => upto41 ⟨g, 0, none⟩ (m + 2) cc m (by omega) w
      have bW : Below wr.heap.size wr ((wr.alloc (.cells #[.pointer (some ⟨x, 0, none⟩), .string t1, .int .i64 l1] 41)).alloc (.cells #[.pointer (some ⟨y, 0, none⟩), .string t2, .int .i64 l2] 41)) := ((Below.refl _ _).alloc (Nat.le_refl _) _).alloc (by simp) _
      have HBW := hid bW
      obtain ⟨i0, hi, hz0, hz1, hz2⟩ := info_parts info41
      clear hL hc he1 he2 hm1 hm2 hg s1 s2 bW
      rw [hm]
      clear hm
      by_cases h5 : t1.size + t2.size ≤ 4096
      rotate_left
      · have h5' : (t1.size : Int) + t2.size > 4096 := by omega
        go_wp2_with fail
        go_roundw
        case rel => exact ⟨E, kk, ii + 1, by omega, by omega, by omega, by rw [← HE.out]; exact HL.out.below HBW.out, by go_num, by go_num⟩
        case measure => simp [intOf]; omega
      have h5' : ¬ (t1.size : Int) + t2.size > 4096 := by omega
      by_cases h6 : l1 + l2 ≤ 4096
      rotate_left
      · have h6' : (l1 : Int) + l2 > 4096 := by omega
        go_wp2_with fail
        go_roundw
        case rel => exact ⟨E, kk, ii + 1, by omega, by omega, by omega, by rw [← HE.out]; exact HL.out.below HBW.out, by go_num, by go_num⟩
        case measure => simp [intOf]; omega
      have h6' : ¬ (l1 : Int) + l2 > 4096 := by omega
      have hcat : ¬ 9223372036854775807 < t1.size + t2.size := by omega
      have hwl : IntKind.i64.wrap ((l1 : Int) + l2) = (l1 : Int) + l2 := by rw [IntKind.wrap_i64]; omega
      go_wp2_with fail
      obtain ⟨W, hW⟩ : ∃ W, W = (wr.alloc (.cells #[.pointer (some ⟨x, 0, none⟩), .string t1, .int .i64 l1] 41)).alloc (.cells #[.pointer (some ⟨y, 0, none⟩), .string t2, .int .i64 l2] 41) := ⟨_, rfl⟩
      rw [← hW]
      rw [← hW] at HBW
      have zW : W.heap.size = wr.heap.size + 2 := by rw [hW]; simp
      have eA : W.heap[wr.heap.size]? = some (.cells #[.pointer (some ⟨x, 0, none⟩), .string t1, .int .i64 l1] 41 (0, 0)) := by rw [hW]; exact heap_alloc2_old _ _ _
      have eB : W.heap[wr.heap.size + 1]? = some (.cells #[.pointer (some ⟨y, 0, none⟩), .string t2, .int .i64 l2] 41 (0, 0)) := by rw [hW]; exact heap_alloc2_new _ _ _
      have HSW : Hid (∀ w' : World, (∀ i, i < W.heap.size → i ≠ g → w'.heap[i]? = W.heap[i]?) → (w'.cell? ⟨wr.heap.size, 0, none⟩ = some (.pointer (some ⟨x, 0, none⟩)) ∧ w'.cell? ⟨wr.heap.size, 1, none⟩ = some (.string t1) ∧ w'.cell? ⟨wr.heap.size, 2, none⟩ = some (.int .i64 l1) ∧ w'.cell? ⟨wr.heap.size + 1, 0, none⟩ = some (.pointer (some ⟨y, 0, none⟩)) ∧ w'.cell? ⟨wr.heap.size + 1, 1, none⟩ = some (.string t2) ∧ w'.cell? ⟨wr.heap.size + 1, 2, none⟩ = some (.int .i64 l2))) := fun w' hk => by
        have kA := (hk _ (by omega) (by omega)).trans eA
        have kB := (hk _ (by omega) (by omega)).trans eB
        exact ⟨by rw [cell_heap kA]; rfl, by rw [cell_heap kA]; rfl, by rw [cell_heap kA]; rfl, by rw [cell_heap kB]; rfl, by rw [cell_heap kB]; rfl, by rw [cell_heap kB]; rfl⟩
      have HLW := hid (HL.out.below HBW.out)
      have hE0 := HE.out
      have HLT := hid (HLW.out.take (m := m) (by omega) (by omega))
      have C16 := hid (zzCat_any W.drew x y l1 l2 t1 t2 ((HLW.out.nds _ HM.out.1).keep fun i cs h => h) ((HLW.out.nds _ HM.out.2).keep fun i cs h => h) h5)
      have hw1W := HLW.out.blw.size
      clear hW eA eB hE0
      go_region_held3 (fun w' : World => w'.cell? ⟨wr.heap.size, 0, none⟩ = some (.pointer (some ⟨x, 0, none⟩)) ∧ w'.cell? ⟨wr.heap.size, 1, none⟩ = some (.string t1) ∧ w'.cell? ⟨wr.heap.size, 2, none⟩ = some (.int .i64 l1) ∧ w'.cell? ⟨wr.heap.size + 1, 0, none⟩ = some (.pointer (some ⟨y, 0, none⟩)) ∧ w'.cell? ⟨wr.heap.size + 1, 1, none⟩ = some (.string t2) ∧ w'.cell? ⟨wr.heap.size + 1, 2, none⟩ = some (.int .i64 l2)) (first | exact HSW.out _ (fun i hi _ => rfl) | exact HSW.out _ (fun i hi _ => hk2 i hi) | exact HSW.out _ (fun i hi _ => (Lib.alloc_old _ _ _ (Nat.lt_of_lt_of_le hi hz2w)).trans (hk2 i hi)) | exact s6) ((first | (go_at_call 16; refine C16.out.mono ?_; clear C16; rintro e w2 ⟨bn, rfl, hnd, hb, hbb⟩; have HL2 := hid (HLT.out.below (w' := w2) ⟨hb.os, hb.tape, hb.output, hb.size, hb.block⟩); have HN2 := hid hnd; have hz2w : W.heap.size ≤ w2.heap.size := hb.size; have hk2 : ∀ i, i < W.heap.size → w2.heap[i]? = W.heap[i]? := hb.block; have hwb : w1.heap.size ≤ bn := Nat.le_trans hw1W hbb; clear hnd hb hbb) | (rw [if_pos (by rfl)]; refine wp_append_own _ _ _ 35 rfl w1.heap.size 41 i0 (.agg #[.pointer none, .string ByteArray.empty, .int .i64 0]) 3 32 Try.underlying35 hi hz0 hz1 hz2 rfl (by decide) (.slice (some ⟨g, 0, none⟩) m cc) _ _ rfl (HL2.out.own.alloc _) ⟨w2.heap.size, 0, none⟩ 1 1 (ent (bn, t1 ++ t2, l1 + l2)) rfl rfl (three_new _ (bn, t1 ++ t2, l1 + l2) (by simp)) (three_one _) (by unfold maxLen; simp; omega) (by simp; omega) (by simp; omega) ?_; intro v6 w6 own6 g6 nil6; have s6 := HSW.out w6 (fun i hi hne => (g6.block i (by simp; omega) (by simpa [Value.ownBlock] using hne)).trans ((Lib.alloc_old _ _ _ (Nat.lt_of_lt_of_le hi hz2w)).trans (hk2 i hi))))))
      have hbA : Below w2.heap.size w2 (w2.alloc (.cells #[.pointer (some ⟨bn, 0, none⟩), .string (t1 ++ t2), .int .i64 ((l1 + l2 : Nat) : Int)] 41)) := (Below.refl _ _).alloc (Nat.le_refl _) _
      have HP := hid ((HL2.out.below hbA).pushed (e := (bn, t1 ++ t2, l1 + l2)) (HN2.out.keep fun i cs h => (hbA.block i (lt_of_heap h)).trans h) ⟨by simp only [ByteArray.size_append]; omega, h6, hwb⟩ own6 ⟨g6.os, g6.tape, g6.output, g6.size, g6.block⟩)
      have hml := HE.out
      clear own6 g6 nil6 hbA s6
      go_wp2_with fail
      go_roundw
      case rel => exact ⟨E.take m ++ [(bn, t1 ++ t2, l1 + l2)], kk, ii + 1, by omega, by simp; omega, by omega, HP.out, by go_num, by go_num⟩
      case measure => simp [intOf]; omega
    · rw [hz4] at htm
      by_cases hE : E.length = 0
      · have hE' : (E.length : Int) < 1 := by omega
        have HL := hid hL
        clear hL
        go_wp2_with fail
        go_roundw
        case rel => exact ⟨E, kk, ii + 1, by omega, by omega, by omega, HL.out, by go_num, by go_num⟩
        case measure => simp [intOf]; omega
      obtain ⟨m, hm⟩ : ∃ m, E.length = m + 1 := ⟨E.length - 1, by omega⟩
      obtain ⟨g, cs, rfl, hg, hcc, hc⟩ := hL.cells (by omega)
      obtain ⟨⟨b, t, l⟩, he⟩ : ∃ e, e = E[m] := ⟨_, rfl⟩
      have hmem : (b, t, l) ∈ E := by rw [he]; exact List.getElem_mem _
      obtain ⟨c0, c1, c2⟩ := hc m (by omega)
      rw [← he] at c0 c1 c2
      have hgw : g < wr.heap.size := lt_of_heap hg
      have hm8 : m ≤ 1024 := by omega
      have hE' : ¬ ((m : Int) + 1) < 1 := by omega
      have hx1 : (m : Int) < (m : Int) + 1 := by omega
      have hx2 : (0 : Int) ≤ (m : Int) := by omega
      have hw1 : IntKind.i64.wrap ((m : Int) + 1 - 1) = (m : Int) := by rw [IntKind.wrap_i64]; omega
      have hw2 : IntKind.i64.wrap (m : Int) = (m : Int) := by rw [IntKind.wrap_i64]; omega
      have HL := hid hL
      have HM := hid hmem
      have HE := hid hm
      obtain ⟨i0, hi, hz0, hz1, hz2⟩ := info_parts info41
      have own0 := hL.own
      rw [hm] at own0 ⊢
      have HO := hid own0
      have hwl := hL.blw.size
      clear hL hc he hmem hg own0 hm
      go_wp2_with (at_builtin; refine wpList_append_own_at _ rfl _ _ 35 rfl w1.heap.size 41 i0 (.agg #[.pointer none, .string ByteArray.empty, .int .i64 0]) 3 32 Try.underlying35 hi hz0 hz1 hz2 rfl (by decide) _ _ _ rfl ((HO.out.alloc _).alloc _) ⟨wr.heap.size + 1, 0, none⟩ 1 1 (ent (b, t, l)) rfl rfl (three_new _ (b, t, l) (by simp)) (three_one _) (by unfold maxLen; omega) (by omega) (by simp; omega) ?_; intro v6 w6 own6 g6 nil6 hb6)
      have hbA : Below wr.heap.size wr ((wr.alloc (.cells #[.pointer (some ⟨b, 0, none⟩), .string t, .int .i64 l] 41)).alloc (.cells #[.pointer (some ⟨b, 0, none⟩), .string t, .int .i64 l] 41)) := ((Below.refl _ _).alloc (Nat.le_refl _) _).alloc (by simp) _
      have HP := hid ((HL.out.below hbA).pushed (e := (b, t, l)) ((HL.out.nds _ HM.out).keep fun i cs h => (hbA.block i (lt_of_heap h)).trans h) (HL.out.sm _ HM.out) (by rw [HE.out]; exact own6) (by rw [HE.out]; exact g6))
      have hml := HE.out
      clear own6 g6 nil6 hb6 hbA
      go_wp2_with fail
      go_roundw
      case rel => exact ⟨E ++ [(b, t, l)], kk, ii + 1, by omega, by simp; omega, by omega, HP.out, by go_num, by go_num⟩
      case measure => simp [intOf]; omega
    · rw [hz4] at htm
      by_cases hE : E.length = 0
      · have hE' : (E.length : Int) < 1 := by omega
        have HL := hid hL
        clear hL
        go_wp2_with fail
        go_roundw
        case rel => exact ⟨E, kk, ii + 1, by omega, by omega, by omega, HL.out, by go_num, by go_num⟩
        case measure => simp [intOf]; omega
      obtain ⟨m, hm⟩ : ∃ m, E.length = m + 1 := ⟨E.length - 1, by omega⟩
      obtain ⟨g, cs, rfl, hg, hcc, hc⟩ := hL.cells (by omega)
      obtain ⟨⟨b, t, l⟩, he⟩ : ∃ e, e = E[m] := ⟨_, rfl⟩
      have hmem : (b, t, l) ∈ E := by rw [he]; exact List.getElem_mem _
      obtain ⟨c0, c1, c2⟩ := hc m (by omega)
      rw [← he] at c0 c1 c2
      have hgw : g < wr.heap.size := lt_of_heap hg
      have hm8 : m ≤ 1024 := by omega
      have hE' : ¬ ((m : Int) + 1) < 1 := by omega
      have hx1 : (m : Int) < (m : Int) + 1 := by omega
      have hx2 : (0 : Int) ≤ (m : Int) := by omega
      have hw1 : IntKind.i64.wrap ((m : Int) + 1 - 1) = (m : Int) := by rw [IntKind.wrap_i64]; omega
      have hw2 : IntKind.i64.wrap (m : Int) = (m : Int) := by rw [IntKind.wrap_i64]; omega
      have hgb : g ≠ b := fun e => by
        obtain ⟨cs', hk⟩ := (hL.nds _ hmem).kind
        simp only at hk
        rw [← e, hg] at hk
        simp at hk
      have H1 := hid (read_once hL hmem)
      have HM := hid hmem
      have HS0 := hid (And.intro c0 c1)
      have HE := hid hm
      clear hL hc he hmem hg c2
      rw [hm]
      rw [hm] at H1
      clear hm
      go_wp2_with fail
      go_region_held3 (fun w' : World => w'.cell? ⟨g, m * 3, none⟩ = some (.pointer (some ⟨b, 0, none⟩)) ∧ w'.cell? ⟨g, m * 3 + 1, none⟩ = some (.string t)) (first | exact HS0.out | exact HS1.out) ((go_at_call 17; refine H1.out.mono ?_; clear H1; rintro e w2 ⟨rfl, hL2, hk2⟩; have HS1 := hid (And.intro ((World.cell?_of_block (hk2 g hgw hgb)).trans HS0.out.1) ((World.cell?_of_block (hk2 g hgw hgb)).trans HS0.out.2)); have HL2 := hid hL2; clear hk2 hL2))
      go_wp2_with fail
      go_roundw
      case rel => exact ⟨E, kk, ii + 1, by omega, by omega, by omega, HL2.out, by go_num, by go_num⟩
      case measure => simp [intOf]; omega

end Go.Proofs.Qxb6002359a.M
