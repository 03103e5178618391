/- zzPair, zzSameAssigns. -/
import Derived.Test.Qxb6602268aNumb
import Derived.OpenShut
namespace Go.Proofs.Qxb6602268a.M
open Go.ChangeShapes Go.WideShapes Go.ChangeAt Go.RowKit Go.Maps
set_option linter.unusedVariables false

/-- zzPair's number -/
def prI (k v : Int) : Int := bits .or .i64 (k * 4294967296) (v % 4294967296)
theorem prI_wf (k v : Int) : (Lit.int .i64 (prI k v)).wf = true := Go.wf_bits .or .i64 _ _

theorem pair_any (w : World) (k v : Int) (h1 : -2147483648 ≤ k) (h2 : k ≤ 2147483647) (h3 : -2147483648 ≤ v) (h4 : v ≤ 2147483647) :
    Calls Try.prog 44 #[.int .i32 k, .int .i32 v] w (fun e w' => e = .returned (.int .i64 (prI k v)) ∧ w' = w) := by
  go_enter Try.func44, Try.ntmps44
  go_wp2_with fail
  go_ret
  exact ⟨rfl, rfl⟩

/-- how often E i = c for i below k -/
def cn (E : Nat → Int) : Nat → Int → Nat
  | 0, _ => 0
  | k + 1, c => cn E k c + if E k = c then 1 else 0
theorem cn_le (E : Nat → Int) : ∀ k c, cn E k c ≤ k
  | 0, _ => Nat.le_refl _
  | k + 1, c => by have := cn_le E k c; unfold cn; split <;> omega
theorem cn_mono (E : Nat → Int) (c : Int) {j : Nat} : ∀ {k : Nat}, j ≤ k → cn E j c ≤ cn E k c
  | 0, h => by obtain rfl : j = 0 := by omega
               exact Nat.le_refl _
  | k + 1, h => by
    by_cases e : j = k + 1
    · subst e; exact Nat.le_refl _
    · have := cn_mono E c (j := j) (k := k) (by omega)
      rw [cn]; omega

theorem cn_up {E : Nat → Int} {k n0 : Nat} (h : n0 = cn E k (E k)) (c : Int) : (if c = E k then (n0 : Int) + 1 else (cn E k c : Int)) = (cn E (k + 1) c : Int) := by
  rw [cn]
  by_cases e : c = E k
  · subst e; rw [h]; simp
  · rw [if_neg e, if_neg (fun x => e x.symm)]; simp

theorem zero3 (w : World) : (zeroValue 3).run Try.prog w = .ok (.int .i64 0) w := by kernel_rfl

/-- the map counts C c at c -/
def Counts (w : World) (mb s : Nat) (C : Int → Int) : Prop := ∃ f, Tab 2 (Lit.int .i64) w mb f s ∧ ∀ c, (f c).getD (.int .i64 0) = .int .i64 (C c)

theorem Counts.look {w : World} {mb s : Nat} {C : Int → Int} (h : Counts w mb s C) {c : Int} (hc : (Lit.int .i64 c).wf = true) : (Instr.lookup 88 (.map (some mb)) (.int .i64 c) false).run Try.prog w = .ok (.int .i64 (C c)) w := by
  obtain ⟨f, hT, hf⟩ := h
  rw [hT.look intKind Try.underlying88 (zero3 _) hc, hf]

theorem Counts.put {ops : Array Oper} {rest : List Oper} {o : Oper} {a : Act} {Q : Exit → Act → World → Prop} {w : World} {mb s : Nat} {C : Int → Int} (h : Counts w mb s C) (hs : s < maxLen) (hg : o.guard = none) (m x v : Operand) (hop : o.op = Op.mapUpdate 88 m x v)
    (hm : a.eval m = .map (some mb)) (c : Int) (hx : a.eval x = .int .i64 c) (hc : (Lit.int .i64 c).wf = true) (u : Int) (hv : a.eval v = .int .i64 u)
    (hK : ∀ w' s', Counts w' mb s' (fun d => if d = c then u else C d) → s' ≤ s + 1 → w.grownBy w' (some mb) → wpList Try.prog ops Q rest (a.put o.dst undef) w') : wpList Try.prog ops Q (o :: rest) a w := by
  obtain ⟨f, hT, hf⟩ := h
  refine wp_tab_put intKind Try.underlying88 hg m x v hop hT hs hm c hx hc _ hv fun w' hT' ht => hK w' _ ⟨_, hT', fun d => ?_⟩ (by split <;> omega) ht.grown
  by_cases e : d = c
  · subst e; rw [upd_same]; simp
  · rw [upd_other _ _ e, hf]; simp [e]

theorem Counts.congr {w : World} {mb s : Nat} {C C' : Int → Int} (h : Counts w mb s C) (e : ∀ c, C c = C' c) : Counts w mb s C' := by
  obtain ⟨f, hT, hf⟩ := h
  exact ⟨f, hT, fun c => by rw [hf, e]⟩

set_option maxRecDepth 100000 in
set_option maxHeartbeats 1600000 in
theorem sameAssigns_any (w : World) (a1 a2 a3 : Option Addr) (c1 c2 c3 bk bv sk sv : Nat) (L : List ByteArray) (GK GV K V : Nat → Int) (kv : Value) (P : Nat → Option Addr) (T : Nat → ByteArray) (FK FV : ByteArray → Option Value) (hL : L.length ≤ 1048576)
    (fL : Fits L) (fT : ∀ i, (T i).size ≤ maxLen) (i1 : Ints w a1 L.length GK) (i2 : Ints w a2 L.length GV) (hs : Strs w a3 L) (TK : Tab 9 slit w bk FK sk) (TV : Tab 9 slit w bv FV sv)
    (hkv : ∀ w', Below w.heap.size w w' → ∀ i, i < L.length → (Instr.lookup 46 kv (.string (nth L i)) false).run Try.prog w' = .ok (.pointer (P i)) w') (hP : ∀ i, i < L.length → ∀ x, P i = some x → w.cell? x = some (.string (T i)) ∧ FV (T i) = some (.int .i32 (V i)))
    (hP0 : ∀ i, i < L.length → P i = none → V i = 0) (hK : ∀ i, i < L.length → FK (nth L i) = some (.int .i32 (K i))) (hr : ∀ i, i < L.length → (-2147483648 ≤ K i ∧ K i ≤ 2147483647) ∧ (-2147483648 ≤ V i ∧ V i ≤ 2147483647) ∧ (-2147483648 ≤ GK i ∧ GK i ≤ 2147483647) ∧ (-2147483648 ≤ GV i ∧ GV i ≤ 2147483647))
    (hperm : ∀ c, cn (fun i => prI (GK i) (GV i)) L.length c = cn (fun i => prI (K i) (V i)) L.length c) :
    Calls Try.prog 32 #[.slice a1 L.length c1, .slice a2 L.length c2, .slice a3 L.length c3, kv, .map (some bk), .map (some bv)] w (fun e w' => e = .returned (.bool true) ∧ Below w.heap.size w w') := by
  have hmk := @run_makeMapH 88 2 3 Try.underlying88
  have HL : Hid (Fits L ∧ ∀ i, (T i).size ≤ maxLen) := ⟨fL, fT⟩
  have HI : Hid (Ints w a1 L.length GK ∧ Ints w a2 L.length GV ∧ Strs w a3 L) := ⟨i1, i2, hs⟩
  have HT : Hid (Tab 9 slit w bk FK sk ∧ Tab 9 slit w bv FV sv) := ⟨TK, TV⟩
  have HV : Hid (∀ w', Below w.heap.size w w' → ∀ i, i < L.length → (Instr.lookup 46 kv (.string (nth L i)) false).run Try.prog w' = .ok (.pointer (P i)) w') := hkv
  have HP : Hid (∀ i, i < L.length → ∀ x, P i = some x → w.cell? x = some (.string (T i)) ∧ FV (T i) = some (.int .i32 (V i))) := hP
  have HP0 : Hid (∀ i, i < L.length → P i = none → V i = 0) := hP0
  have HK : Hid (∀ i, i < L.length → FK (nth L i) = some (.int .i32 (K i))) := hK
  have HR : Hid (∀ i, i < L.length → (-2147483648 ≤ K i ∧ K i ≤ 2147483647) ∧ (-2147483648 ≤ V i ∧ V i ≤ 2147483647) ∧ (-2147483648 ≤ GK i ∧ GK i ≤ 2147483647) ∧ (-2147483648 ≤ GV i ∧ GV i ≤ 2147483647)) := hr
  obtain ⟨E, hE⟩ : ∃ E : Nat → Int, E = fun i => prI (K i) (V i) := ⟨_, rfl⟩
  obtain ⟨D, hD⟩ : ∃ D : Nat → Int, D = fun i => prI (GK i) (GV i) := ⟨_, rfl⟩
  rw [← hE, ← hD] at hperm
  have HE : Hid ((∀ i, E i = prI (K i) (V i)) ∧ ∀ i, D i = prI (GK i) (GV i)) := ⟨fun i => by rw [hE], fun i => by rw [hD]⟩
  have HQ : Hid (∀ c, cn D L.length c = cn E L.length c) := hperm
  clear fL fT i1 i2 hs TK TV hkv hP hP0 hK hr hE hD hperm
  go_enter Try.func32, Try.ntmps32
  go_wp2_with fail
  go_loopw [14] (fun i wr => ∃ k s : Nat, k ≤ L.length ∧ s ≤ k ∧ i = .int .i64 k ∧ Counts wr w.heap.size s (fun c => cn E k c) ∧ Below w.heap.size w wr) (fun i _ => (L.length - (intOf i).toNat))
  case atStart => exact ⟨0, 0, Nat.zero_le _, Nat.le_refl _, rfl, ⟨_, Tab.made w, fun c => rfl⟩, (Below.refl _ _).alloc (Nat.le_refl _) _⟩
  case round =>
    obtain ⟨k, s, hk, hsk, rfl, hC, hbl⟩ := hrel
    by_cases hlt : k < L.length
    · obtain ⟨b, o, rfl, hc⟩ := HI.out.2.2 (by omega)
      have q1 : wr.cell? ⟨b, o + k, none⟩ = some (.string (nth L k)) := (hbl.cell (lt_of_cell (hc k hlt))).trans (hc k hlt)
      have hkn : (k : Int) < L.length := by omega
      have hl1 := HV.out wr hbl k hlt
      have hl3 := (HT.out.1.below hbl).look strKind Try.underlying44 (zero21' _) (HL.out.1 k)
      rw [HK.out k hlt] at hl3
      simp only [Option.getD_some] at hl3
      have hr := HR.out k hlt
      have hcl : cn E k (E k) ≤ 1048576 := by have := cn_le E k (E k); omega
      have hl4 := hC.look (prI_wf (K k) (V k))
      rw [← HE.out.1 k] at hl4
      have HPA : Hid (∀ w1, Calls Try.prog 44 #[.int .i32 (K k), .int .i32 (V k)] w1 (fun e w' => e = .returned (.int .i64 (E k)) ∧ w' = w1)) := fun w1 => by
        rw [HE.out.1 k]; exact pair_any w1 _ _ hr.1.1 hr.1.2 hr.2.1.1 hr.2.1.2
      have hwf : (Lit.int .i64 (E k)).wf = true := by rw [HE.out.1 k]; exact prI_wf _ _
      have HC : Hid (Counts wr w.heap.size s (fun c => cn E k c)) := hC
      obtain ⟨n0, hn0⟩ : ∃ n0, n0 = cn E k (E k) := ⟨_, rfl⟩
      rw [← hn0] at hl4 hcl
      have HN : Hid (n0 = cn E k (E k)) := hn0
      clear hc hC hn0 hr
      cases hp : P k with
      | none =>
        rw [hp] at hl1
        have hv0 := HP0.out k hlt hp
        rw [hv0] at HPA
        clear hp
        go_wp2_with (first | (go_at_call 44; refine (HPA.out _).mono ?_; rintro e w1 ⟨rfl, rfl⟩) | (at_mapUpdate; refine HC.out.put (by unfold maxLen; omega) rfl _ _ _ rfl rfl (E k) rfl hwf ((n0 : Int) + 1) rfl ?_; intro w2 s2 hC2 hs2 hg2))
        go_roundw
        case rel => exact ⟨k + 1, s2, by omega, by omega, by go_num, hC2.congr (fun c => cn_up HN.out c), hbl.grown hg2 hbl.size (fun k h => by cases h; exact Nat.le_refl _)⟩
        case measure => simp [intOf]; omega
      | some x =>
        rw [hp] at hl1
        have hcx := (HP.out k hlt x hp)
        have cx : wr.cell? x = some (.string (T k)) := (hbl.cell (lt_of_cell hcx.1)).trans hcx.1
        have hl2 := (HT.out.2.below hbl).look strKind Try.underlying44 (zero21' _) (HL.out.2 k)
        rw [hcx.2] at hl2
        simp only [Option.getD_some] at hl2
        clear hp hcx
        go_wp2_with (first | (go_at_call 44; refine (HPA.out _).mono ?_; rintro e w1 ⟨rfl, rfl⟩) | (at_mapUpdate; refine HC.out.put (by unfold maxLen; omega) rfl _ _ _ rfl rfl (E k) rfl hwf ((n0 : Int) + 1) rfl ?_; intro w2 s2 hC2 hs2 hg2))
        go_roundw
        case rel => exact ⟨k + 1, s2, by omega, by omega, by go_num, hC2.congr (fun c => cn_up HN.out c), hbl.grown hg2 hbl.size (fun k h => by cases h; exact Nat.le_refl _)⟩
        case measure => simp [intOf]; omega
    · obtain rfl : k = L.length := by omega
      go_wp2_with fail
      go_loopw [17] (fun i wr => ∃ k s : Nat, k ≤ L.length ∧ s ≤ L.length + k ∧ i = .int .i64 k ∧ Counts wr w.heap.size s (fun c => (cn E L.length c : Int) - cn D k c) ∧ Below w.heap.size w wr) (fun i _ => (L.length - (intOf i).toNat))
      case atStart => exact ⟨0, s, Nat.zero_le _, hsk, rfl, hC.congr (fun c => by simp [cn]), hbl⟩
      case round =>
        rename_i wr0
        obtain ⟨k, s, hk, hsk, rfl, hC, hbl⟩ := hrel
        by_cases hlt : k < L.length
        · obtain ⟨b1, o1, rfl, hc1⟩ := HI.out.1 (by omega)
          obtain ⟨b2, o2, rfl, hc2⟩ := HI.out.2.1 (by omega)
          have q1 : wr.cell? ⟨b1, o1 + k, none⟩ = some (.int .i32 (GK k)) := (hbl.cell (lt_of_cell (hc1 k hlt))).trans (hc1 k hlt)
          have q2 : wr.cell? ⟨b2, o2 + k, none⟩ = some (.int .i32 (GV k)) := (hbl.cell (lt_of_cell (hc2 k hlt))).trans (hc2 k hlt)
          have hkn : (k : Int) < L.length := by omega
          have hr := HR.out k hlt
          have HPA : Hid (∀ w1, Calls Try.prog 44 #[.int .i32 (GK k), .int .i32 (GV k)] w1 (fun e w' => e = .returned (.int .i64 (D k)) ∧ w' = w1)) := fun w1 => by
            rw [HE.out.2 k]; exact pair_any w1 _ _ hr.2.2.1.1 hr.2.2.1.2 hr.2.2.2.1 hr.2.2.2.2
          have hwf : (Lit.int .i64 (D k)).wf = true := by rw [HE.out.2 k]; exact prI_wf _ _
          have g1 : cn E L.length (D k) ≤ 1048576 := by have := cn_le E L.length (D k); omega
          have g2 : cn D k (D k) + 1 ≤ cn E L.length (D k) := by
            have := cn_mono D (D k) (j := k + 1) (k := L.length) (by omega)
            rw [HQ.out, cn] at this
            simpa using this
          obtain ⟨m, hm⟩ : ∃ m : Nat, cn E L.length (D k) - cn D k (D k) = m + 1 := ⟨cn E L.length (D k) - cn D k (D k) - 1, by omega⟩
          have hl4 := hC.look hwf
          have em : ((cn E L.length (D k) : Int) - cn D k (D k)) = (m : Int) + 1 := by omega
          rw [em] at hl4
          have hm1 : m ≤ 1048576 := by omega
          have HC : Hid (Counts wr w.heap.size s (fun c => (cn E L.length c : Int) - cn D k c)) := hC
          have HM : Hid ((cn E L.length (D k) : Int) - cn D k (D k) = (m : Int) + 1) := em
          clear hc1 hc2 hC hr g1 g2 hm em
          go_wp2_with fail
          go_quiet ((go_at_call 44; exact Calls.quiet_of_same (HPA.out _)))
          have hl5 : (Instr.lookup 88 (.map (some w.heap.size)) (.int .i64 (D k)) false).run Try.prog (wr.drewN nq) = .ok (.int .i64 ((m : Int) + 1)) (wr.drewN nq) := by
            have h5 := (show Counts (wr.drewN nq) w.heap.size s _ from HC.out).look hwf
            rw [HM.out] at h5
            exact h5
          go_wp2_with (at_mapUpdate; refine Counts.put (show Counts (wr.drewN nq) w.heap.size s _ from HC.out) (by unfold maxLen; omega) rfl _ _ _ rfl rfl (D k) rfl hwf (m : Int) rfl ?_; intro w2 s2 hC2 hs2 hg2)
          go_roundw
          case rel =>
            refine ⟨k + 1, s2, by omega, by omega, by go_num, hC2.congr (fun c => ?_), (below_drewN hbl (q := nq)).grown hg2 hbl.size (fun k h => by cases h; exact Nat.le_refl _)⟩
            rw [cn]
            have := HM.out
            by_cases e : c = D k
            · subst e; rw [if_pos rfl, if_pos rfl]; omega
            · rw [if_neg e, if_neg (fun x => e x.symm)]; simp
          case measure => simp [intOf]; omega
        · obtain rfl : k = L.length := by omega
          go_wp2_with fail
          go_ret
          exact ⟨rfl, hbl⟩

end Go.Proofs.Qxb6602268a.M
