/- The callees' contracts at the law's own lists, maps and numberings. -/
import Derived.Test.Qxb6602268aPlain7
import Derived.Test.Qxb6602268aDoors
namespace Go.Proofs.Qxb6602268a.M
open Go.ChangeShapes Go.WideShapes Go.ChangeAt Go.RowKit Go.Maps
set_option linter.unusedVariables false

/-- is x one of the set of N? -/
noncomputable def inS (N : List BA) (x : BA) : Bool := (bf (nth N) (fun _ => .bool true) N.length x).isSome
theorem inS_false (N : List BA) (x : BA) : inS N x = false ↔ x ∉ N := by
  unfold inS
  rw [← bf_mem N (fun _ => .bool true) x]
  cases (bf (nth N) (fun _ => .bool true) N.length x) <;> simp
theorem set_look {w : World} {b s : Nat} {N : List BA} (h : Tab 9 slit w b (bf (nth N) (fun _ => .bool true) N.length) s) {x : BA} (hx : x.size ≤ maxLen) : (Instr.lookup 59 (.map (some b)) (.string x) false).run Try.prog w = .ok (.bool (inS N x)) w := by
  rw [h.look strKind Try.underlying59 (zero4 w) hx]
  unfold inS
  cases hv : bf (nth N) (fun _ => .bool true) N.length x with
  | none => rfl
  | some u =>
    obtain ⟨_, _, _, rfl⟩ := bf_some _ _ _ _ _ hv
    rfl
theorem nil_look59 (w : World) {x : BA} (hx : x.size ≤ maxLen) : (Instr.lookup 59 (.map none) (.string x) false).run Try.prog w = .ok (.bool false) w := by
  have := Maps.look_nil (w := w) false strKind.keyed Try.underlying59 (zero4 w) (strKind.mkd x hx)
  simpa using this

/-! ### the two numberings -/
section
variable {B : Nat} {w : World} {rv wv : Value} {fr fw : BA → Option Value} {tr tw : BA → Option BA} {Lr Lw : List BA} {sr sw : Nat}

theorem keys_two (K0 : BA → Option Int) (st : NS) (hst : st.kf = K0) (kr : Kv B w rv fr tr Lr sr) (kw : Kv B w wv fw tw Lw sw) {visR visW : List BA} (rn : visR.Nodup) (rk : ∀ x, x ∈ visR ↔ (fr x).isSome = true) (wn : visW.Nodup) (wk : ∀ x, x ∈ visW ↔ (fw x).isSome = true) :
    Two6 K0 (nrun tr st visR).kf (nrun tw (nrun tr st visR) visW).kf st.ks (nrun tw (nrun tr st visR) visW).ks 0 visR visW (frsh (dist Lr) (IT K0) (fun _ => false)) (frsh (dist Lw) (IT K0) (inS (dist Lr))) := by
  rw [(nrun_keys tw visW _).1, (nrun_keys tw visW _).2, (nrun_keys tr visR st).1, (nrun_keys tr visR st).2, hst]
  refine two_groups K0 st.ks 0 visR visW _ _ (frsh_nodup (dist_nodup _) _ _) (frsh_nodup (dist_nodup _) _ _) (fun x => ?_) (fun x => ?_)
  · rw [frsh_mem, dist_mem, none_of_IT, rk, kr.keys]; simp
  · rw [frsh_mem, dist_mem, none_of_IT, inS_false, dist_mem, wk, kw.keys, rk, kr.keys]

theorem mem_fm {tx : BA → Option BA} {f : BA → Option Value} {v : Value} {L : List BA} {s : Nat} (k : Kv B w v f tx L s) {vis : List BA} (h : ∀ x, x ∈ vis ↔ (f x).isSome = true) (t : BA) : t ∈ vis.filterMap tx ↔ t ∈ texts (dist L) f tx := by
  rw [texts_mem k (dist L) (fun x hx => (dist_mem L x).1 hx), List.mem_filterMap]
  constructor
  · rintro ⟨x, hx, e⟩; exact ⟨x, (dist_mem L x).2 ((k.keys x).1 ((h x).1 hx)), e⟩
  · rintro ⟨x, hx, e⟩; exact ⟨x, (h x).2 ((k.keys x).2 ((dist_mem L x).1 hx)), e⟩

theorem vals_two (V0 : BA → Option Int) (st : NS) (hst : st.vf = V0) (kr : Kv B w rv fr tr Lr sr) (kw : Kv B w wv fw tw Lw sw) {visR visW : List BA} (rk : ∀ x, x ∈ visR ↔ (fr x).isSome = true) (wk : ∀ x, x ∈ visW ↔ (fw x).isSome = true) :
    Two6 V0 (nrun tr st visR).vf (nrun tw (nrun tr st visR) visW).vf st.vs (nrun tw (nrun tr st visR) visW).vs 1 (visR.filterMap tr) (visW.filterMap tw) (frsh (texts (dist Lr) fr tr) (IT V0) (fun _ => false)) (frsh (texts (dist Lw) fw tw) (IT V0) (inS (texts (dist Lr) fr tr))) := by
  rw [(nrun_vals tw visW _).1, (nrun_vals tw visW _).2, (nrun_vals tr visR st).1, (nrun_vals tr visR st).2, hst]
  refine two_groups V0 st.vs 1 _ _ _ _ (frsh_nodup (texts_nodup _ _ _) _ _) (frsh_nodup (texts_nodup _ _ _) _ _) (fun x => ?_) (fun x => ?_)
  · rw [frsh_mem, none_of_IT, mem_fm kr rk]; simp
  · rw [frsh_mem, none_of_IT, inS_false, mem_fm kw wk, mem_fm kr rk]
end

/-- zzNumberingHolds where the numbering has gone through the names -/
theorem numb_call (w : World) (aO aA aB : Option Addr) (cO cA cB ba bb sa sb fs : Nat) (O A B lR lW : List BA) (F0 F1 F2 : BA → Option Int) (h6 : Two6 F0 F1 F2 sb sa fs lR lW A B) (hO : O.length ≤ 1048576) (hA : A.length ≤ 1048576) (hB : B.length ≤ 1048576) (hsb : sb ≤ 1048576) (hfi : fs ≤ 1)
    (fO : Fits O) (fA : Fits A) (fB : Fits B) (SO : Strs w aO O) (SA : Strs w aA A) (SB : Strs w aB B) (TA : Tab 9 slit w ba (IT F2) sa) (TB : Tab 9 slit w bb (IT F0) sb) (hin : ∀ x, x ∈ O → (F0 x).isSome = true) :
    Calls Try.prog 27 #[.map (some ba), .map (some bb), .slice aO O.length cO, .int .i64 fs, .slice aA A.length cA, .slice aB B.length cB] w (fun e w' => e = .returned (.bool true) ∧ Below w.heap.size w w') := by
  obtain ⟨pA, gA⟩ := h6.gA
  obtain ⟨pB, gB⟩ := h6.gB
  refine numberingHolds_any w aO aA aB cO cA cB ba bb sa sb fs O A B (IT F2) (IT F0) (fun i => (F0 (nth O i)).getD 0) pA pB hO hA hB hsb hfi fO fA fB SO SA SB TA TB h6.size (fun i hi => ?_) gA gB
  have hs := hin _ (nth_mem hi)
  cases hv : F0 (nth O i) with
  | none => rw [hv] at hs; cases hs
  | some z =>
    unfold IT
    rw [h6.keep0 _ _ hv, hv]
    exact ⟨rfl, rfl⟩

/-- .. and where it has not been touched -/
theorem numb_same (w : World) (aO : Option Addr) (cO ba bb sb fs : Nat) (O : List BA) (F0 : BA → Option Int) (hO : O.length ≤ 1048576) (hsb : sb ≤ 1048576) (hfi : fs ≤ 1)
    (fO : Fits O) (SO : Strs w aO O) (TA : Tab 9 slit w ba (IT F0) sb) (TB : Tab 9 slit w bb (IT F0) sb) (hin : ∀ x, x ∈ O → (F0 x).isSome = true) :
    Calls Try.prog 27 #[.map (some ba), .map (some bb), .slice aO O.length cO, .int .i64 fs, .slice none 0 0, .slice none 0 0] w (fun e w' => e = .returned (.bool true) ∧ Below w.heap.size w w') := by
  have h6 : Two6 F0 F0 F0 sb sb fs [] [] [] [] := ⟨by simp, ⟨fun i => i, ⟨by simp, by simp, by simp, by simp⟩⟩, ⟨fun i => i, ⟨by simp, by simp, by simp, by simp⟩⟩, fun _ _ h => h, fun _ _ h => h, by simp, by simp, fun _ _ h => Or.inl h⟩
  exact numb_call w aO none none cO 0 0 ba bb sb sb fs O [] [] [] [] F0 F0 F0 h6 hO (by simp) (by simp) hsb hfi fO (Fits.of_mem (by simp)) (Fits.of_mem (by simp)) SO (fun h => by simp at h) (fun h => by simp at h) TA TB hin

/-- zzSameAssigns where the pairs are those of the maps' keys in the order vis -/
theorem same_call (B : Nat) (w : World) (a1 a2 a3 : Option Addr) (c1 c2 c3 kb vb sk sv n : Nat) (L vis : List BA) (KF VF : BA → Option Int) (v : Value) (f : BA → Option Value) (tx : BA → Option BA) (s : Nat) (ps : List (Int × Int)) (k : Kv B w v f tx L s) (hL : L.length ≤ 1048576) (fL : Fits L)
    (hn : n = vis.length) (hnd : vis.Nodup) (hvis : ∀ x, x ∈ vis ↔ (f x).isSome = true) (hps : ps = vis.map (pairOf tx KF VF)) (i1 : Ints w a1 n (kOf ps)) (i2 : Ints w a2 n (vOf ps)) (hs : Strs w a3 (dist L)) (TK : Tab 9 slit w kb (IT KF) sk) (TV : Tab 9 slit w vb (IT VF) sv)
    (inK : ∀ x, x ∈ vis → (KF x).isSome = true) (inV : ∀ t, t ∈ vis.filterMap tx → (VF t).isSome = true) (rK : ∀ x z, KF x = some z → -2147483648 ≤ z ∧ z ≤ 2147483647) (rV : ∀ x z, VF x = some z → -2147483648 ≤ z ∧ z ≤ 2147483647) :
    Calls Try.prog 32 #[.slice a1 n c1, .slice a2 n c2, .slice a3 (dist L).length c3, v, .map (some kb), .map (some vb)] w (fun e w' => e = .returned (.bool true) ∧ Below w.heap.size w w') := by
  have hmem : ∀ x, x ∈ vis ↔ x ∈ dist L := fun x => by rw [hvis, k.keys, dist_mem]
  have hl : vis.length = (dist L).length := ((List.perm_ext_iff_of_nodup hnd (dist_nodup L)).2 hmem).length_eq
  rw [hl] at hn
  subst hn
  have hd : (dist L).length ≤ 1048576 := Nat.le_trans (dist_len L) hL
  have hpr : ∀ x, x ∈ vis → (-2147483648 ≤ (pairOf tx KF VF x).1 ∧ (pairOf tx KF VF x).1 ≤ 2147483647) ∧ (-2147483648 ≤ (pairOf tx KF VF x).2 ∧ (pairOf tx KF VF x).2 ≤ 2147483647) := by
    intro x hx
    unfold pairOf
    constructor
    · cases hv : KF x with
      | none => simp
      | some z => exact rK x z hv
    · cases ht : tx x with
      | none => simp
      | some t =>
        simp only
        cases hv : VF t with
        | none => simp
        | some z => exact rV t z hv
  have hkv : ∀ i (hi : i < vis.length), kOf ps i = (pairOf tx KF VF vis[i]).1 ∧ vOf ps i = (pairOf tx KF VF vis[i]).2 := by
    intro i hi
    subst hps
    unfold kOf vOf
    simp [hi]
  have hin : ∀ i, i < (dist L).length → nth (dist L) i ∈ L := fun i hi => (dist_mem L _).1 (nth_mem hi)
  refine sameAssigns_any w a1 a2 a3 c1 c2 c3 kb vb sk sv (dist L) (kOf ps) (vOf ps) (fun i => (pairOf tx KF VF (nth (dist L) i)).1) (fun i => (pairOf tx KF VF (nth (dist L) i)).2) v (fun i => pt f (nth (dist L) i)) (fun i => if i < (dist L).length then (tx (nth (dist L) i)).getD ByteArray.empty else ByteArray.empty) (IT KF) (IT VF) hd (dist_fits fL) ?_ i1 i2 hs TK TV ?_ ?_ ?_ ?_ ?_ ?_
  · intro i
    split
    · rename_i hi
      rcases k.txt (hin i hi) with ⟨_, e⟩ | ⟨ad, t, _, e, _, h4⟩
      · rw [e]; simp
      · rw [e]; exact h4
    · simp
  · intro w' hb i hi
    exact (k.below hb).look (dist_fits fL i)
  · intro i hi x hx
    rw [if_pos hi]
    rcases k.txt (hin i hi) with ⟨e, _⟩ | ⟨ad, t, e1, e2, e3, e4⟩
    · rw [e] at hx; cases hx
    · rw [e1] at hx
      cases hx
      refine ⟨by rw [e2]; exact e3, ?_⟩
      have hsv := inV t (List.mem_filterMap.2 ⟨_, (hmem _).2 (nth_mem hi), e2⟩)
      unfold IT pairOf
      rw [e2]
      simp only [Option.getD_some]
      cases hv : VF t with
      | none => rw [hv] at hsv; cases hsv
      | some z => rfl
  · intro i hi hx
    rcases k.txt (hin i hi) with ⟨_, e⟩ | ⟨ad, t, e1, _⟩
    · unfold pairOf; rw [e]
    · rw [e1] at hx; cases hx
  · intro i hi
    have hsk := inK _ ((hmem _).2 (nth_mem hi))
    unfold IT pairOf
    cases hv : KF (nth (dist L) i) with
    | none => rw [hv] at hsk; cases hsk
    | some z => rfl
  · intro i hi
    have h1 := hpr _ ((hmem _).2 (nth_mem hi))
    have h2 := hpr _ (List.getElem_mem (l := vis) (n := i) (by omega))
    have h3 := hkv i (by omega)
    rw [h3.1, h3.2]
    exact ⟨h1.1, h1.2, h2.1, h2.2⟩
  · intro c
    refine cn_perm hnd (dist_nodup L) hmem _ _ (fun x => prI (pairOf tx KF VF x).1 (pairOf tx KF VF x).2) (fun i hi => ?_) (fun i hi => ?_) _ hl.symm c
    · rw [(hkv i hi).1, (hkv i hi).2]
    · rw [nth_get hi]

end Go.Proofs.Qxb6602268a.M
