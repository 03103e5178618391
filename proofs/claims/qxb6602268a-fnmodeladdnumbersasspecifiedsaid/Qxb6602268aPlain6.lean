/- The plain law: numbering the names in any order of the maps. -/
import Derived.Test.Qxb6602268aAddKit
namespace Go.Proofs.Qxb6602268a.M
open Go.ChangeShapes Go.WideShapes Go.ChangeAt Go.RowKit Go.Maps
set_option linter.unusedVariables false

abbrev BA := ByteArray

theorem nth_get {l : List BA} {i : Nat} (hi : i < l.length) : nth l i = l[i] := by
  unfold nth; simp [hi]
theorem nth_inj {l : List BA} (hn : l.Nodup) {i j : Nat} (hi : i < l.length) (hj : j < l.length) (h : nth l i = nth l j) : i = j := by
  rw [nth_get hi, nth_get hj] at h
  exact (List.getElem_inj hn).1 h

/-- the numbering behind the names l -/
noncomputable def nf (fs : Nat) : (BA → Option Int) → Nat → List BA → (BA → Option Int)
  | F, _, [] => F
  | F, sz, x :: r => nf fs (numF F sz fs x) (numS F sz x) r
noncomputable def ns (fs : Nat) : (BA → Option Int) → Nat → List BA → Nat
  | _, sz, [] => sz
  | F, sz, x :: r => ns fs (numF F sz fs x) (numS F sz x) r

/-- The names that were lacking get the next numbers, each one; e: the order in which they came up. -/
theorem num_run (fs : Nat) : ∀ (l : List BA) (F : BA → Option Int) (sz : Nat), ∃ e : List BA, e.Nodup ∧ (∀ x, x ∈ e ↔ x ∈ l ∧ F x = none) ∧ ns fs F sz l = sz + e.length ∧ (∀ i, i < e.length → nf fs F sz l (nth e i) = some ((fs : Int) + sz + i)) ∧ (∀ x, x ∉ e → nf fs F sz l x = F x)
  | [], F, sz => ⟨[], List.nodup_nil, by simp, rfl, by simp, fun _ _ => rfl⟩
  | x :: r, F, sz => by
    cases hx : F x with
    | some z =>
      have e1 : numF F sz fs x = F := by unfold numF; rw [hx]
      have e2 : numS F sz x = sz := by unfold numS; rw [hx]; rfl
      obtain ⟨e, h1, h2, h3, h4, h5⟩ := num_run fs r F sz
      refine ⟨e, h1, fun y => ?_, ?_, ?_, ?_⟩
      · rw [h2]
        constructor
        · rintro ⟨a, b⟩; exact ⟨List.mem_cons_of_mem _ a, b⟩
        · rintro ⟨a, b⟩
          rcases List.mem_cons.1 a with rfl | a
          · rw [hx] at b; cases b
          · exact ⟨a, b⟩
      · show ns fs (numF F sz fs x) (numS F sz x) r = _
        rw [e1, e2]; exact h3
      · intro i hi
        show nf fs (numF F sz fs x) (numS F sz x) r _ = _
        rw [e1, e2]; exact h4 i hi
      · intro y hy
        show nf fs (numF F sz fs x) (numS F sz x) r _ = _
        rw [e1, e2]; exact h5 y hy
    | none =>
      have e1 : numF F sz fs x = upd F x ((fs : Int) + sz) := by unfold numF; rw [hx]
      have e2 : numS F sz x = sz + 1 := by unfold numS; rw [hx]; rfl
      obtain ⟨e, h1, h2, h3, h4, h5⟩ := num_run fs r (upd F x ((fs : Int) + sz)) (sz + 1)
      have hxe : x ∉ e := fun h => by have := ((h2 x).1 h).2; rw [upd_same] at this; cases this
      refine ⟨x :: e, List.nodup_cons.2 ⟨hxe, h1⟩, fun y => ?_, ?_, ?_, ?_⟩
      · by_cases hy : y = x
        · subst hy; simp [hx]
        · have := h2 y
          rw [upd_other _ _ hy] at this
          simp only [List.mem_cons, hy, false_or]
          exact this
      · show ns fs (numF F sz fs x) (numS F sz x) r = _
        rw [e1, e2, h3, List.length_cons]; omega
      · intro i hi
        show nf fs (numF F sz fs x) (numS F sz x) r _ = _
        rw [e1, e2]
        cases i with
        | zero =>
          have : nth (x :: e) 0 = x := rfl
          rw [this, h5 x hxe, upd_same]; simp
        | succ i =>
          have : nth (x :: e) (i + 1) = nth e i := rfl
          rw [this, h4 i (by simpa using hi)]
          congr 1
          omega
      · intro y hy
        show nf fs (numF F sz fs x) (numS F sz x) r _ = _
        rw [e1, e2]
        rw [h5 y (fun h => hy (List.mem_cons_of_mem _ h)), upd_other _ _ (fun h => hy (by rw [h]; exact List.mem_cons_self))]

theorem nf_keep (fs : Nat) (l : List BA) (F : BA → Option Int) (sz : Nat) {x : BA} {z : Int} (h : F x = some z) : nf fs F sz l x = some z := by
  obtain ⟨e, h1, h2, h3, h4, h5⟩ := num_run fs l F sz
  rw [h5 x (fun hx => by have := ((h2 x).1 hx).2; rw [h] at this; cases this), h]
theorem nf_mem (fs : Nat) (l : List BA) (F : BA → Option Int) (sz : Nat) {x : BA} (h : x ∈ l) : (nf fs F sz l x).isSome = true := by
  obtain ⟨e, h1, h2, h3, h4, h5⟩ := num_run fs l F sz
  cases hx : F x with
  | some z => rw [nf_keep fs l F sz hx]; rfl
  | none =>
    obtain ⟨i, hi, rfl⟩ := mem_nth ((h2 x).2 ⟨h, hx⟩)
    rw [h4 i hi]; rfl

theorem nrun_keys (tx : BA → Option BA) : ∀ (l : List BA) (st : NS), (nrun tx st l).kf = nf 0 st.kf st.ks l ∧ (nrun tx st l).ks = ns 0 st.kf st.ks l
  | [], st => ⟨rfl, rfl⟩
  | x :: r, st => by
    have := nrun_keys tx r (nstep tx st x)
    have e1 : (nstep tx st x).kf = numF st.kf st.ks 0 x := by unfold nstep; cases tx x <;> rfl
    have e2 : (nstep tx st x).ks = numS st.kf st.ks x := by unfold nstep; cases tx x <;> rfl
    rw [e1, e2] at this
    exact this
theorem nrun_vals (tx : BA → Option BA) : ∀ (l : List BA) (st : NS), (nrun tx st l).vf = nf 1 st.vf st.vs (l.filterMap tx) ∧ (nrun tx st l).vs = ns 1 st.vf st.vs (l.filterMap tx)
  | [], st => ⟨rfl, rfl⟩
  | x :: r, st => by
    have := nrun_vals tx r (nstep tx st x)
    cases hx : tx x with
    | none =>
      have e1 : (nstep tx st x).vf = st.vf := by unfold nstep; rw [hx]
      have e2 : (nstep tx st x).vs = st.vs := by unfold nstep; rw [hx]
      rw [e1, e2] at this
      rw [List.filterMap_cons_none hx]
      exact this
    | some t =>
      have e1 : (nstep tx st x).vf = numF st.vf st.vs 1 t := by unfold nstep; rw [hx]
      have e2 : (nstep tx st x).vs = numS st.vf st.vs t := by unfold nstep; rw [hx]
      rw [e1, e2] at this
      rw [List.filterMap_cons_some hx]
      exact this

theorem numF_self (F : BA → Option Int) (sz fs : Nat) (x : BA) : numF F sz fs x x = some (numV F sz fs x) := by
  unfold numF numV
  cases h : F x with
  | some z => simp [h]
  | none => simp [upd_same]

/-- the pair of a key in a numbering -/
def pairOf (tx : BA → Option BA) (KF VF : BA → Option Int) (x : BA) : Int × Int := ((KF x).getD 0, match tx x with | none => 0 | some t => (VF t).getD 0)

theorem nout_final (tx : BA → Option BA) (KF VF : BA → Option Int) : ∀ (l : List BA) (st : NS), (∀ x z, (nrun tx st l).kf x = some z → KF x = some z) → (∀ x z, (nrun tx st l).vf x = some z → VF x = some z) → nout tx st l = l.map (pairOf tx KF VF)
  | [], _, _, _ => rfl
  | x :: r, st, hk, hv => by
    show npair tx st x :: nout tx (nstep tx st x) r = _
    rw [nout_final tx KF VF r (nstep tx st x) hk hv, List.map_cons]
    congr 1
    have k1 : KF x = some (numV st.kf st.ks 0 x) := by
      refine hk x _ ?_
      show (nrun tx (nstep tx st x) r).kf x = _
      rw [(nrun_keys tx r _).1]
      refine nf_keep _ _ _ _ ?_
      have e1 : (nstep tx st x).kf = numF st.kf st.ks 0 x := by unfold nstep; cases tx x <;> rfl
      rw [e1, numF_self]
    unfold npair pairOf
    cases hx : tx x with
    | none => simp [k1]
    | some t =>
      have v1 : VF t = some (numV st.vf st.vs 1 t) := by
        refine hv t _ ?_
        show (nrun tx (nstep tx st x) r).vf t = _
        rw [(nrun_vals tx r _).1]
        refine nf_keep _ _ _ _ ?_
        have e1 : (nstep tx st x).vf = numF st.vf st.vs 1 t := by unfold nstep; rw [hx]
        rw [e1, numF_self]
      simp [k1, v1]

theorem group_of {F : BA → Option Int} {e G : List BA} {base lo : Nat} (he : e.Nodup) (hG : G.Nodup) (hm : ∀ x, x ∈ G ↔ x ∈ e) (h : ∀ i, i < e.length → F (nth e i) = some ((base + lo + i : Nat) : Int)) : G.length = e.length ∧ ∃ p, Group (IT F) G base lo (lo + G.length) p := by
  have hl : G.length = e.length := ((List.perm_ext_iff_of_nodup hG he).2 hm).length_eq
  refine ⟨hl, ?_⟩
  have hq : ∀ i, ∃ j, i < G.length → j < e.length ∧ nth e j = nth G i := fun i => by
    by_cases hi : i < G.length
    · obtain ⟨j, hj, e1⟩ := mem_nth ((hm _).1 (nth_mem hi))
      exact ⟨j, fun _ => ⟨hj, e1⟩⟩
    · exact ⟨0, fun h => absurd h hi⟩
  obtain ⟨q, hq⟩ := Classical.axiomOfChoice hq
  refine ⟨fun i => lo + q i, ?_, fun i hi => Nat.le_add_right _ _, fun i hi => ?_, fun i j hij hj => ?_⟩
  · intro i hi
    obtain ⟨h1, h2⟩ := hq i hi
    unfold IT
    rw [← h2, h _ h1, Nat.add_assoc]
    rfl
  · have := (hq i hi).1; omega
  · intro e1
    have e2 : q i = q j := by omega
    have h1 := hq i (by omega)
    have h2 := hq j hj
    rw [e2, h2.2] at h1
    have := nth_inj hG hj (by omega) h1.2
    omega

/-- What a numbering does with the names of the reads, then of the writes. -/
structure Two6 (F0 F1 F2 : BA → Option Int) (sz s2 fs : Nat) (lR lW A B : List BA) : Prop where
  size : s2 = sz + A.length + B.length
  gA : ∃ p, Group (IT F2) A (fs + sz) 0 A.length p
  gB : ∃ p, Group (IT F2) B (fs + sz) A.length (A.length + B.length) p
  keep0 : ∀ x z, F0 x = some z → F2 x = some z
  keep1 : ∀ x z, F1 x = some z → F2 x = some z
  inR : ∀ x, x ∈ lR → (F2 x).isSome = true
  inW : ∀ x, x ∈ lW → (F2 x).isSome = true
  bound : ∀ x z, F2 x = some z → F0 x = some z ∨ (0 ≤ z ∧ z ≤ fs + sz + A.length + B.length)

theorem two_groups (F0 : BA → Option Int) (sz fs : Nat) (lR lW A B : List BA) (hA : A.Nodup) (hB : B.Nodup) (mA : ∀ x, x ∈ A ↔ x ∈ lR ∧ F0 x = none) (mB : ∀ x, x ∈ B ↔ x ∈ lW ∧ F0 x = none ∧ x ∉ lR) :
    Two6 F0 (nf fs F0 sz lR) (nf fs (nf fs F0 sz lR) (ns fs F0 sz lR) lW) sz (ns fs (nf fs F0 sz lR) (ns fs F0 sz lR) lW) fs lR lW A B := by
  obtain ⟨e, h1, h2, h3, h4, h5⟩ := num_run fs lR F0 sz
  obtain ⟨d, k1, k2, k3, k4, k5⟩ := num_run fs lW (nf fs F0 sz lR) (ns fs F0 sz lR)
  have keep1 : ∀ x z, nf fs F0 sz lR x = some z → nf fs (nf fs F0 sz lR) (ns fs F0 sz lR) lW x = some z := fun x z h => nf_keep _ _ _ _ h
  have mB' : ∀ x, x ∈ B ↔ x ∈ d := fun x => by
    rw [mB, k2]
    constructor
    · rintro ⟨a, b, c⟩
      refine ⟨a, ?_⟩
      rw [h5 x (fun h => c ((h2 x).1 h).1), b]
    · rintro ⟨a, b⟩
      have hx0 : F0 x = none := by
        cases hx : F0 x with
        | none => rfl
        | some z => rw [nf_keep fs lR F0 sz hx] at b; cases b
      refine ⟨a, hx0, fun hx => ?_⟩
      have := nf_mem fs lR F0 sz hx
      rw [b] at this
      cases this
  have gA := group_of (F := nf fs (nf fs F0 sz lR) (ns fs F0 sz lR) lW) (base := fs + sz) (lo := 0) h1 hA (fun x => by rw [mA, h2]) (fun i hi => by
    refine (keep1 _ _ (h4 i hi)).trans ?_
    simp)
  have gB := group_of (F := nf fs (nf fs F0 sz lR) (ns fs F0 sz lR) lW) (base := fs + sz) (lo := A.length) k1 hB mB' (fun i hi => by
    rw [k4 i hi, h3, gA.1]
    congr 1
    omega)
  refine ⟨by rw [k3, h3, gA.1, gB.1], ?_, gB.2, fun x z h => keep1 x z (nf_keep _ _ _ _ h), keep1, fun x hx => ?_, fun x hx => nf_mem _ _ _ _ hx, fun x z hx => ?_⟩
  · obtain ⟨p, hp⟩ := gA.2
    rw [Nat.zero_add] at hp
    exact ⟨p, hp⟩
  · have := nf_mem fs lR F0 sz hx
    cases h : nf fs F0 sz lR x with
    | none => rw [h] at this; cases this
    | some z => rw [keep1 x z h]; rfl
  · by_cases hd : x ∈ d
    · obtain ⟨i, hi, rfl⟩ := mem_nth hd
      rw [k4 i hi, h3] at hx
      cases hx
      right
      have := gA.1
      have := gB.1
      omega
    · rw [k5 x hd] at hx
      by_cases hE : x ∈ e
      · obtain ⟨i, hi, rfl⟩ := mem_nth hE
        rw [h4 i hi] at hx
        cases hx
        right
        have := gA.1
        omega
      · rw [h5 x hE] at hx
        exact Or.inl hx

/-- counting along a list -/
theorem cn_list {α : Type} (l : List α) (E : Nat → Int) (g : α → Int) (h : ∀ i (hi : i < l.length), E i = g l[i]) (c : Int) : ∀ k, k ≤ l.length → cn E k c = (l.take k).countP (fun x => g x == c)
  | 0, _ => rfl
  | k + 1, hk => by
    have ih := cn_list l E g h c k (by omega)
    rw [List.take_succ_eq_append_getElem (by omega), List.countP_append, ← ih, cn, h k (by omega)]
    by_cases e : g l[k] = c
    · simp [e]
    · simp [e]

theorem cn_perm {l m : List BA} (hl : l.Nodup) (hm : m.Nodup) (h : ∀ x, x ∈ l ↔ x ∈ m) (E D : Nat → Int) (g : BA → Int) (hE : ∀ i (hi : i < l.length), E i = g l[i]) (hD : ∀ i (hi : i < m.length), D i = g m[i]) (n : Nat) (hn : n = l.length) (c : Int) : cn E n c = cn D n c := by
  have hp := (List.perm_ext_iff_of_nodup hl hm).2 h
  have e := hp.length_eq
  subst hn
  rw [cn_list l E g hE c _ (Nat.le_refl _), e, cn_list m D g hD c _ (Nat.le_refl _), ← e, List.take_length, e, List.take_length]
  exact hp.countP_eq _

end Go.Proofs.Qxb6602268a.M
