/- What the law's own lists and maps hold, plainly. -/
import Derived.Test.Qxb6602268aPlain6
namespace Go.Proofs.Qxb6602268a.M
open Go.ChangeShapes Go.WideShapes Go.ChangeAt Go.RowKit Go.Maps
set_option linter.unusedVariables false

/-! ### the picked lists -/
theorem acc_d (X : Nat → BA) : ∀ k, (acc (dG X) k).Nodup ∧ ∀ x, x ∈ acc (dG X) k ↔ ∃ i, i < k ∧ X i = x
  | 0 => ⟨List.nodup_nil, fun x => by simp [acc]⟩
  | k + 1 => by
    obtain ⟨h1, h2⟩ := acc_d X k
    by_cases h : X k ∈ acc (dG X) k
    · rw [acc_none (dG_in h)]
      refine ⟨h1, fun x => ?_⟩
      rw [h2]
      constructor
      · rintro ⟨i, hi, e⟩; exact ⟨i, by omega, e⟩
      · rintro ⟨i, hi, e⟩
        by_cases hk : i = k
        · subst hk; exact (h2 x).1 (e ▸ h)
        · exact ⟨i, by omega, e⟩
    · rw [acc_some (dG_out h)]
      refine ⟨?_, fun x => ?_⟩
      · rw [List.nodup_append]
        refine ⟨h1, by simp, fun a ha b hb => ?_⟩
        simp at hb; subst hb
        exact fun e => h (e ▸ ha)
      · rw [List.mem_append, h2]
        constructor
        · rintro (⟨i, hi, e⟩ | e)
          · exact ⟨i, by omega, e⟩
          · simp at e; exact ⟨k, by omega, e.symm⟩
        · rintro ⟨i, hi, e⟩
          by_cases hk : i = k
          · subst hk; right; simp [e]
          · left; exact ⟨i, by omega, e⟩

/-- the distinct strings of a list -/
noncomputable def dist (L : List BA) : List BA := acc (dG (nth L)) L.length
theorem dist_nodup (L : List BA) : (dist L).Nodup := (acc_d (nth L) L.length).1
theorem dist_mem (L : List BA) (x : BA) : x ∈ dist L ↔ x ∈ L := by
  unfold dist
  rw [(acc_d (nth L) L.length).2]
  constructor
  · rintro ⟨i, hi, rfl⟩; exact nth_mem hi
  · intro h; exact mem_nth h
theorem dist_len (L : List BA) : (dist L).length ≤ L.length := acc_len _ _
theorem dist_fits {L : List BA} (h : Fits L) : Fits (dist L) := Fits.of_mem fun x hx => h.mem ((dist_mem L x).1 hx)

theorem acc_f (X : Nat → BA) (F : BA → Option Value) (tk : BA → Bool) : ∀ k, (∀ x, x ∈ acc (fG X F tk) k ↔ ∃ i, i < k ∧ X i = x ∧ F x = none ∧ tk x = false) ∧ ((∀ i j, i < j → j < k → X i ≠ X j) → (acc (fG X F tk) k).Nodup)
  | 0 => ⟨fun x => by simp [acc], fun _ => List.nodup_nil⟩
  | k + 1 => by
    obtain ⟨h1, h2⟩ := acc_f X F tk k
    by_cases h : F (X k) = none ∧ tk (X k) = false
    · have e : fG X F tk k (acc (fG X F tk) k) = some (X k) := by unfold fG; rw [h.1, h.2]; rfl
      rw [acc_some e]
      refine ⟨fun x => ?_, fun hi => ?_⟩
      · rw [List.mem_append, h1]
        constructor
        · rintro (⟨i, hi, e⟩ | e)
          · exact ⟨i, by omega, e⟩
          · simp at e; subst e; exact ⟨k, by omega, rfl, h.1, h.2⟩
        · rintro ⟨i, hi, ex, e2⟩
          by_cases hk : i = k
          · subst hk; right; simp [ex]
          · left; exact ⟨i, by omega, ex, e2⟩
      · rw [List.nodup_append]
        refine ⟨h2 (fun i j a b => hi i j a (by omega)), by simp, fun a ha b hb => ?_⟩
        simp at hb; subst hb
        obtain ⟨i, i1, i2, _⟩ := (h1 a).1 ha
        exact fun e => hi i k i1 (by omega) (i2.trans e)
    · have e : fG X F tk k (acc (fG X F tk) k) = none := by
        unfold fG
        cases hF : F (X k) with
        | some v => rfl
        | none =>
          cases ht : tk (X k) with
          | true => rfl
          | false => exact absurd ⟨hF, ht⟩ h
      rw [acc_none e]
      refine ⟨fun x => ?_, fun hi => h2 (fun i j a b => hi i j a (by omega))⟩
      rw [h1]
      constructor
      · rintro ⟨i, hi, e⟩; exact ⟨i, by omega, e⟩
      · rintro ⟨i, hi, ex, e2⟩
        by_cases hk : i = k
        · subst hk; rw [← ex] at e2; exact absurd e2 h
        · exact ⟨i, by omega, ex, e2⟩

/-- the names of L that neither F nor tk holds -/
def frsh (L : List BA) (F : BA → Option Value) (tk : BA → Bool) : List BA := acc (fG (nth L) F tk) L.length
theorem frsh_mem (L : List BA) (F : BA → Option Value) (tk : BA → Bool) (x : BA) : x ∈ frsh L F tk ↔ x ∈ L ∧ F x = none ∧ tk x = false := by
  unfold frsh
  rw [(acc_f (nth L) F tk L.length).1]
  constructor
  · rintro ⟨i, hi, rfl, e⟩; exact ⟨nth_mem hi, e⟩
  · rintro ⟨h, e⟩
    obtain ⟨i, hi, e2⟩ := mem_nth h
    exact ⟨i, hi, e2, e⟩
theorem frsh_nodup {L : List BA} (h : L.Nodup) (F : BA → Option Value) (tk : BA → Bool) : (frsh L F tk).Nodup :=
  (acc_f (nth L) F tk L.length).2 fun i j hij hj e => by
    have := nth_inj h (by omega) hj e
    omega
theorem frsh_len (L : List BA) (F : BA → Option Value) (tk : BA → Bool) : (frsh L F tk).length ≤ L.length := acc_len _ _

theorem acc_v (P : Nat → Option Addr) (T : Nat → BA) : ∀ k, (acc (vG P T) k).Nodup ∧ ∀ x, x ∈ acc (vG P T) k ↔ ∃ i, i < k ∧ (P i).isSome = true ∧ T i = x
  | 0 => ⟨List.nodup_nil, fun x => by simp [acc]⟩
  | k + 1 => by
    obtain ⟨h1, h2⟩ := acc_v P T k
    cases hP : P k with
    | none =>
      rw [acc_none (vG_nil hP)]
      refine ⟨h1, fun x => ?_⟩
      rw [h2]
      constructor
      · rintro ⟨i, hi, e⟩; exact ⟨i, by omega, e⟩
      · rintro ⟨i, hi, e, e2⟩
        by_cases hk : i = k
        · subst hk; rw [hP] at e; cases e
        · exact ⟨i, by omega, e, e2⟩
    | some ad =>
      by_cases h : T k ∈ acc (vG P T) k
      · rw [acc_none (vG_in h)]
        refine ⟨h1, fun x => ?_⟩
        rw [h2]
        constructor
        · rintro ⟨i, hi, e⟩; exact ⟨i, by omega, e⟩
        · rintro ⟨i, hi, e, e2⟩
          by_cases hk : i = k
          · subst hk; exact (h2 x).1 (e2 ▸ h)
          · exact ⟨i, by omega, e, e2⟩
      · rw [acc_some (vG_out hP h)]
        refine ⟨?_, fun x => ?_⟩
        · rw [List.nodup_append]
          refine ⟨h1, by simp, fun a ha b hb => ?_⟩
          simp at hb; subst hb
          exact fun e => h (e ▸ ha)
        · rw [List.mem_append, h2]
          constructor
          · rintro (⟨i, hi, e⟩ | e)
            · exact ⟨i, by omega, e⟩
            · simp at e; exact ⟨k, by omega, by rw [hP]; rfl, e.symm⟩
          · rintro ⟨i, hi, e, e2⟩
            by_cases hk : i = k
            · subst hk; right; simp [e2]
            · left; exact ⟨i, by omega, e, e2⟩

/-! ### tables built by a loop -/
theorem bf_some (X : Nat → BA) (V : Nat → Value) : ∀ k x v, bf X V k x = some v → ∃ i, i < k ∧ X i = x ∧ v = V i
  | 0, x, v, h => by cases h
  | k + 1, x, v, h => by
    unfold bf at h
    by_cases e : x = X k
    · subst e
      rw [upd_same] at h
      cases h
      exact ⟨k, by omega, rfl, rfl⟩
    · rw [upd_other _ _ e] at h
      obtain ⟨i, h1, h2⟩ := bf_some X V k x v h
      exact ⟨i, by omega, h2⟩
theorem bf_in (X : Nat → BA) (V : Nat → Value) : ∀ k i, i < k → (bf X V k (X i)).isSome = true
  | 0, i, h => by omega
  | k + 1, i, h => by
    unfold bf
    by_cases e : X i = X k
    · rw [e, upd_same]; rfl
    · rw [upd_other _ _ e]
      exact bf_in X V k i (by
        have : i ≠ k := fun h => e (by rw [h])
        omega)
theorem bf_mem (L : List BA) (V : Nat → Value) (x : BA) : (bf (nth L) V L.length x).isSome = true ↔ x ∈ L := by
  constructor
  · intro h
    cases hv : bf (nth L) V L.length x with
    | none => rw [hv] at h; cases h
    | some v =>
      obtain ⟨i, hi, rfl, _⟩ := bf_some _ _ _ _ _ hv
      exact nth_mem hi
  · intro h
    obtain ⟨i, hi, rfl⟩ := mem_nth h
    exact bf_in _ _ _ _ hi

/-- zzNumberTable's numbering -/
noncomputable def numT (L : List BA) (Z : Nat → Int) (m : Nat) : BA → Option Int := fun x => (bf (nth L) (numAt Z m) L.length x).map intOf
theorem numT_IT (L : List BA) (Z : Nat → Int) (m : Nat) : IT (numT L Z m) = bf (nth L) (numAt Z m) L.length := by
  funext x
  unfold IT numT
  cases h : bf (nth L) (numAt Z m) L.length x with
  | none => rfl
  | some v =>
    obtain ⟨i, _, _, rfl⟩ := bf_some _ _ _ _ _ h
    rfl
theorem numT_mem (L : List BA) (Z : Nat → Int) (m : Nat) (x : BA) : (numT L Z m x).isSome = true ↔ x ∈ L := by
  rw [← bf_mem L (numAt Z m) x]
  unfold numT
  cases bf (nth L) (numAt Z m) L.length x <;> simp
theorem numT_bound (L : List BA) (Z : Nat → Int) (m : Nat) (hZ : ∀ i, i < m → -2147483648 ≤ Z i ∧ Z i ≤ 2147483647) (x : BA) (z : Int) (h : numT L Z m x = some z) : -2147483648 ≤ z ∧ z ≤ 2147483647 := by
  unfold numT at h
  cases hv : bf (nth L) (numAt Z m) L.length x with
  | none => rw [hv] at h; cases h
  | some v =>
    rw [hv] at h
    obtain ⟨i, _, _, rfl⟩ := bf_some _ _ _ _ _ hv
    simp only [Option.map_some, Option.some.injEq, numAt, intOf] at h
    subst h
    split
    · exact hZ i (by assumption)
    · omega
theorem none_of_IT {F : BA → Option Int} {x : BA} : IT F x = none ↔ F x = none := by
  unfold IT; cases F x <;> simp

/-! ### a transaction's map -/
/-- the pointer at x -/
def pt (f : BA → Option Value) (x : BA) : Option Addr := match f x with | some (.pointer p) => p | _ => none
/-- the text that it points to in w -/
def txOf (w : World) (f : BA → Option Value) (x : BA) : Option BA := match pt f x with
  | none => none
  | some ad => match w.cell? ad with | some (.string t) => some t | _ => none

/-- what is known of a transaction's map v, made of the keys L; B: the texts lie below -/
structure Kv (B : Nat) (w : World) (v : Value) (f : BA → Option Value) (tx : BA → Option BA) (L : List BA) (s : Nat) : Prop where
  m : TxM w v f tx s
  keys : ∀ x, (f x).isSome = true ↔ x ∈ L
  le : s ≤ 1048576
  val : ∀ x u, f x = some u → ∃ p, u = .pointer p
  low : ∀ x ad, pt f x = some ad → ad.block < B

theorem Kv.below {B : Nat} {w w' : World} {v : Value} {f : BA → Option Value} {tx : BA → Option BA} {L : List BA} {s : Nat} (h : Kv B w v f tx L s) (hb : Below w.heap.size w w') : Kv B w' v f tx L s := ⟨h.m.below hb, h.keys, h.le, h.val, h.low⟩
theorem Kv.thr {B kb vb mb : Nat} {w w' : World} {v : Value} {f : BA → Option Value} {tx : BA → Option BA} {L : List BA} {s : Nat} (h : Kv B w v f tx L s) (ht : Thr w w' kb vb mb) (hk : B ≤ kb) (hv : B ≤ vb) (hm : B ≤ mb) (hne : ∀ b, v = .map (some b) → b ≠ kb ∧ b ≠ vb ∧ b ≠ mb) : Kv B w' v f tx L s := by
  refine ⟨?_, h.keys, h.le, h.val, h.low⟩
  rcases h.m with h1 | ⟨b, rfl, hT, hX⟩
  · exact Or.inl h1
  · obtain ⟨n1, n2, n3⟩ := hne b rfl
    refine Or.inr ⟨b, rfl, hT.block (ht.block b hT.lt n1 n2 n3), ⟨fun x u hx => ?_⟩⟩
    rcases hX.at' x u hx with h1 | ⟨ad, t, e1, e2, e3, e4⟩
    · exact Or.inl h1
    · have hl := h.low x ad (by unfold pt; rw [hx, e1])
      exact Or.inr ⟨ad, t, e1, e2, ht.cell e3 (by omega) (by omega) (by omega), e4⟩
theorem Kv.look {B : Nat} {w : World} {v : Value} {f : BA → Option Value} {tx : BA → Option BA} {L : List BA} {s : Nat} (h : Kv B w v f tx L s) {x : BA} (hx : x.size ≤ maxLen) : (Instr.lookup 46 v (.string x) false).run Try.prog w = .ok (.pointer (pt f x)) w := by
  rcases h.m with ⟨rfl, rfl, _⟩ | ⟨b, rfl, hT, hX⟩
  · have := Maps.look_nil (w := w) false strKind.keyed Try.underlying46 (zero81 w) (strKind.mkd x hx)
    simpa [pt] using this
  · rw [hT.look strKind Try.underlying46 (zero81 w) hx]
    unfold pt
    cases hf : f x with
    | none => rfl
    | some u =>
      obtain ⟨p, rfl⟩ := h.val x u hf
      rfl
/-- at one of its keys: nil and no text, or a pointer to the text -/
theorem Kv.txt {B : Nat} {w : World} {v : Value} {f : BA → Option Value} {tx : BA → Option BA} {L : List BA} {s : Nat} (h : Kv B w v f tx L s) {x : BA} (hx : x ∈ L) : (pt f x = none ∧ tx x = none) ∨ ∃ ad t, pt f x = some ad ∧ tx x = some t ∧ w.cell? ad = some (.string t) ∧ t.size ≤ maxLen := by
  have hs := (h.keys x).2 hx
  rcases h.m with ⟨rfl, rfl, _⟩ | ⟨b, rfl, hT, hX⟩
  · cases hs
  · cases hf : f x with
    | none => rw [hf] at hs; cases hs
    | some u =>
      rcases hX.at' x u hf with ⟨rfl, e⟩ | ⟨ad, t, rfl, e2, e3, e4⟩
      · left; exact ⟨by unfold pt; rw [hf], e⟩
      · right; exact ⟨ad, t, by unfold pt; rw [hf], e2, e3, e4⟩
theorem Kv.len {B : Nat} {w : World} {v : Value} {f : BA → Option Value} {tx : BA → Option BA} {L : List BA} {s : Nat} (h : Kv B w v f tx L s) (ty : TypeId) : (Builtin.len_ #[46] ty #[v]).run Try.prog w = .ok (.int .i64 s) w := h.m.len ty

/-- zzTxnMap's map, keys not nil -/
theorem kv_some {w w' : World} {b B m : Nat} {L : List BA} {A : Nat → Option Addr} {T : Nat → BA} (hL : L.length ≤ 1048576) {a2 : Option Addr} (hp : Ptrs w a2 m A T) (hB : w.heap.size ≤ B) (hT : Tab 9 slit w' b (bf (nth L) (ptrAt A m) L.length) (bs (nth L) (ptrAt A m) L.length)) (hb : Below w.heap.size w w') :
    Kv B w' (.map (some b)) (bf (nth L) (ptrAt A m) L.length) (txOf w (bf (nth L) (ptrAt A m) L.length)) L (bs (nth L) (ptrAt A m) L.length) := by
  have key : ∀ x u, bf (nth L) (ptrAt A m) L.length x = some u → u = .pointer none ∨ ∃ i ad, i < m ∧ A i = some ad ∧ u = .pointer (some ad) := by
    intro x u hx
    obtain ⟨i, _, _, rfl⟩ := bf_some _ _ _ _ _ hx
    unfold ptrAt
    split
    · rename_i hi
      cases hA : A i with
      | none => exact Or.inl rfl
      | some ad => exact Or.inr ⟨i, ad, hi, hA, rfl⟩
    · exact Or.inl rfl
  refine ⟨Or.inr ⟨b, rfl, hT, ⟨fun x u hx => ?_⟩⟩, bf_mem L _, Nat.le_trans (bs_le _ _ _) hL, fun x u hx => ?_, fun x ad hx => ?_⟩
  · rcases key x u hx with rfl | ⟨i, ad, hi, hA, rfl⟩
    · left
      exact ⟨rfl, by unfold txOf pt; rw [hx]⟩
    · right
      have hc := hp.txt i hi ad hA
      exact ⟨ad, T i, rfl, by unfold txOf pt; rw [hx]; simp only; rw [hc], (hb.cell (lt_of_cell hc)).trans hc, hp.fit i⟩
  · rcases key x u hx with rfl | ⟨i, ad, hi, hA, rfl⟩
    · exact ⟨_, rfl⟩
    · exact ⟨_, rfl⟩
  · unfold pt at hx
    cases hf : bf (nth L) (ptrAt A m) L.length x with
    | none => rw [hf] at hx; cases hx
    | some u =>
      rw [hf] at hx
      rcases key x u hf with rfl | ⟨i, ad', hi, hA, rfl⟩
      · cases hx
      · cases hx
        exact Nat.lt_of_lt_of_le (lt_of_cell (hp.txt i hi _ hA)) hB
/-- zzTxnMap's map, nil keys -/
theorem kv_nil (B : Nat) (w : World) (tx : BA → Option BA) : Kv B w (.map none) (fun _ => none) tx [] 0 :=
  ⟨Or.inl ⟨rfl, rfl, rfl⟩, fun x => by simp, by omega, (fun x u h => by cases h), (fun x ad h => by cases h)⟩

/-- the texts of the names, in turn -/
noncomputable def texts (N : List BA) (f : BA → Option Value) (tx : BA → Option BA) : List BA := acc (vG (fun i => pt f (nth N i)) (fun i => (tx (nth N i)).getD ByteArray.empty)) N.length
theorem texts_nodup (N : List BA) (f : BA → Option Value) (tx : BA → Option BA) : (texts N f tx).Nodup := (acc_v _ _ _).1
theorem texts_len (N : List BA) (f : BA → Option Value) (tx : BA → Option BA) : (texts N f tx).length ≤ N.length := acc_len _ _
theorem texts_mem {B : Nat} {w : World} {v : Value} {f : BA → Option Value} {tx : BA → Option BA} {L : List BA} {s : Nat} (h : Kv B w v f tx L s) (N : List BA) (hN : ∀ x, x ∈ N → x ∈ L) (t : BA) : t ∈ texts N f tx ↔ ∃ x, x ∈ N ∧ tx x = some t := by
  unfold texts
  rw [(acc_v _ _ _).2]
  constructor
  · rintro ⟨i, hi, h1, rfl⟩
    rcases h.txt (hN _ (nth_mem hi)) with ⟨e, _⟩ | ⟨ad, t, e1, e2, _, _⟩
    · rw [e] at h1; cases h1
    · exact ⟨_, nth_mem hi, by rw [e2]; rfl⟩
  · rintro ⟨x, hx, e⟩
    obtain ⟨i, hi, rfl⟩ := mem_nth hx
    rcases h.txt (hN _ (nth_mem hi)) with ⟨_, e1⟩ | ⟨ad, t', e1, e2, _, _⟩
    · rw [e] at e1; cases e1
    · exact ⟨i, hi, by rw [e1]; rfl, by rw [e]; rfl⟩
theorem texts_fits {B : Nat} {w : World} {v : Value} {f : BA → Option Value} {tx : BA → Option BA} {L : List BA} {s : Nat} (h : Kv B w v f tx L s) (N : List BA) (hN : ∀ x, x ∈ N → x ∈ L) : Fits (texts N f tx) := Fits.of_mem fun t ht => by
  obtain ⟨x, hx, e⟩ := (texts_mem h N hN t).1 ht
  rcases h.txt (hN x hx) with ⟨_, e1⟩ | ⟨ad, t', e1, e2, _, e4⟩
  · rw [e] at e1; cases e1
  · rw [e] at e2; cases e2; exact e4

end Go.Proofs.Qxb6602268a.M
