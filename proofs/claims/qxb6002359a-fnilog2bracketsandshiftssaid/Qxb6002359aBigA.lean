/- math/big: lshVU at one word 1, nat.lsh of the number 1, Int.Lsh. -/
import Derived.Test.Qxb6002359aBig9
import Derived.Laws.Twins
import Derived.Lib.SliceRun
namespace Go.Proofs.Qxb6002359a.B
open Go.RowKit Go.ChangeShapes Go.WideShapes Go.ChangeAt
set_option linter.unusedVariables false
set_option linter.unusedSimpArgs false

theorem lshVU_enters (args : Array Value) (w : World) : (callFunc 72 args).run Try.prog w = .ok (.enter 42 args) w :=
  run_callFunc_twin (twin := "math/big.lshVU_g") Try.func72 (by kernel_rfl) (by kernel_rfl) (by kernel_rfl) (by kernel_rfl) Try.func42 (by kernel_rfl) (by kernel_rfl) (by kernel_rfl) args w

theorem and63 (s : Nat) (h : s ≤ 63) : bits .and .u64 (s : Int) 63 = (s : Int) := by
  have : ∀ s : Fin 64, bits .and .u64 ((s.val : Nat) : Int) 63 = ((s.val : Nat) : Int) := by decide +kernel
  exact this ⟨s, by omega⟩

set_option maxRecDepth 100000 in
theorem lshVU_one (w : World) (zb zo cz xb cx s : Nat) (v : Value) (h1 : 1 ≤ s) (h2 : s ≤ 63) (hz : w.cell? ⟨zb, zo, none⟩ = some v) (hf : w.frozen? ⟨zb, zo, none⟩ = false) (hx : w.cell? ⟨xb, 0, none⟩ = some (.int .u64 1)) :
    Calls Try.prog 42 #[.slice (some ⟨zb, zo, none⟩) 1 cz, .slice (some ⟨xb, 0, none⟩) 1 cx, .int .u64 (s : Nat)] w (fun e w' => e = .returned (.int .u64 0) ∧ w' = w.setCell ⟨zb, zo, none⟩ (.int .u64 (2 ^ s : Nat))) := by
  have e1 := and63 s h2
  have e2 : bits .and .u64 (64 - (s : Int)) 63 = 64 - (s : Int) := by
    have := and63 (64 - s) (by omega)
    rwa [show ((64 - s : Nat) : Int) = 64 - (s : Int) by omega] at this
  have h0 : ((s : Int) == 0) = false := by rw [beq_eq_false_iff_ne]; omega
  have e3 : (1 : Int) / 2 ^ (64 - s) = 0 := by
    refine Int.ediv_eq_zero_of_lt (by omega) ?_
    have : (2 : Nat) ^ 1 ≤ 2 ^ (64 - s) := Nat.pow_le_pow_right (by omega) (by omega)
    have h : ((2 ^ (64 - s) : Nat) : Int) = (2 : Int) ^ (64 - s) := by simp
    omega
  have e4 : IntKind.u64.wrap ((2 : Int) ^ s) = (2 ^ s : Nat) := by
    have : (2 : Nat) ^ s ≤ 2 ^ 63 := Nat.pow_le_pow_right (by omega) (by omega)
    have h : ((2 ^ s : Nat) : Int) = (2 : Int) ^ s := by simp
    rw [IntKind.wrap_u64, ← h]
    generalize 2 ^ s = p at *
    omega
  generalize hp : 2 ^ s = p at *
  go_enter Try.func42, Try.ntmps42
  go_wp2_with fail
  go_loopw [8] (fun i wr => i = .int .i64 0 ∧ wr = w) (fun i _ => 0)
  case atStart => exact ⟨rfl, rfl⟩
  case round =>
    obtain ⟨rfl, rfl⟩ := hrel
    go_wp2_with fail
    go_ret
    exact ⟨rfl, rfl⟩

theorem cut63lh (b o n c l h : Nat) (h1 : l ≤ h) (h2 : h ≤ c) (h3 : l < c) (w : World) : (Instr.slice 63 (.slice (some ⟨b, o, none⟩) n c) (some (.int .i64 (l : Int))) (some (.int .i64 (h : Int))) none).run Try.prog w = .ok (.slice (some ⟨b, o + l, none⟩) (h - l) (c - l)) w := by
  have h2' : (sizeOf (Try.prog.elem 63)).run Try.prog w = .ok 1 w := by rw [elem63]; exact Try.sizeOf87 w
  rw [run_slice_lh (P := Try.prog) w 63 (some ⟨b, o, none⟩) n c und63 .i64 .i64 (l : Int) (h : Int) (by omega) (by omega) (by omega), h2']
  have h4 : sliced (some ⟨b, o, none⟩) (l : Int).toNat (h : Int).toNat c 1 = .slice (some ⟨b, o + l, none⟩) (h - l) (c - l) := by
    unfold sliced
    simp [Go.WideShapes.add_plain]
    omega
  show Result.ok (sliced (some ⟨b, o, none⟩) (l : Int).toNat (h : Int).toNat c 1) w = _
  rw [h4]

/-- 2 ^ s in words -/
def powW (q t : Nat) (j : Nat) : Nat := if j = q then 2 ^ t else 0

def powV (q t : Nat) (j : Nat) : Value := .int .u64 (powW q t j : Nat)
theorem pow_row {w : World} {B q t cc : Nat} (h : w.rowIs B 87 cc (fun _ => .int .u64 0)) (v : Value) (hv : v = .int .u64 (2 ^ t : Nat)) : (w.setCell ⟨B, q, none⟩ v).rowIs B 87 cc (powV q t) := by
  subst hv
  refine (h.set q _).congr fun j hj => ?_
  unfold powV powW
  by_cases e : j = q
  · rw [if_pos e, if_pos e]
  · rw [if_neg e, if_neg e]; rfl
theorem pow_row2 {w : World} {B q t cc : Nat} (h : w.rowIs B 87 cc (powV q t)) : (w.setCell ⟨B, 1 + q, none⟩ (.int .u64 0)).rowIs B 87 cc (powV q t) := by
  refine (h.set (1 + q) _).congr fun j hj => ?_
  by_cases e : j = 1 + q
  · subst e; rw [if_pos rfl]; unfold powV powW; rw [if_neg (by omega)]; rfl
  · rw [if_neg e]
theorem pow_clear {w : World} {B q t cc : Nat} (h : w.rowIs B 87 cc (powV q t)) (hc : q + 2 ≤ cc) : ∀ j, j < q + 2 → (w.setCells B 0 (List.replicate q (.int .u64 0))).cell? ⟨B, j, none⟩ = some (.int .u64 (powW q t j : Nat)) := fun j hj => by
  by_cases e : j < q
  · have := World.cell?_setCells_in B (List.replicate q (.int .u64 0)) 0 w (fun i hi => by rw [List.length_replicate] at hi; rw [Nat.zero_add, h.cell (by omega)]; rfl) j (by rw [List.length_replicate]; exact e)
    rw [Nat.zero_add] at this
    rw [this, List.getElem_replicate]
    unfold powW
    rw [if_neg (by omega)]
    rfl
  · rw [World.cell?_setCells_out B _ 0 w ⟨B, j, none⟩ (fun _ _ => by right; rw [List.length_replicate]; show 0 + q ≤ j; omega)]
    exact h.cell (by omega)
theorem pow_norm {w : World} {B q t cc : Nat} (hqb : q ≤ 20000) (hc : q + 2 ≤ cc) (h : ∀ j, j < q + 2 → w.cell? ⟨B, j, none⟩ = some (.int .u64 (powW q t j : Nat))) :
    Calls Try.prog 60 #[.slice (some ⟨B, 0, none⟩) (q + 2) cc] w (fun e w' => e = .returned (.slice (some ⟨B, 0, none⟩) (q + 1) cc) ∧ w' = w) := by
  refine (norm_any w (some ⟨B, 0, none⟩) (q + 2) cc (powW q t) (by omega) hc (fun _ => ⟨B, rfl, h⟩)).mono ?_
  rintro e w' ⟨k, rfl, hk, rfl⟩
  have h0 : powW q t q ≠ 0 := by
    unfold powW
    rw [if_pos rfl]
    exact Nat.pos_iff_ne_zero.1 (Nat.pow_pos (by omega))
  have h1 : powW q t (q + 1) = 0 := by unfold powW; rw [if_neg (by omega)]
  have hk1 : k = q + 1 := by
    have hle := hk.le
    rcases Nat.lt_or_ge q k with h | h
    · by_cases e : k = q + 2
      · subst e
        rcases hk.top with h | h
        · omega
        · exact absurd h1 h
      · omega
    · exact absurd (hk.zero q h (by omega)) h0
  subst hk1
  exact ⟨rfl, rfl⟩
theorem clear_words (w : World) (B q cc : Nat) (ty : TypeId) (f : Nat → Value) (h : w.rowIs B 87 cc f) (hq : q ≤ cc) (h0 : 0 < q) : (Builtin.clear_ #[63] ty #[.slice (some ⟨B, 0, none⟩) q cc]).run Try.prog w = .ok (.tuple #[]) (w.setCells B 0 (List.replicate q (.int .u64 0))) :=
  Lib.run_clear_slice (P := Try.prog) w 63 87 ty (.int .u64 0) Try.underlying63 (fun w => Try.zeroValue87 w) rfl rfl B 0 q cc h0 (fun j hj => by rw [Nat.zero_add, h.cell (by omega)]; rfl) (fun j hj => h.frozen _)

theorem clear_none (w : World) (a : Option Addr) (c : Nat) (ty : TypeId) : (Builtin.clear_ #[63] ty #[.slice a 0 c]).run Try.prog w = .ok (.tuple #[]) w := by
  cases a <;> simp [Builtin.clear_, run_underlying Try.underlying63, Try.zeroValue87, Builtin.zeroCells]
set_option maxRecDepth 100000 in
theorem lsh_one (w : World) (az : Option Addr) (lz cz xb cx s q t : Nat) (h1 : 1 ≤ s) (hs : s ≤ 1000000) (hq : s / 64 = q) (ht : s % 64 = t) (hcz : cz < q + 2) (hx : w.cell? ⟨xb, 0, none⟩ = some (.int .u64 1)) :
    Calls Try.prog 63 #[.slice az lz cz, .slice (some ⟨xb, 0, none⟩) 1 cx, .int .u64 (s : Nat)] w (fun e w' => ∃ c, e = .returned (.slice (some ⟨w.heap.size, 0, none⟩) (q + 1) c) ∧ Wds w' (some ⟨w.heap.size, 0, none⟩) (q + 1) (powW q t) ∧ Below w.heap.size w w') := by
  have HC := hid (make_new w az lz cz (q + 2) (by omega) hcz)
  rw [show ((q + 2 : Nat) : Int) = 1 + (q : Int) + 1 by omega] at HC
  have hqi : (s : Int) / 64 = (q : Int) := by omega
  have hti : (s : Int) % 64 = (t : Int) := by omega
  have h0 : ((s : Int) == 0) = false := by rw [beq_eq_false_iff_ne]; omega
  have hqb : q ≤ 20000 := by omega
  have htb : t ≤ 63 := by omega
  have hxl := lt_of_cell hx
  have HX := hid hx
  clear hq ht hx
  go_enter Try.func63, Try.ntmps63
  go_upto_region 12 with (go_at_call 58; refine HC.out.mono ?_; clear HC; rintro e w1 ⟨cc, rfl, hc1, hc2, hr, hb⟩)
  simp only [hti]
  rename_i K1 hh1 K0 hh0
  have HK : Hid (∀ (a : Act) (w : World), _ → K1 a w) := hh1
  clear hh1
  have HR := hid (And.intro hr hb)
  have HXY := hid (And.intro hqi hti)
  clear hr hb hqi hti
  have hx1 : w1.cell? ⟨xb, 0, none⟩ = some (.int .u64 1) := (HR.out.2.cell hxl).trans HX.out
  have cq := HR.out.1.cell (i := q) (by omega)
  have fq := HR.out.1.frozen
  by_cases ht0 : t = 0
  · have hcp : ∀ ty, (Builtin.copy_ #[63, 63] ty #[.slice (some ⟨w.heap.size, q, none⟩) 1 (cc - q), .slice (some ⟨xb, 0, none⟩) 1 cx]).run Try.prog w1 = .ok (goInt 1) (w1.setCell ⟨w.heap.size, q, none⟩ (.int .u64 1)) := fun ty =>
      copy_words w1 w.heap.size 1 (cc - q) xb 1 cx q (fun _ => 1) rfl (fun i hi => by obtain rfl : i = 0 := (by omega); exact hx1) (fun j hj => by obtain rfl : j = 0 := (by omega); rw [Nat.add_zero, cq]; rfl) (fun j hj => fq _) ty
    have hr2 := pow_row (q := q) (t := t) HR.out.1 (.int .u64 1) (by rw [ht0]; rfl)
    have hb2 : Below w.heap.size w (w1.setCell ⟨w.heap.size, q, none⟩ (.int .u64 1)) := HR.out.2.setCell (Nat.le_refl _) _
    have c2 := hr2.cell (i := 1 + q) (by omega)
    have f2 := hr2.frozen
    have hr3 := pow_row2 hr2
    have hb3 : Below w.heap.size w ((w1.setCell ⟨w.heap.size, q, none⟩ (.int .u64 1)).setCell ⟨w.heap.size, 1 + q, none⟩ (.int .u64 0)) := hb2.setCell (Nat.le_refl _) _
    have HZ := hid (And.intro hr3 hb3)
    have ht0' : ((t : Int) == 0) = true := by rw [ht0]; rfl
    clear hr2 hb2 hr3 hb3 hx1
    go_wp2_with fail
    clear c2 f2 hcp cq fq ht0'
    generalize (w1.setCell ⟨w.heap.size, q, none⟩ (.int .u64 1)).setCell ⟨w.heap.size, 1 + q, none⟩ (.int .u64 0) = wz at HZ ⊢
    refine HK.out _ _ ?_
    clear HK
    by_cases hq0 : q = 0
    · subst hq0
      have hcl := clear_none wz
      have HN := hid (pow_norm (w := wz) hqb hc1 (fun j hj => HZ.out.1.cell (by omega)))
      go_wp2_with (go_at_call 60; refine HN.out.mono ?_; clear HN; rintro e w2 ⟨rfl, rfl⟩)
      go_ret
      exact ⟨cc, rfl, fun _ => ⟨_, rfl, fun j hj => HZ.out.1.cell (by omega)⟩, HZ.out.2⟩
    · have hcl := fun ty => clear_words wz w.heap.size q cc ty _ HZ.out.1 (by omega) (by omega)
      have HN := hid (pow_norm (q := q) (t := t) hqb hc1 (pow_clear HZ.out.1 hc1))
      go_wp2_with (go_at_call 60; refine HN.out.mono ?_; clear HN; rintro e w2 ⟨rfl, rfl⟩)
      go_ret
      exact ⟨cc, rfl, fun _ => ⟨_, rfl, fun j hj => pow_clear HZ.out.1 hc1 j (by omega)⟩, below_setCells HZ.out.2 (Nat.le_refl _) _⟩
  · have hent := lshVU_enters
    have HC := hid (lshVU_one w1 w.heap.size q (cc - q) xb cx t (.int .u64 0) (by omega) htb cq (fq q) hx1)
    have hr2 := pow_row (q := q) (t := t) HR.out.1 (.int .u64 (2 ^ t : Nat)) rfl
    have hb2 : Below w.heap.size w (w1.setCell ⟨w.heap.size, q, none⟩ (.int .u64 (2 ^ t : Nat))) := HR.out.2.setCell (Nat.le_refl _) _
    have c2 := hr2.cell (i := 1 + q) (by omega)
    have f2 := hr2.frozen
    have hr3 := pow_row2 hr2
    have hb3 : Below w.heap.size w ((w1.setCell ⟨w.heap.size, q, none⟩ (.int .u64 (2 ^ t : Nat))).setCell ⟨w.heap.size, 1 + q, none⟩ (.int .u64 0)) := hb2.setCell (Nat.le_refl _) _
    have HZ := hid (And.intro hr3 hb3)
    have ht0' : ((t : Int) == 0) = false := by rw [beq_eq_false_iff_ne]; omega
    clear hr2 hb2 hr3 hb3 hx1
    generalize 2 ^ t = p at *
    go_wp2_with (go_at_call 42; refine HC.out.mono ?_; clear HC; rintro e w2 ⟨rfl, rfl⟩)
    clear c2 f2 cq fq ht0' hent
    generalize (w1.setCell ⟨w.heap.size, q, none⟩ (.int .u64 (p : Nat))).setCell ⟨w.heap.size, 1 + q, none⟩ (.int .u64 0) = wz at HZ ⊢
    refine HK.out _ _ ?_
    clear HK
    by_cases hq0 : q = 0
    · subst hq0
      have hcl := clear_none wz
      have HN := hid (pow_norm (w := wz) hqb hc1 (fun j hj => HZ.out.1.cell (by omega)))
      go_wp2_with (go_at_call 60; refine HN.out.mono ?_; clear HN; rintro e w2 ⟨rfl, rfl⟩)
      go_ret
      exact ⟨cc, rfl, fun _ => ⟨_, rfl, fun j hj => HZ.out.1.cell (by omega)⟩, HZ.out.2⟩
    · have hcl := fun ty => clear_words wz w.heap.size q cc ty _ HZ.out.1 (by omega) (by omega)
      have HN := hid (pow_norm (q := q) (t := t) hqb hc1 (pow_clear HZ.out.1 hc1))
      go_wp2_with (go_at_call 60; refine HN.out.mono ?_; clear HN; rintro e w2 ⟨rfl, rfl⟩)
      go_ret
      exact ⟨cc, rfl, fun _ => ⟨_, rfl, fun j hj => pow_clear HZ.out.1 hc1 j (by omega)⟩, below_setCells HZ.out.2 (Nat.le_refl _) _⟩
end Go.Proofs.Qxb6002359a.B
