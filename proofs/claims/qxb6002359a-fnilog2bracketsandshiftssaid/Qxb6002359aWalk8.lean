/- The law's own way: the bytes are a number that is not 0. -/
import Derived.Test.Qxb6002359aLaw8
namespace Go.Proofs.Qxb6002359a.B
open Go.RowKit Go.ChangeShapes Go.WideShapes Go.ChangeAt
set_option linter.unusedVariables false
set_option linter.unusedSimpArgs false

set_option maxRecDepth 100000 in
theorem law_walk (w : World) (x : Addr) (n c : Nat) (b : Bool) (hn : n ≤ 4096) (Z : Nat → Nat) (hz : Bts w x n Z) (h0 : ∃ i, i < n ∧ Z i ≠ 0) : Calls Try.prog 6 #[.slice (some x) n c, .bool b] w (fun e w' => e = .returned (.bool true) ∧ Below w.heap.size w w') := by
  have HC := hid (zzBytes_any w (some x) n c b (by omega))
  rw [show decide (n ≤ 1048576) = true by simp; omega] at HC
  have HD : Hid (Calls Try.prog 19 #[.slice (some x) n c] w (fun e w' => e = .returned (.bool false) ∧ w' = w)) := (zzIsZero_any w x n c Z hn hz).mono (by
    rintro e w' ⟨⟨rfl, h⟩ | ⟨rfl, i, hi, hi0⟩, rfl⟩
    · obtain ⟨i, hi, hi0⟩ := h0
      exact absurd (h i hi) hi0
    · exact ⟨rfl, rfl⟩)
  have HCl := hid (clone_any w x n c Z hn hz)
  have hn1 : 1 ≤ n := by obtain ⟨i, hi, _⟩ := h0; omega
  have hX : bval Z n ≠ 0 := by obtain ⟨i, hi, hi0⟩ := h0; exact bval_pos hi hi0
  have hzz : ∀ i, i < n → Z i ≤ 255 := fun i hi => (hz i hi).2
  have H0 := hid h0
  have HZ := hid hzz
  have HA := hid (fun w1 h ng => askA (B := w.heap.size) hn1 hn hzz hX w1 h ng)
  have HI := hid (fun w1 h ng => askC (B := w.heap.size) hn1 hn hzz hX w1 h ng)
  have HA2 := hid (fun B w1 h ng => askA2 (B := B) hn1 hn hzz hX w1 h ng)
  have HI2 := hid (fun B w1 h ng => askC2 (B := B) hn1 hn hzz hX w1 h ng)
  obtain ⟨ha1, ha2, hc1, hc2⟩ := lg_bound hn hzz hX
  have HPa := hid (fun h => lgInv_pow (X := bval Z n) h)
  have HPb := hid (fun h => lgInv_not (X := bval Z n) h)
  have HX := hid hX
  have HFl := hid (fun w1 h => floor_any w1 (bval Z n) (by omega) h)
  have HCe := hid (fun w1 h => ceil_any w1 (bval Z n) (by omega) h)
  have h2 : ¬ (4096 : Int) < n := by omega
  have hmk : ∀ w : World, (Instr.makeSlice 30 (.int .i64 ((n : Int) + 1)) (.int .i64 ((n : Int) + 1))).run Try.prog w = .ok (.slice (some ⟨w.heap.size, 0, none⟩) (n + 1) (n + 1)) (w.alloc (.cells (madeCells #[.int .u8 0] (n + 1)) 5)) := by
    have := run_make_row' (P := Try.prog) 30 5 (.int .u8 0) 1 Try.underlying30 info5 rfl .i64 .i64 (n + 1) (by omega) (by omega)
    rw [show ((n + 1 : Nat) : Int) = (n : Int) + 1 by omega] at this
    exact this
  clear hz h0 hX hzz
  generalize lg (bval Z n) = a at *
  generalize lgInv (bval Z n) = ci at *
  go_enter Try.func6, Try.ntmps6
  go_wp2_with (first
    | (go_at_call 18; refine HC.out.mono ?_; clear HC; rintro e w1 ⟨rfl, hw1⟩; replace hw1 := hw1.symm; subst hw1)
    | (go_at_call 19; refine HD.out.mono ?_; clear HD; rintro e w1 ⟨rfl, hw1⟩; replace hw1 := hw1.symm; subst hw1)
    | (go_at_call 20; refine HCl.out.mono ?_; clear HCl; rintro e w1 ⟨rfl, hrow, hbel⟩; have HQ1 := hid (HA.out w1 hrow false); have HR := hid (And.intro hrow hbel); clear hrow hbel)
    | (go_at_call 21; refine HQ1.out.mono ?_; clear HQ1; rintro e w2 ⟨rfl, hb⟩; have hrow := row_below HR.out.1 hb; have hbel := below_then HR.out.2 hb; clear HR hb; have HQ2 := hid (HA.out w2 hrow true); have HR := hid (And.intro hrow hbel); clear hrow hbel)
    | (go_at_call 21; refine HQ2.out.mono ?_; clear HQ2; rintro e w3 ⟨rfl, hb⟩; have hrow := row_below HR.out.1 hb; have hbel := below_then HR.out.2 hb; clear HR hb; have HQ3 := hid (HI.out w3 hrow false); have HR := hid (And.intro hrow hbel); clear hrow hbel)
    | (go_at_call 21; refine HQ3.out.mono ?_; clear HQ3; rintro e w4 ⟨rfl, hb⟩; have hrow := row_below HR.out.1 hb; have hbel := below_then HR.out.2 hb; clear HR hb; have HQ4 := hid (HI.out w4 hrow true); have HR := hid (And.intro hrow hbel); clear hrow hbel)
    | (go_at_call 21; refine HQ4.out.mono ?_; clear HQ4; rintro e w5 ⟨rfl, hb⟩; have hrow := row_below HR.out.1 hb; have hbel := below_then HR.out.2 hb; clear HR hb; have HR := hid (And.intro hrow hbel); clear hrow hbel))
  have hlt := HR.out.1.lt
  go_loopw [8] (fun i wr => ∃ (k : Nat), k ≤ n ∧ i = .int .i64 k ∧ wr.rowIs w5.heap.size 5 (n + 1) (rowB Z k) ∧ wr.rowIs w.heap.size 5 n (rowB Z n) ∧ Below w.heap.size w wr) (fun i _ => n - (intOf i).toNat)
  case atStart => exact ⟨0, by omega, rfl, World.rowIs_made w5 (.int .u8 0) (n + 1) 5, HR.out.1.alloc _, below_then HR.out.2 ((Below.refl _ _).alloc (Nat.le_refl _) _)⟩
  case round =>
    obtain ⟨k, hk, rfl, hrow2, hrow, hbel⟩ := hrel
    clear hmk HR
    have HR := hid (And.intro hrow2 (And.intro hrow hbel))
    by_cases hkn : k = n
    · clear hrow2 hrow hbel
      subst hkn
      have h1 : ¬ (k : Int) < k := by omega
      have HQ5 := hid (HA2.out w5.heap.size wr HR.out.1 b)
      clear HA HI HA2
      go_wp2_with (first
        | (go_at_call 21; refine HQ5.out.mono ?_; clear HQ5; rintro e w6 ⟨rfl, hb⟩; have hrow2 := row_below HR.out.1 hb; have hrow := row_below HR.out.2.1 hb; have hbel := below_then HR.out.2.2 hb; clear HR hb; have HQ6 := hid (HI2.out w5.heap.size w6 hrow2 b); have HR := hid (And.intro hrow hbel); clear hrow2 hrow hbel)
        | (go_at_call 21; refine HQ6.out.mono ?_; clear HQ6; rintro e w7 ⟨rfl, hb⟩; have hrow := row_below HR.out.1 hb; have hbel := below_then HR.out.2 hb; clear HR hb; have HQ7 := hid (pow_any w7 w.heap.size k k Z hn (row_cells hrow HZ.out)); have HR := hid (And.intro hrow hbel); clear hrow hbel))
      by_cases hpc : pc (bval Z k) = 1
      · rw [show decide (pc (bval Z k) = 1) = true by simpa using hpc] at HQ7
        have hca : (ci == -a) = true := by rw [HPa.out hpc]; simp
        clear hpc HPa HPb
        go_wp2_with (go_at_call 22; refine HQ7.out.mono ?_; clear HQ7; rintro e w8 ⟨rfl, hw8⟩; replace hw8 := hw8.symm; subst hw8)
        clear hca
        refine (small_any w7 w.heap.size k k Z hn (row_cells HR.out.1 HZ.out) H0.out).mono ?_
        rintro e w8 ⟨rfl | ⟨rfl, hX64⟩, hw8⟩
        · replace hw8 := hw8.symm
          subst hw8
          go_wp2_with fail
          go_ret
          exact ⟨rfl, HR.out.2⟩
        · replace hw8 := hw8.symm
          subst hw8
          have HQ8 := hid (HFl.out w7 hX64)
          have HQ9 := hid (HCe.out w7 hX64)
          clear HFl HCe hX64
          go_wp2_with (first
            | (go_at_call 24; refine HQ8.out.mono ?_; clear HQ8; rintro e w8 ⟨rfl, hw8⟩; replace hw8 := hw8.symm; subst hw8)
            | (go_at_call 25; refine HQ9.out.mono ?_; clear HQ9; rintro e w8 ⟨kk, hkk, rfl, hcc, hw8⟩; replace hw8 := hw8.symm; subst hw8; replace hcc : (ci == -(kk : Int)) = true := by { rw [hcc]; simp }))
          go_ret
          exact ⟨rfl, HR.out.2⟩
      · rw [show decide (pc (bval Z k) = 1) = false by simpa using hpc] at HQ7
        have hca : (ci == -a - 1) = true := by rw [HPb.out hpc]; simp
        clear hpc HPa HPb
        go_wp2_with (go_at_call 22; refine HQ7.out.mono ?_; clear HQ7; rintro e w8 ⟨rfl, hw8⟩; replace hw8 := hw8.symm; subst hw8)
        clear hca
        refine (small_any w7 w.heap.size k k Z hn (row_cells HR.out.1 HZ.out) H0.out).mono ?_
        rintro e w8 ⟨rfl | ⟨rfl, hX64⟩, hw8⟩
        · replace hw8 := hw8.symm
          subst hw8
          go_wp2_with fail
          go_ret
          exact ⟨rfl, HR.out.2⟩
        · replace hw8 := hw8.symm
          subst hw8
          have HQ8 := hid (HFl.out w7 hX64)
          have HQ9 := hid (HCe.out w7 hX64)
          clear HFl HCe hX64
          go_wp2_with (first
            | (go_at_call 24; refine HQ8.out.mono ?_; clear HQ8; rintro e w8 ⟨rfl, hw8⟩; replace hw8 := hw8.symm; subst hw8)
            | (go_at_call 25; refine HQ9.out.mono ?_; clear HQ9; rintro e w8 ⟨kk, hkk, rfl, hcc, hw8⟩; replace hw8 := hw8.symm; subst hw8; replace hcc : (ci == -(kk : Int)) = true := by { rw [hcc]; simp }))
          go_ret
          exact ⟨rfl, HR.out.2⟩
    · have h1 : (k : Int) < n := by omega
      have c1 := (row_cells hrow HZ.out k (by omega)).1
      have c2 := hrow2.cell (i := k) (by omega)
      have f1 := hrow2.frozen k
      have hk2 : (k : Int) < (n : Int) + 1 := by omega
      clear hrow2 hrow hbel HA HI HA2 HI2 HPa HPb HFl HCe H0 HX ha1 ha2 hc1 hc2
      go_wp2_with fail
      refine ⟨⟨k + 1, by omega, by simp, rowB_set HR.out.1, HR.out.2.1.setOther (by simp; omega) _, HR.out.2.2.setCell (Nat.le_of_lt hlt) _⟩, by simp only [intOf]; omega⟩
end Go.Proofs.Qxb6002359a.B
