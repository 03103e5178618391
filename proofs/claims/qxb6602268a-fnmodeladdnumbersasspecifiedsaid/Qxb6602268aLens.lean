/- zzAddStringLens, zzAddPointedLens: some number of a bounded size comes back. -/
import Derived.Test.Qxb6602268aSmall
namespace Go.Proofs.Qxb6602268a.M
open Go.ChangeShapes Go.WideShapes Go.ChangeAt Go.RowKit Go.Maps
set_option linter.unusedVariables false

def RetSome (w w' : World) (e : Ending) : Prop := ∃ t : Nat, e = .returned (.int .i64 t) ∧ t ≤ 2097152 ∧ w' = w

set_option maxRecDepth 100000 in
theorem addStringLens_any (w : World) (a : Option Addr) (c t : Nat) (L : List ByteArray) (hL : L.length ≤ 1048576) (ht : t ≤ 1048576) (hs : Strs w a L) :
    Calls Try.prog 39 #[.int .i64 t, .slice a L.length c] w (fun e w' => RetSome w w' e) := by
  have HS : Hid (Strs w a L) := hs
  clear hs
  go_enter Try.func39, Try.ntmps39
  go_wp2_with fail
  go_loopw [0, 5] (fun tv i wr => ∃ k t : Nat, k ≤ L.length ∧ t ≤ 1048576 ∧ tv = .int .i64 t ∧ i = .int .i64 k ∧ wr = w) (fun _ i _ => L.length - (intOf i).toNat)
  case atStart => exact ⟨0, t, Nat.zero_le _, ht, rfl, rfl, rfl⟩
  case round =>
    obtain ⟨k, t, hk, htt, rfl, rfl, rfl⟩ := hrel
    by_cases hlt : k < L.length
    · obtain ⟨b, o, rfl, hc⟩ := HS.out (by omega)
      have c1 : wr.cell? ⟨b, o + k, none⟩ = some (.string (nth L k)) := hc k hlt
      have hkn : (k : Int) < L.length := by omega
      clear hc
      obtain ⟨s, hs⟩ : ∃ s, s = nth L k := ⟨_, rfl⟩
      rw [← hs] at c1
      clear hs
      by_cases h1 : s.size ≤ 1048576
      · have h1' : ¬ (s.size : Int) > 1048576 := by omega
        by_cases h2 : t + s.size ≤ 1048576
        · have h2' : ¬ (t : Int) + s.size > 1048576 := by omega
          go_wp2_with fail
          go_roundw
          case rel => exact ⟨k + 1, t + s.size, by omega, by omega, by go_num, by go_num, by simp⟩
          case measure => simp [intOf]; omega
        · have h2' : (t : Int) + s.size > 1048576 := by omega
          go_wp2_with fail
          go_ret
          exact ⟨t + s.size, by simp, by omega, rfl⟩
      · have h1' : (s.size : Int) > 1048576 := by omega
        go_wp2_with fail
        go_ret
        exact ⟨1048577, rfl, by omega, rfl⟩
    · obtain rfl : k = L.length := by omega
      go_wp2_with fail
      go_ret
      exact ⟨t, rfl, by omega, rfl⟩

/-- A slice of pointers to strings: A i the pointer, T i the text. -/
structure Ptrs (w : World) (a : Option Addr) (n : Nat) (A : Nat → Option Addr) (T : Nat → ByteArray) : Prop where
  row : Vals w a n (fun i => .pointer (A i))
  txt : ∀ i, i < n → ∀ x, A i = some x → w.cell? x = some (.string (T i))
  fit : ∀ i, (T i).size ≤ maxLen

set_option maxRecDepth 100000 in
theorem addPointedLens_any (w : World) (a : Option Addr) (n c t : Nat) (A : Nat → Option Addr) (T : Nat → ByteArray) (hL : n ≤ 1048576) (ht : t ≤ 1048576) (hs : Ptrs w a n A T) :
    Calls Try.prog 40 #[.int .i64 t, .slice a n c] w (fun e w' => RetSome w w' e) := by
  have HS : Hid (Ptrs w a n A T) := hs
  clear hs
  go_enter Try.func40, Try.ntmps40
  go_wp2_with fail
  go_loopw [0, 5] (fun tv i wr => ∃ k t : Nat, k ≤ n ∧ t ≤ 1048576 ∧ tv = .int .i64 t ∧ i = .int .i64 k ∧ wr = w) (fun _ i _ => n - (intOf i).toNat)
  case atStart => exact ⟨0, t, Nat.zero_le _, ht, rfl, rfl, rfl⟩
  case round =>
    obtain ⟨k, t, hk, htt, rfl, rfl, rfl⟩ := hrel
    by_cases hlt : k < n
    · obtain ⟨b, o, rfl, hc⟩ := HS.out.row (by omega)
      have c1 : wr.cell? ⟨b, o + k, none⟩ = some (.pointer (A k)) := hc k hlt
      have hkn : (k : Int) < n := by omega
      clear hc
      cases hA : A k with
      | none =>
        rw [hA] at c1
        go_wp2_with fail
        go_roundw
        case rel => exact ⟨k + 1, t, by omega, by omega, rfl, by go_num, by simp⟩
        case measure => simp [intOf]; omega
      | some x =>
        rw [hA] at c1
        have c2 := HS.out.txt k hlt x hA
        obtain ⟨s, hs⟩ : ∃ s, s = T k := ⟨_, rfl⟩
        rw [← hs] at c2
        clear hs hA
        by_cases h1 : s.size ≤ 1048576
        · have h1' : ¬ (s.size : Int) > 1048576 := by omega
          by_cases h2 : t + s.size ≤ 1048576
          · have h2' : ¬ (t : Int) + s.size > 1048576 := by omega
            go_wp2_with fail
            go_roundw
            case rel => exact ⟨k + 1, t + s.size, by omega, by omega, by go_num, by go_num, by simp⟩
            case measure => simp [intOf]; omega
          · have h2' : (t : Int) + s.size > 1048576 := by omega
            go_wp2_with fail
            go_ret
            exact ⟨t + s.size, by simp, by omega, rfl⟩
        · have h1' : (s.size : Int) > 1048576 := by omega
          go_wp2_with fail
          go_ret
          exact ⟨1048577, rfl, by omega, rfl⟩
    · obtain rfl : k = n := by omega
      go_wp2_with fail
      go_ret
      exact ⟨t, rfl, by omega, rfl⟩

end Go.Proofs.Qxb6602268a.M
