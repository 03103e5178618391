/- Slices of strings and of pointers to strings that came in, opened. -/
import Derived.Test.Qxb6602268aOpen
import Derived.Test.Qxb6602268aAddWalk
import Derived.Deep.Strs
import Derived.SliceStrings
namespace Go.Proofs.Qxb6602268a.M
open Go.ChangeShapes Go.WideShapes Go.ChangeAt Go.RowKit
set_option linter.unusedVariables false

section
variable {H : Type} {enc : TypeId × Value → H} {W : World}

theorem open40 {a : Option Addr} {n c : Nat} {d : DataW H} {p : List MemPlace} (h : DataW.Trod enc Try.prog W 0 (fun _ => true) true 40 (.slice a n c) d p) :
    ∃ L : List ByteArray, n = L.length ∧ Strs W a L ∧ Fits L := by
  obtain ⟨fuel, hf⟩ := h
  rcases open_strings Try.underlying40 Try.underlying9 (by kernel_rfl) hf with ⟨hcs, _⟩ | ⟨x, l, c', ss, hcs, _, hl, hm, hz, _, hcell, hwz⟩
  · simp [Value.cells] at hcs
    obtain ⟨rfl, rfl, rfl⟩ := hcs
    exact ⟨[], rfl, (fun h => by simp at h), Fits.of_mem (by simp)⟩
  · simp [Value.cells] at hcs
    obtain ⟨rfl, rfl, rfl⟩ := hcs
    have hz' : ss.length = c := by simpa using hz
    have hlen : (ss.take n).length = n := by simp; omega
    refine ⟨ss.take n, hlen.symm, fun h0 => ?_, Fits.of_mem fun s hs => hwz s (List.mem_of_mem_take hs)⟩
    rw [hlen] at h0
    obtain ⟨b, o, e, hc⟩ := at_add (α := Unit) (f := fun i => .string (ss.getD i ByteArray.empty)) (n := n) (fun i hi => hcell i (by omega)) h0
    refine ⟨b, o, by rw [e], fun i hi => ?_⟩
    rw [hlen] at hi
    rw [hc i hi]
    have : nth (ss.take n) i = ss.getD i ByteArray.empty := by
      unfold nth
      simp only [List.getD_eq_getElem?_getD, List.getElem?_take_of_lt hi]
    show _ = some (Value.string (nth (ss.take n) i))
    rw [this]

theorem open41 {a : Option Addr} {n c : Nat} {d : DataW H} {p : List MemPlace} (h : DataW.Trod enc Try.prog W 0 (fun _ => true) true 41 (.slice a n c) d p) :
    ∃ (A : Nat → Option Addr) (T : Nat → ByteArray), Ptrs W a n A T := by
  obtain ⟨fuel, hf⟩ := h
  rcases Deep.open_slice1 Try.underlying41 (by kernel_rfl) hf with ⟨hcs, _⟩ | ⟨x, l, c', m, k, V, D, Pl, hcs, _, hl, hm, hmm, _, hrow⟩
  · simp [Value.cells] at hcs
    obtain ⟨rfl, rfl, rfl⟩ := hcs
    exact ⟨fun _ => none, fun _ => ByteArray.empty, (fun h => by omega), (fun i hi => by omega), fun i => by simp⟩
  · simp [Value.cells] at hcs
    obtain ⟨rfl, rfl, rfl⟩ := hcs
    have hmc : m = c := by simpa using hmm
    have each : ∀ i, i < n → ∃ q : Option Addr × ByteArray, V i = .pointer q.1 ∧ (∀ y, q.1 = some y → W.cell? y = some (.string q.2)) ∧ q.2.size ≤ maxLen := by
      intro i hi
      obtain ⟨h1, h2⟩ := hrow i (by omega)
      rcases DataW.trod_pointer Try.underlying81 h2 with ⟨h3, _⟩ | ⟨ad, cs', y, mm, _, h3, _, hcells, hy⟩
      · exact ⟨(none, ByteArray.empty), by simpa using h3, (fun y e => by cases e), by simp⟩
      · obtain ⟨s, rfl, _, hs⟩ := DataW.trod_string Try.underlying9 hy
        have hc1 : Try.prog.cellsOf 9 = 1 := by kernel_rfl
        rw [hc1] at hcells
        exact ⟨(some ad, s), by simpa using h3, (fun y e => by cases e; exact cell_of_cells?_one hcells), hs⟩
    obtain ⟨q, hq⟩ := Deep.choose_lt each
    refine ⟨fun i => if i < n then (q i).1 else none, fun i => if i < n then (q i).2 else ByteArray.empty, fun h0 => ?_, fun i hi y hy => ?_, fun i => ?_⟩
    · obtain ⟨b, o, e, hc⟩ := at_add (α := Unit) (f := fun i => .pointer (q i).1) (n := n) (fun i hi => by rw [(hrow i (by omega)).1, (hq i hi).1]) h0
      refine ⟨b, o, by rw [e], fun i hi => ?_⟩
      show _ = some (Value.pointer (if i < n then (q i).1 else none))
      rw [hc i hi, if_pos hi]
    · show W.cell? y = some (Value.string (if i < n then (q i).2 else ByteArray.empty))
      have hy' : (if i < n then (q i).1 else none) = some y := hy
      rw [if_pos hi] at hy' ⊢
      exact (hq i hi).2.1 y hy'
    · split
      · rename_i hi
        exact (hq i hi).2.2
      · simp
end

end Go.Proofs.Qxb6602268a.M
