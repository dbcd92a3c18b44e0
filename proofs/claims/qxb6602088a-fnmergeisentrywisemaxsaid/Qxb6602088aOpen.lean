/-
  Seat b6602088a. The four arguments of a clock law, opened into what its walk is told.
-/
import Derived.Test.Qxb6602088aShare
import Derived.ProofKit
import Derived.OpenShut
import Derived.SliceStrings
namespace Go.Proofs.Qxb6602088a
open Go.ChangeShapes Go.WideShapes Go.ChangeAt Go.RowKit

theorem row_of_cells {w : World} {x : Addr} {vs : List Value} (h : ∀ i v, vs[i]? = some v → w.cell? (x.add i) = some v) : Row w (some x) vs := by
  intro i v hv
  have h0 : ∃ u, vs[0]? = some u := ⟨vs[0]'(by have := (List.getElem?_eq_some_iff.1 hv).1; omega), List.getElem?_eq_getElem _⟩
  obtain ⟨u, hu⟩ := h0
  have hc0 := h 0 u hu
  have hc := h i v hv
  obtain ⟨b, off, spot⟩ := x
  have hspot : spot = none := by simpa [Addr.add] using World.cell?_spot hc0
  subst hspot
  rw [add_plain] at hc
  exact ⟨b, off, rfl, hc⟩

theorem opened_strs {H : Type} {enc : TypeId × Value → H} {W : World} {a : Option Addr} {len cap : Nat} {d : DataW H} {p : List MemPlace}
    (h : DataW.Trod enc Try.prog W 0 (fun _ => true) true 22 (.slice a len cap) d p) : ∃ A : List ByteArray, A.length = len ∧ len ≤ maxLen ∧ (∀ (i : Nat) (x : ByteArray), A[i]? = some x → x.size ≤ maxLen) ∧ Row W a (strs A) := by
  obtain ⟨fuel, hf⟩ := h
  rcases open_strings Try.underlying22 Try.underlying9 (by kernel_rfl) hf with ⟨hcs, _⟩ | ⟨x, l, c, ss, hcs, _, hl, hm, hz, _, hcell, hws⟩
  · simp [Value.cells] at hcs
    obtain ⟨rfl, rfl, rfl⟩ := hcs
    exact ⟨[], rfl, Nat.zero_le _, fun i x hx => by simp at hx, Row.nil _ _⟩
  · simp [Value.cells] at hcs
    obtain ⟨rfl, rfl, rfl⟩ := hcs
    simp only [if_true] at hz
    refine ⟨ss.take len, by simp; omega, by omega, ?_, row_of_cells ?_⟩
    · intro i y hy
      rw [List.getElem?_take] at hy
      split at hy
      · exact hws y (List.mem_of_getElem? hy)
      · cases hy
    · intro i v hv
      simp only [strs, List.getElem?_map, Option.map_eq_some_iff] at hv
      obtain ⟨y, hy, rfl⟩ := hv
      rw [List.getElem?_take] at hy
      split at hy
      · have hi := (List.getElem?_eq_some_iff.1 hy).1
        rw [hcell i hi]
        simp [List.getD, hy]
      · cases hy

theorem opened_u64s {H : Type} {enc : TypeId × Value → H} {W : World} {a : Option Addr} {len cap : Nat} {d : DataW H} {p : List MemPlace}
    (h : DataW.Trod enc Try.prog W 0 (fun _ => true) true 23 (.slice a len cap) d p) : ∃ C : List Nat, C.length = len ∧ len ≤ maxLen ∧ (∀ z ∈ C, z < 18446744073709551616) ∧ Row W a (u64s C) := by
  obtain ⟨fuel, hf⟩ := h
  rcases open_ints Try.underlying23 Try.underlying34 (by kernel_rfl) hf with ⟨hcs, _⟩ | ⟨x, l, c, zs, hcs, _, hl, hm, hz, _, hcell, hwz⟩
  · simp [Value.cells] at hcs
    obtain ⟨rfl, rfl, rfl⟩ := hcs
    exact ⟨[], rfl, Nat.zero_le _, fun x hx => by simp at hx, Row.nil _ _⟩
  · simp [Value.cells] at hcs
    obtain ⟨rfl, rfl, rfl⟩ := hcs
    simp only [if_true] at hz
    refine ⟨(zs.take len).map Int.toNat, by simp; omega, by omega, ?_, row_of_cells ?_⟩
    · intro z hz'
      obtain ⟨y, hy, rfl⟩ := List.mem_map.1 hz'
      have := bounds_u64 (hwz y (List.mem_of_mem_take hy))
      omega
    · intro i v hv
      simp only [u64s, List.getElem?_map, Option.map_map, Option.map_eq_some_iff] at hv
      obtain ⟨z, hz', rfl⟩ := hv
      rw [List.getElem?_take] at hz'
      split at hz'
      · have hi := (List.getElem?_eq_some_iff.1 hz').1
        have hb := bounds_u64 (hwz z (List.mem_of_getElem? hz'))
        rw [hcell i hi]
        simp only [Function.comp, List.getD, hz', Option.getD_some]
        rw [Int.toNat_of_nonneg hb.1]
      · cases hz'

end Go.Proofs.Qxb6602088a
