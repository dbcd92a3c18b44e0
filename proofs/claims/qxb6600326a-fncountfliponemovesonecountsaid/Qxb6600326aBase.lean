/-
  Seat b6600326a. Small facts on rows of cells; the error list in memory: no Go function is walked here.
-/
import Derived.Test.Qxb6600326aRows
import Derived.WalkKit
import Derived.WalkSpells
import Derived.WalkLawsBesides
namespace Go.Proofs.Qxb6600326a
open Go.RowKit

theorem Try.info4 : (Try.prog.info? 4).map (fun i => (i.zero, i.size, i.bytes)) = some (some (.bool false), 1, 1) := by kernel_rfl
theorem Try.info32 : (Try.prog.info? 32).map (fun i => (i.zero, i.size, i.bytes)) = some (some (.pointer none), 1, 8) := by kernel_rfl

/-- The cells vs lie one behind the other from the address ao on. -/
def Row (w : World) (ao : Option Addr) (vs : List Value) : Prop := ∀ i v, vs[i]? = some v → ∃ b off, ao = some ⟨b, off, none⟩ ∧ w.cell? ⟨b, off + i, none⟩ = some v

theorem Row.nil (w : World) (ao : Option Addr) : Row w ao [] := by intro i v h; simp at h

theorem Row.later {w w' : World} {ao : Option Addr} {vs : List Value} (h : Row w ao vs) (hb : Below w.heap.size w w') : Row w' ao vs := by
  intro i v hv
  obtain ⟨b, off, hx, hc⟩ := h i v hv
  exact ⟨b, off, hx, cell_later hb hc⟩

theorem Row.at {w : World} {b off : Nat} {vs : List Value} (h : Row w (some ⟨b, off, none⟩) vs) {i : Nat} {v : Value} (hv : vs[i]? = some v) : w.cell? ⟨b, off + i, none⟩ = some v := by
  obtain ⟨b', off', hy, hc⟩ := h i v hv
  cases hy
  exact hc

theorem Row.none_nil {w : World} {vs : List Value} (h : Row w none vs) : vs = [] := by
  cases vs with
  | nil => rfl
  | cons a l => obtain ⟨b, off, hx, _⟩ := h 0 a (by simp); cases hx

/-- What is owned can be read. -/
theorem Row.of_owns {w : World} {base : Nat} {e : TypeId} {size : Nat} {v : Value} {n : Nat} {xs : List Value} (h : w.ownsRow base e size v n xs) :
    ∃ ao cap, v = .slice ao n cap ∧ Row w ao xs := by
  obtain ⟨h1, h2 | ⟨g, cap, cur, rfl, hb, hg, hn, hm, hs, ht⟩⟩ := h
  · obtain ⟨rfl, rfl⟩ := h2
    refine ⟨none, 0, rfl, ?_⟩
    have : xs = [] := List.eq_nil_of_length_eq_zero (by simpa using h1)
    subst this
    exact Row.nil _ _
  · refine ⟨some ⟨g, 0, none⟩, cap, rfl, ?_⟩
    intro i u hu
    refine ⟨g, 0, rfl, ?_⟩
    have hc := World.ownsRow.cells (base := base) (e := e) (size := size) (n := n) (xs := xs) ⟨h1, .inr ⟨g, cap, cur, rfl, hb, hg, hn, hm, hs, ht⟩⟩ (g := g) rfl i u hu
    rw [Go.WideShapes.add_plain] at hc
    exact hc

/-- The same of a slice that is written out. -/
theorem Row.of_owns' {w : World} {base : Nat} {e : TypeId} {size : Nat} {ao : Option Addr} {n c : Nat} {xs : List Value} (h : w.ownsRow base e size (.slice ao n c) n xs) : Row w ao xs := by
  obtain ⟨a, b, h, r⟩ := Row.of_owns h
  cases h
  exact r

theorem take_set_step {xs ys : List Value} {k : Nat} {u : Value} (h : xs.take k = ys.take k) (hk : k < xs.length) (hu : ys[k]? = some u) : (xs.set k u).take (k + 1) = ys.take (k + 1) := by
  apply List.ext_getElem?
  intro i
  have hi := congrArg (fun l => l[i]?) h
  simp only [List.getElem?_take] at hi ⊢
  rw [List.getElem?_set]
  by_cases h1 : k = i
  · subst h1
    simp [hk, hu]
  · rw [if_neg h1]
    by_cases h2 : i < k
    · rw [if_pos h2, if_pos h2] at hi
      rw [if_pos (by omega), if_pos (by omega)]
      exact hi
    · rw [if_neg (by omega), if_neg (by omega)]


def bools (l : List Bool) : List Value := l.map Value.bool
theorem bools_at {l : List Bool} {i : Nat} {x : Bool} (h : l[i]? = some x) : (bools l)[i]? = some (.bool x) := by simp [bools, h]

/-- An error list lies in memory: its header in block b; a pointer an entry; each entry's field Warning reads as the flag says. -/
def ListAt (w : World) (b : Nat) (fl : List Bool) : Prop :=
  ∃ ao c, w.cell? ⟨b, 0, none⟩ = some (.slice ao fl.length c) ∧ ∀ i x, fl[i]? = some x → ∃ g o q, ao = some ⟨g, o, none⟩ ∧ w.cell? ⟨g, o + i, none⟩ = some (.pointer (some ⟨q, 0, none⟩)) ∧ w.cell? ⟨q, 3, none⟩ = some (.bool x)

theorem owns_setCell_ne {w : World} {base : Nat} {e : TypeId} {size g n cap : Nat} {xs : List Value} (h : w.ownsRow base e size (.slice (some ⟨g, 0, none⟩) n cap) n xs) {a : Addr} (ha : a.block ≠ g) (u : Value) : (w.setCell a u).ownsRow base e size (.slice (some ⟨g, 0, none⟩) n cap) n xs := by
  obtain ⟨h1, h2⟩ := h
  refine ⟨h1, ?_⟩
  rcases h2 with h2 | ⟨g', cap', cur, hv, hg, hh, r⟩
  · exact Or.inl h2
  · cases hv
    exact Or.inr ⟨g, cap, cur, rfl, hg, by rw [Below.heap_setCell _ _ _ _ (fun e => ha e.symm)]; exact hh, r⟩

theorem owns_lt {w : World} {base : Nat} {e : TypeId} {size g n cap : Nat} {xs : List Value} (h : w.ownsRow base e size (.slice (some ⟨g, 0, none⟩) n cap) n xs) : g < w.heap.size := (h.lt g rfl).2

theorem below_step {w x y : World} (h : Below w.heap.size w x) (k : Below x.heap.size x y) : Below w.heap.size w y := h.trans (k.mono h.size)

end Go.Proofs.Qxb6600326a
