/-
  Seat b6602088a. Small facts on rows of cells, for the walks: no Go function is walked here.
-/
import Derived.Test.Qxb6602088aRows
import Derived.WalkKit
import Derived.WalkSpells
import Derived.WalkLawsBesides
import Derived.BigQuiet
import Derived.Deep.QuietTactic
import Derived.Deep.RegionLaw
namespace Go.Proofs.Qxb6602088a
open Go.RowKit

theorem Try.info5 : (Try.prog.info? 5).map (fun i => (i.zero, i.size, i.bytes)) = some (some (.int .u8 0), 1, 1) := by kernel_rfl
theorem Try.info9 : (Try.prog.info? 9).map (fun i => (i.zero, i.size, i.bytes)) = some (some (.string ByteArray.empty), 1, 16) := by kernel_rfl
theorem Try.info34 : (Try.prog.info? 34).map (fun i => (i.zero, i.size, i.bytes)) = some (some (.int .u64 0), 1, 8) := by kernel_rfl

/-- The cells vs lie one behind the other from the address ao on. -/
def Row (w : World) (ao : Option Addr) (vs : List Value) : Prop := ∀ i v, vs[i]? = some v → ∃ b off, ao = some ⟨b, off, none⟩ ∧ w.cell? ⟨b, off + i, none⟩ = some v

theorem Row.nil (w : World) (ao : Option Addr) : Row w ao [] := by intro i v h; simp at h

theorem Row.later {w w' : World} {ao : Option Addr} {vs : List Value} (h : Row w ao vs) (hb : Below w.heap.size w w') : Row w' ao vs := by
  intro i v hv
  obtain ⟨b, off, hx, hc⟩ := h i v hv
  exact ⟨b, off, hx, cell_later hb hc⟩

theorem Row.drewN {w : World} {ao : Option Addr} {vs : List Value} (h : Row w ao vs) (n : Nat) : Row (w.drewN n) ao vs := h

theorem Row.at {w : World} {b off : Nat} {vs : List Value} (h : Row w (some ⟨b, off, none⟩) vs) {i : Nat} {v : Value} (hv : vs[i]? = some v) : w.cell? ⟨b, off + i, none⟩ = some v := by
  obtain ⟨b', off', hy, hc⟩ := h i v hv
  cases hy
  exact hc

theorem Row.none_nil {w : World} {vs : List Value} (h : Row w none vs) : vs = [] := by
  cases vs with
  | nil => rfl
  | cons a l => obtain ⟨b, off, hx, _⟩ := h 0 a (by simp); cases hx

/-- What is owned can be read. -/
theorem Row.of_owns {w : World} {base : Nat} {e : TypeId} {size : Nat} {v : Value} {n : Nat} {xs : List Value} (h : w.ownsRow base e size v n xs) :
    ∃ ao cap, v = .slice ao n cap ∧ Row w ao xs := by
  obtain ⟨h1, h2 | ⟨g, cap, cur, rfl, hb, hg, hn, hm, hs, ht⟩⟩ := h
  · obtain ⟨rfl, rfl⟩ := h2
    refine ⟨none, 0, rfl, ?_⟩
    have : xs = [] := List.eq_nil_of_length_eq_zero (by simpa using h1)
    subst this
    exact Row.nil _ _
  · refine ⟨some ⟨g, 0, none⟩, cap, rfl, ?_⟩
    intro i u hu
    refine ⟨g, 0, rfl, ?_⟩
    have hc := World.ownsRow.cells (base := base) (e := e) (size := size) (n := n) (xs := xs) ⟨h1, .inr ⟨g, cap, cur, rfl, hb, hg, hn, hm, hs, ht⟩⟩ (g := g) rfl i u hu
    rw [Go.WideShapes.add_plain] at hc
    exact hc

/-- The same of a slice that is written out. -/
theorem Row.of_owns' {w : World} {base : Nat} {e : TypeId} {size : Nat} {ao : Option Addr} {n c : Nat} {xs : List Value} (h : w.ownsRow base e size (.slice ao n c) n xs) : Row w ao xs := by
  obtain ⟨a, b, h, r⟩ := Row.of_owns h
  cases h
  exact r

theorem take_set_step {xs ys : List Value} {k : Nat} {u : Value} (h : xs.take k = ys.take k) (hk : k < xs.length) (hu : ys[k]? = some u) : (xs.set k u).take (k + 1) = ys.take (k + 1) := by
  apply List.ext_getElem?
  intro i
  have hi := congrArg (fun l => l[i]?) h
  simp only [List.getElem?_take] at hi ⊢
  rw [List.getElem?_set]
  by_cases h1 : k = i
  · subst h1
    simp [hk, hu]
  · rw [if_neg h1]
    by_cases h2 : i < k
    · rw [if_pos h2, if_pos h2] at hi
      rw [if_pos (by omega), if_pos (by omega)]
      exact hi
    · rw [if_neg (by omega), if_neg (by omega)]

/-- 'append' onto a row of the call's own, as one step of a region that draws its order. -/
theorem step_append_own {P : Program} {ops : Array Oper} {o : Oper} {a : Act} {w : World} {K : Act → World → Prop} {Q : Exit → Act → World → Prop} {E : Prop}
    (hg : o.guard = none) (s x : Operand) (t : TypeId) (hop : o.op = Op.call { callee := Callee.builtin Builtin.append, args := #[s, x], argTypes := #[t, t] })
    (base : Nat) (e : TypeId) (i : TypeInfo) (z : Value) (size bytes : Nat) (ht : P.underlying t = some (.slice e)) (hi : P.info? e = some i) (hz : i.zero = some z)
    (hsize : i.size = size) (hby : i.bytes = bytes) (hzs : z.cells.size = size) (hsz : 0 < size)
    (v : Value) (n : Nat) (xs : List Value) (hs : a.eval s = v) (hown : w.ownsRow base e size v n xs)
    (ad : Addr) (m c : Nat) (news : List Value) (hx : a.eval x = .slice (some ad) m c) (hl : news.length = m * size) (hnews : ∀ j u, news[j]? = some u → w.cell? (ad.add j) = some u) (h1 : ∀ u ∈ news, u.oneCell' = true)
    (h63 : n + m ≤ maxLen) (hbytes : (n + m) * bytes ≤ 140737488355328) (hbase : base ≤ w.heap.size)
    (hK : ∀ v' w', w'.ownsRow base e size v' (n + m) (xs ++ news) → w.grownBy w' v.ownBlock → K (a.put o.dst v') w') :
    if Region.wanted o (yielded ops a.tmps) = true then Oper.wp P o a w K Q else E := by
  have hw : Region.wanted o (yielded ops a.tmps) = true := by simp [Region.wanted, hg]
  rw [if_pos hw]
  exact wp_append_own w s x t hop base e i z size bytes ht hi hz hsize hby hzs hsz v n xs hs hown ad m c news hx hl hnews h1 h63 hbytes hbase fun v' w' h2 h3 _ => hK v' w' h2 h3

/-- The new cells of an append of literal elements lie in the block that was laid for them. -/
theorem cells_of_new (w : World) (l : List Value) (t : TypeId) : ∀ j u, l[j]? = some u → (w.alloc (.cells l.toArray t)).cell? ((⟨w.heap.size, 0, none⟩ : Addr).add j) = some u := by
  intro j u hu
  have hadd : (⟨w.heap.size, 0, none⟩ : Addr).add j = ⟨w.heap.size, j, none⟩ := by unfold Addr.add; split <;> simp_all
  rw [hadd, cell_of_row (w.alloc (.cells l.toArray t)) w.heap.size j l.toArray t (0, 0) (heap_alloc_new w _)]
  simpa using hu

theorem owns_bounds {w : World} {base : Nat} {e : TypeId} {size : Nat} {v : Value} {n : Nat} {xs : List Value} (h : w.ownsRow base e size v n xs) : ∀ k, v.ownBlock = some k → base ≤ k := fun k hk => (h.lt k hk).1

end Go.Proofs.Qxb6602088a
