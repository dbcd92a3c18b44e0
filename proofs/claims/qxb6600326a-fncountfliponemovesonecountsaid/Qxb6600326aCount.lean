/-
  Seat b6600326a. zzCountListB1 (6), (*ErrorList).Count (7), the length guard (8) by contracts.
-/
import Derived.Test.Qxb6600326aBase
namespace Go.Proofs.Qxb6600326a
open Go.RowKit

def Ent (w : World) (g b : Nat) (fl : List Bool) (k : Nat) (xs : List Value) : Prop :=
  ∀ i x, i < k → fl[i]? = some x → ∃ q, xs[i]? = some (.pointer (some ⟨q, 0, none⟩)) ∧ q ≠ g ∧ q ≠ b ∧ w.cell? ⟨q, 3, none⟩ = some (.bool x)

theorem Ent.step {w : World} {g b k : Nat} {fl : List Bool} {xs : List Value} {x : Bool} {s1 s2 s3 : Value} (h : Ent w g b fl k xs) (hx : fl[k]? = some x) (hk : k < xs.length) (hg : g < w.heap.size) (hb : b < w.heap.size) :
    Ent ((w.setCell ⟨g, k, none⟩ (.pointer (some ⟨w.heap.size, 0, none⟩))).alloc (.cells #[s1, s2, s3, .bool x] 34)) g b fl (k + 1) (xs.set k (.pointer (some ⟨w.heap.size, 0, none⟩))) := by
  have hsz : (w.setCell ⟨g, k, none⟩ (.pointer (some ⟨w.heap.size, 0, none⟩))).heap.size = w.heap.size := by simp [World.setCell]
  intro i y hi hy
  by_cases he : i = k
  · subst he
    rw [hx] at hy
    cases hy
    refine ⟨w.heap.size, by simp [hk], by omega, by omega, ?_⟩
    have hn := heap_alloc_new (w.setCell ⟨g, i, none⟩ (.pointer (some ⟨w.heap.size, 0, none⟩))) (.cells #[s1, s2, s3, .bool x] 34)
    rw [hsz] at hn
    rw [cell_of_row _ _ _ _ _ _ hn]
    rfl
  · obtain ⟨q, h1, h2, h3, h4⟩ := h i y (by omega) hy
    refine ⟨q, by rw [List.getElem?_set_ne (fun e => he e.symm)]; exact h1, h2, h3, ?_⟩
    have hlt := World.block_lt_of_cell? w _ h4
    rw [World.cell?_of_block (w := w) (a := ⟨q, 3, none⟩) ?_]
    · exact h4
    · show ((w.setCell ⟨g, k, none⟩ _).alloc _).heap[q]? = w.heap[q]?
      rw [Below.heap_alloc _ _ _ (by rw [hsz]; exact hlt), Below.heap_setCell _ _ _ _ h2]

set_option maxHeartbeats 1000000 in
theorem list6 (ao : Option Addr) (n c : Nat) (fl : List Bool) (w : World) (hn : n ≤ 1048576) (hl : fl.length = n) (hr : Row w ao (bools fl)) :
    Calls Try.prog 6 #[.slice ao n c] w fun e w' => ∃ b, e = .returned (.pointer (some ⟨b, 0, none⟩)) ∧ ListAt w' b fl ∧ Below w.heap.size w w' := by
  have hnil := fun (w : World) (a : Option Addr) (n c n' c' : Nat) => Lib.run_eql_slice_nil (P := Try.prog) w 22 4 a n c n' c' Try.underlying22
  obtain ⟨i0, hi, hz0, hz1, hz2⟩ := info_parts Try.info32
  cases ao with
  | none =>
    have hv := hr.none_nil
    have hf : fl = [] := by simpa [bools] using hv
    subst hf
    simp only [List.length_nil] at hl
    subst hl
    clear hr hv
    go_enter Try.func6, Try.ntmps6
    go_wp2
    go_ret
    refine ⟨w.heap.size, rfl, ⟨none, 0, ?_, fun i x hx => by simp at hx⟩, (Below.refl _ _).alloc (Nat.le_refl _) _⟩
    rw [cell_of_row _ _ _ _ _ _ (heap_alloc_new w _)]
    rfl
  | some x0 =>
    go_enter Try.func6, Try.ntmps6
    go_wp2_with (at_make; refine wpList_make_full _ rfl _ _ 29 rfl (w.heap.size + 1) 32 i0 (.pointer none) 1 Try.underlying29 hi hz0 hz1 _ _ _ _ n rfl rfl rfl rfl ?b2 ?b3 ?b4 ?_)
    case b2 => rw [hz2]; omega
    case b3 => unfold maxLen; omega
    case b4 => simp
    intro w0 hown0 hgrow0
    go_wp2
    go_loopw [5] (fun i wr => ∃ (k : Nat) (xs : List Value), k ≤ n ∧ i = .int .i64 k ∧ wr.ownsRow (w.heap.size + 1) 32 1 (.slice (some ⟨w.heap.size + 1, 0, none⟩) n n) n xs ∧ wr.heap[w.heap.size]? = some (.cells #[.slice none 0 0] 31 (0, 0)) ∧ Hid (Ent wr (w.heap.size + 1) w.heap.size fl k xs) ∧ Below w.heap.size w wr) (fun i _ => n - (intOf i).toNat)
    case atStart =>
      refine ⟨0, _, Nat.zero_le _, rfl, by simpa using hown0, ?_, (fun i x h => by omega), ((Below.refl _ _).alloc (Nat.le_refl _) _).grown hgrow0 (by simp) (fun k h => by cases h)⟩
      rw [hgrow0.block w.heap.size (by simp) (by simp)]
      exact heap_alloc_new w _
    case round =>
      clear hown0 hgrow0
      obtain ⟨k, xs, hk, rfl, hown, hhd, H, hb⟩ := hrel
      have hlt1 := owns_lt hown
      by_cases hlt : k < n
      · obtain ⟨x, hx⟩ : ∃ x, fl[k]? = some x := ⟨fl[k]'(by omega), List.getElem?_eq_getElem _⟩
        obtain ⟨b1, o1, hx0, g1⟩ := (hr.later hb) k _ (bools_at hx)
        cases hx0
        have hlx := hown.1
        have hf := hown.frozenAt k
        have hd := hown.cellAt k (by omega)
        rw [List.getElem?_eq_getElem (by omega)] at hd
        have HS := fun s1 s2 s3 => H.out.step (s1 := s1) (s2 := s2) (s3 := s3) hx (by omega) hlt1 (by omega)
        have HE : Hid (∀ s1 s2 s3, Ent ((wr.setCell ⟨w.heap.size + 1, k, none⟩ (.pointer (some ⟨wr.heap.size, 0, none⟩))).alloc (.cells #[s1, s2, s3, .bool x] 34)) (w.heap.size + 1) w.heap.size fl (k + 1) (xs.set k (.pointer (some ⟨wr.heap.size, 0, none⟩)))) := HS
        have HH : Hid (wr.heap[w.heap.size]? = some (.cells #[.slice none 0 0] 31 (0, 0))) := hhd
        clear hx HS H hhd
        go_wp2
        go_roundw
        case rel =>
          refine ⟨k + 1, _, by omega, by go_num, ((hown.stored k _).1).alloc _, ?_, HE.out _ _ _, (hb.setCell (by simp) _).alloc (by have := hb.size; simp [World.setCell]; omega) _⟩
          rw [Below.heap_alloc _ _ _ (by simp [World.setCell]; omega), Below.heap_setCell _ _ _ _ (by simp)]
          exact HH.out
        case measure => simp [intOf]; omega
      · have hkn : k = n := by omega
        subst hkn
        have hc0 := cell_of_one hhd
        have hf0 := free_of_one hhd
        have HH : Hid (wr.heap[w.heap.size]? = some (.cells #[.slice none 0 0] 31 (0, 0))) := hhd
        clear hhd
        go_wp2
        go_ret
        have hh := one_setCell (u := .slice (some ⟨w.heap.size + 1, 0, none⟩) k k) HH.out
        refine ⟨w.heap.size, rfl, ⟨some ⟨w.heap.size + 1, 0, none⟩, k, ?_, ?_⟩, hb.setCell (by simp) _⟩
        · rw [hl]; exact cell_of_one hh
        · intro i x hx
          obtain ⟨q, h1, h2, h3, h4⟩ := H.out i x (by rw [← hl]; exact (List.getElem?_eq_some_iff.1 hx).1) hx
          refine ⟨_, _, q, rfl, ?_, ?_⟩
          · have hi := (List.getElem?_eq_some_iff.1 hx).1
            rw [Nat.zero_add, (owns_setCell_ne hown (a := ⟨w.heap.size, 0, none⟩) (by simp) _).cellAt i (by omega)]
            exact h1
          · rw [World.cell?_of_block (w := wr) (a := ⟨q, 3, none⟩) (Below.heap_setCell _ _ _ _ h3)]
            exact h4

def cnt (b : Bool) (l : List Bool) : Nat := (l.filter fun x => x == b).length
theorem cnt_le (b : Bool) (l : List Bool) : cnt b l ≤ l.length := List.length_filter_le _ _
theorem cnt_snoc {l : List Bool} {k : Nat} {x : Bool} (b : Bool) (h : l[k]? = some x) : cnt b (l.take (k + 1)) = cnt b (l.take k) + if x = b then 1 else 0 := by
  obtain ⟨hi, rfl⟩ := List.getElem?_eq_some_iff.1 h
  rw [List.take_succ_eq_append_getElem hi]
  unfold cnt
  rw [List.filter_append, List.length_append]
  congr 1
  by_cases hx : l[k] = b <;> simp [hx]

set_option maxHeartbeats 1000000 in
theorem count7 (b : Nat) (fl : List Bool) (w : World) (hn : fl.length ≤ 1048576) (h : ListAt w b fl) :
    Calls Try.prog 7 #[.pointer (some ⟨b, 0, none⟩)] w fun e w' => e = .returned (.tuple #[.int .i64 (cnt false fl : Nat), .int .i64 (cnt true fl : Nat)]) ∧ w = w' := by
  obtain ⟨ao, c, hc, hent⟩ := h
  obtain ⟨n, hn'⟩ : ∃ n, n = fl.length := ⟨_, rfl⟩
  rw [← hn'] at hc hn
  have HN : Hid (n = fl.length) := hn'
  clear hn'
  go_enter Try.func7, Try.ntmps7
  go_wp2
  go_loop [2, 3, 11] (fun s0 s1 i => ∃ k m0 m1 : Nat, k ≤ n ∧ m0 ≤ k ∧ m1 ≤ k ∧ i = .int .i64 k ∧ s0 = .int .i64 (m0 : Int) ∧ s1 = .int .i64 (m1 : Int) ∧ Hid (m0 = cnt false (fl.take k) ∧ m1 = cnt true (fl.take k))) (fun _ _ i => n - (intOf i).toNat)
  case atStart => exact ⟨0, 0, 0, Nat.zero_le _, Nat.zero_le _, Nat.zero_le _, rfl, rfl, rfl, rfl, rfl⟩
  case round =>
    obtain ⟨k, m0, m1, hk, hm0, hm1, rfl, rfl, rfl, H⟩ := hrel
    by_cases hlt : k < n
    · obtain ⟨x, hx⟩ : ∃ x, fl[k]? = some x := ⟨fl[k]'(by have := HN.out; omega), List.getElem?_eq_getElem _⟩
      obtain ⟨g, o, q, rfl, g1, g2⟩ := hent k x hx
      have c0 := cnt_snoc false hx
      have c1 := cnt_snoc true hx
      cases x with
      | false =>
        have HR : Hid (m0 + 1 = cnt false (fl.take (k + 1)) ∧ m1 = cnt true (fl.take (k + 1))) := by have := H.out; simp at c0 c1; exact ⟨by omega, by omega⟩
        clear c0 c1 hx H
        go_wp2
        go_round
        case rel => exact ⟨k + 1, m0 + 1, m1, by omega, by omega, by omega, by go_num, by go_num, rfl, HR⟩
        case measure => simp [intOf]; omega
      | true =>
        have HR : Hid (m0 = cnt false (fl.take (k + 1)) ∧ m1 + 1 = cnt true (fl.take (k + 1))) := by have := H.out; simp at c0 c1; exact ⟨by omega, by omega⟩
        clear c0 c1 hx H
        go_wp2
        go_round
        case rel => exact ⟨k + 1, m0, m1 + 1, by omega, by omega, by omega, by go_num, rfl, by go_num, HR⟩
        case measure => simp [intOf]; omega
    · have ht : fl.take k = fl := List.take_of_length_le (by have := HN.out; omega)
      have HR : Hid (m0 = cnt false fl ∧ m1 = cnt true fl) := by have := H.out; rw [ht] at this; exact this
      clear ht H
      go_wp2
      go_ret2
      refine ⟨?_, rfl⟩
      rw [← HR.out.1, ← HR.out.2]
      rfl

set_option maxHeartbeats 400000 in
theorem zz8 (ao : Option Addr) (n c : Nat) (i : Int) (w : World) (hn : n ≤ maxLen) :
    Calls Try.prog 8 #[.slice ao n c, .int .i64 i] w fun e w' => e = .returned (.bool (decide (n ≤ 1048576))) ∧ w = w' := by
  unfold maxLen at hn
  by_cases h : n ≤ 1048576
  · rw [decide_eq_true h]
    go_enter Try.func8, Try.ntmps8
    go_wp2
    go_ret
    exact ⟨rfl, rfl⟩
  · rw [decide_eq_false h]
    go_enter Try.func8, Try.ntmps8
    go_wp2
    go_ret
    exact ⟨rfl, rfl⟩
end Go.Proofs.Qxb6600326a
