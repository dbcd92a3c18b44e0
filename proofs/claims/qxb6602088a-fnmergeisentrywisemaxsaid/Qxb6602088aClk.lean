/-
  Seat b6602088a. A clock in memory; ZZClock (15) and ZZEntries (17) by contracts.
-/
import Derived.Test.Qxb6602088aArgs
namespace Go.Proofs.Qxb6602088a
open Go.RowKit

theorem Try.info50 : (Try.prog.info? 50).map (fun i => (i.zero, i.size, i.bytes)) = some (some (.agg #[.string ByteArray.empty, .int .u64 0]), 2, 24) := by kernel_rfl

/-- A clock's entries as they lie in memory. -/
def flat (es : List E) : List Value := es.flatMap fun e => [.string e.1, .int .u64 (e.2 : Int)]

theorem flat_cons (e : E) (es : List E) : flat (e :: es) = .string e.1 :: .int .u64 (e.2 : Int) :: flat es := by simp [flat]
theorem flat_append (a b : List E) : flat (a ++ b) = flat a ++ flat b := by simp [flat]
theorem flat_length (es : List E) : (flat es).length = es.length * 2 := by
  induction es with
  | nil => rfl
  | cons e es ih => rw [flat_cons, List.length_cons, List.length_cons, ih, List.length_cons]; omega
theorem flat_name {es : List E} {i : Nat} {e : E} (h : es[i]? = some e) : (flat es)[i * 2]? = some (.string e.1) := by
  induction es generalizing i with
  | nil => simp at h
  | cons a es ih =>
    cases i with
    | zero => simp at h; subst h; rw [flat_cons]; rfl
    | succ i =>
      simp at h
      rw [flat_cons, show (i + 1) * 2 = i * 2 + 1 + 1 by omega, List.getElem?_cons_succ, List.getElem?_cons_succ]
      exact ih h
theorem flat_cnt {es : List E} {i : Nat} {e : E} (h : es[i]? = some e) : (flat es)[i * 2 + 1]? = some (.int .u64 (e.2 : Int)) := by
  induction es generalizing i with
  | nil => simp at h
  | cons a es ih =>
    cases i with
    | zero => simp at h; subst h; rw [flat_cons]; rfl
    | succ i =>
      simp at h
      rw [flat_cons, show (i + 1) * 2 + 1 = i * 2 + 1 + 1 + 1 by omega, List.getElem?_cons_succ, List.getElem?_cons_succ]
      exact ih h
theorem flat_set {es : List E} {i : Nat} (e : E) (h : i < es.length) : flat (es.set i e) = ((flat es).set (i * 2) (.string e.1)).set (i * 2 + 1) (.int .u64 (e.2 : Int)) := by
  induction es generalizing i with
  | nil => simp at h
  | cons a es ih =>
    cases i with
    | zero => simp [flat_cons]
    | succ i =>
      simp only [List.length_cons] at h
      rw [List.set_cons_succ, flat_cons, flat_cons, ih (by omega), show (i + 1) * 2 = i * 2 + 1 + 1 by omega]
      simp

/-- A clock lies in memory: its header in block b, its entries in block g, with room for cap. -/
structure ClkAt (w : World) (b g cap : Nat) (es : List E) : Prop where
  hdr : w.heap[b]? = some (.cells #[.slice (some ⟨g, 0, none⟩) es.length cap] 52 (0, 0))
  row : w.ownsRow 0 50 2 (.slice (some ⟨g, 0, none⟩) es.length cap) es.length (flat es)

theorem ClkAt.block {w : World} {b g cap : Nat} {es : List E} (h : ClkAt w b g cap es) : ∃ cur : Array Value, w.heap[g]? = some (.cells cur 50 (0, 0)) ∧ es.length ≤ cap ∧ cap ≤ maxLen ∧ cur.size = cap * 2 ∧ cur.toList.take (es.length * 2) = flat es := by
  obtain ⟨_, h2 | ⟨g', cap', cur, hv, _, hg, hn, hm, hs, ht⟩⟩ := h.row
  · obtain ⟨h3, _⟩ := h2; cases h3
  · cases hv
    exact ⟨cur, hg, hn, hm, hs, ht⟩

theorem ClkAt.lt {w : World} {b g cap : Nat} {es : List E} (h : ClkAt w b g cap es) : b < w.heap.size ∧ g < w.heap.size ∧ b ≠ g := by
  obtain ⟨cur, hg, _⟩ := h.block
  refine ⟨(Array.getElem?_eq_some_iff.1 h.hdr).1, (Array.getElem?_eq_some_iff.1 hg).1, ?_⟩
  rintro rfl
  have := h.hdr
  rw [hg] at this
  simp at this

theorem ClkAt.later {w w' : World} {b g cap : Nat} {es : List E} (h : ClkAt w b g cap es) (h1 : w'.heap[b]? = w.heap[b]?) (h2 : w'.heap[g]? = w.heap[g]?) : ClkAt w' b g cap es := by
  refine ⟨h1.trans h.hdr, h.row.1, ?_⟩
  obtain ⟨cur, hg, hn, hm, hs, ht⟩ := h.block
  exact .inr ⟨g, cap, cur, rfl, Nat.zero_le _, h2.trans hg, hn, hm, hs, ht⟩

theorem ClkAt.below {w w' : World} {b g cap : Nat} {es : List E} (h : ClkAt w b g cap es) (hb : Below w.heap.size w w') : ClkAt w' b g cap es := h.later (hb.block b h.lt.1) (hb.block g h.lt.2.1)

theorem ClkAt.drewN {w : World} {b g cap : Nat} {es : List E} (h : ClkAt w b g cap es) (n : Nat) : ClkAt (w.drewN n) b g cap es := h.later rfl rfl

theorem ClkAt.cell {w : World} {b g cap : Nat} {es : List E} (h : ClkAt w b g cap es) : w.cell? ⟨b, 0, none⟩ = some (.slice (some ⟨g, 0, none⟩) es.length cap) := by
  rw [cell_of_row w b 0 _ 52 (0, 0) h.hdr]
  rfl
theorem ClkAt.free {w : World} {b g cap : Nat} {es : List E} (h : ClkAt w b g cap es) : w.frozen? ⟨b, 0, none⟩ = false := by
  unfold World.frozen?
  simp [h.hdr]

theorem ClkAt.name {w : World} {b g cap : Nat} {es : List E} (h : ClkAt w b g cap es) {i : Nat} {e : E} (he : es[i]? = some e) : w.cell? ⟨g, i * 2, none⟩ = some (.string e.1) := by
  have hl := (List.getElem?_eq_some_iff.1 he).1
  rw [h.row.cellAt (i * 2) (by omega)]
  exact flat_name he
theorem ClkAt.cnt {w : World} {b g cap : Nat} {es : List E} (h : ClkAt w b g cap es) {i : Nat} {e : E} (he : es[i]? = some e) : w.cell? ⟨g, i * 2 + 1, none⟩ = some (.int .u64 (e.2 : Int)) := by
  have hl := (List.getElem?_eq_some_iff.1 he).1
  rw [h.row.cellAt (i * 2 + 1) (by omega)]
  exact flat_cnt he

theorem take_two_step {xs ys : List Value} {k : Nat} {u v : Value} (h : xs.take (k * 2) = ys.take (k * 2)) (hk : k * 2 + 1 < xs.length) (hu : ys[k * 2]? = some u) (hv : ys[k * 2 + 1]? = some v) :
    ((xs.set (k * 2) u).set (k * 2 + 1) v).take ((k + 1) * 2) = ys.take ((k + 1) * 2) := by
  have h1 := take_set_step h (by omega) hu
  have h2 := take_set_step (xs := xs.set (k * 2) u) h1 (by simpa using hk) hv
  rw [show (k + 1) * 2 = k * 2 + 1 + 1 by omega]
  exact h2

theorem zip_at {A : List ByteArray} {C : List Nat} {i : Nat} {x : ByteArray} {z : Nat} (hx : A[i]? = some x) (hz : C[i]? = some z) : (A.zip C)[i]? = some (x, z) := by
  simp [List.getElem?_zip_eq_some, hx, hz]

set_option maxHeartbeats 1000000 in
theorem clock15 (aoA aoC : Option Addr) (n cA cC : Nat) (A : List ByteArray) (C : List Nat) (w : World) (hn : n ≤ 4096) (hA : A.length = n) (hC : C.length = n) (rA : Row w aoA (strs A)) (rC : Row w aoC (u64s C)) :
    Calls Try.prog 15 #[.slice aoA n cA, .slice aoC n cC] w fun e w' => ∃ b g : Nat, e = .returned (.pointer (some ⟨b, 0, none⟩)) ∧ ClkAt w' b g n (A.zip C) ∧ w.heap.size ≤ b ∧ w.heap.size ≤ g ∧ Below w.heap.size w w' := by
  obtain ⟨i0, hi, hz0, hz1, hz2⟩ := info_parts Try.info50
  go_enter Try.func15, Try.ntmps15
  go_wp2_with (at_make; refine wpList_make_full _ rfl _ _ 48 rfl w.heap.size 50 i0 (.agg #[.string ByteArray.empty, .int .u64 0]) 2 Try.underlying48 hi hz0 hz1 _ _ _ _ n rfl rfl rfl rfl ?b2 ?b3 (Nat.le_refl _) ?_)
  case b2 => rw [hz2]; omega
  case b3 => unfold maxLen; omega
  intro w0 hown0 hgrow0
  go_wp2
  go_loopw [7] (fun i wr => ∃ (k : Nat) (xs : List Value), k ≤ n ∧ i = .int .i64 k ∧ wr.ownsRow w.heap.size 50 2 (.slice (some ⟨w.heap.size, 0, none⟩) n n) n xs ∧ Hid (xs.take (k * 2) = (flat (A.zip C)).take (k * 2)) ∧ Below w.heap.size w wr) (fun i _ => n - (intOf i).toNat)
  case atStart => exact ⟨0, _, Nat.zero_le _, rfl, hown0, (by simp [Hid]), (Below.refl _ _).grown hgrow0 (Nat.le_refl _) (fun k h => by cases h)⟩
  case round =>
    obtain ⟨k, xs, hk, rfl, hown, htk, hb⟩ := hrel
    by_cases hlt : k < n
    · obtain ⟨x, hx⟩ : ∃ x, A[k]? = some x := ⟨A[k]'(by omega), List.getElem?_eq_getElem _⟩
      obtain ⟨z, hz⟩ : ∃ z, C[k]? = some z := ⟨C[k]'(by omega), List.getElem?_eq_getElem _⟩
      obtain ⟨bA, oA, rfl, gA⟩ := (rA.later hb) k _ (strs_at hx)
      obtain ⟨bC, oC, rfl, gC⟩ := (rC.later hb) k _ (u64s_at hz)
      have hf0 := hown.frozenAt (k * 2)
      have hf1 := hown.frozenAt (k * 2 + 1)
      have hl := hown.1
      have hd0 := hown.cellAt (k * 2) (by omega)
      have hd1 := hown.cellAt (k * 2 + 1) (by omega)
      rw [List.getElem?_eq_getElem (by omega)] at hd0 hd1
      have HT : Hid (((xs.set (k * 2) (.string x)).set (k * 2 + 1) (.int .u64 (z : Int))).take ((k + 1) * 2) = (flat (A.zip C)).take ((k + 1) * 2)) :=
        take_two_step htk.out (by omega) (flat_name (zip_at hx hz)) (flat_cnt (zip_at hx hz))
      clear hx hz
      go_wp2
      go_region
      all_goals
        go_wp2
        go_roundw
        case rel => exact ⟨k + 1, _, by omega, by go_num, (((hown.stored (k * 2) _).1).stored (k * 2 + 1) _).1.drew, HT, ((hb.setCell (by simp) _).setCell (by simp) _).drew⟩
        case measure => simp [intOf]; omega
    · have : k = n := by omega
      subst this
      go_wp2
      go_ret
      have hlz : (A.zip C).length = k := by simp [hA, hC]
      have hxs : xs = flat (A.zip C) := by
        have h := htk.out
        rw [List.take_of_length_le (by rw [hown.1]; exact Nat.le_refl _), List.take_of_length_le (by rw [flat_length, hlz]; exact Nat.le_refl _)] at h
        exact h
      subst hxs
      refine ⟨wr.heap.size, w.heap.size, rfl, ⟨?_, ?_⟩, hb.size, Nat.le_refl _, hb.alloc hb.size _⟩
      · rw [hlz]; exact heap_alloc_new wr _
      · rw [hlz]
        refine World.ownsRow.alloc ?_ _
        obtain ⟨h1, h2 | ⟨g, cap, cur, hv, hbb, hg, r⟩⟩ := hown
        · obtain ⟨h3, _⟩ := h2; cases h3
        · exact ⟨h1, .inr ⟨g, cap, cur, hv, Nat.zero_le _, hg, r⟩⟩

theorem owns_setCell_ne {w : World} {base : Nat} {e : TypeId} {size g n cap : Nat} {xs : List Value} (h : w.ownsRow base e size (.slice (some ⟨g, 0, none⟩) n cap) n xs) {a : Addr} (ha : a.block ≠ g) (u : Value) : (w.setCell a u).ownsRow base e size (.slice (some ⟨g, 0, none⟩) n cap) n xs := by
  obtain ⟨h1, h2⟩ := h
  refine ⟨h1, ?_⟩
  rcases h2 with h2 | ⟨g', cap', cur, hv, hg, hh, r⟩
  · exact Or.inl h2
  · cases hv
    exact Or.inr ⟨g, cap, cur, rfl, hg, by rw [Below.heap_setCell _ _ _ _ (fun e => ha e.symm)]; exact hh, r⟩

theorem owns_lt {w : World} {base : Nat} {e : TypeId} {size g n cap : Nat} {xs : List Value} (h : w.ownsRow base e size (.slice (some ⟨g, 0, none⟩) n cap) n xs) : g < w.heap.size := (h.lt g rfl).2

set_option maxHeartbeats 1000000 in
theorem entries17 (b g cap : Nat) (es : List E) (w : World) (hn : es.length ≤ 1048576) (h : ClkAt w b g cap es) :
    Calls Try.prog 17 #[.pointer (some ⟨b, 0, none⟩)] w fun e w' => ∃ aoA aoC cA cC, e = .returned (.tuple #[.slice aoA es.length cA, .slice aoC es.length cC]) ∧ Row w' aoA (strs (es.map (·.1))) ∧ Row w' aoC (u64s (es.map (·.2))) ∧ Below w.heap.size w w' := by
  obtain ⟨i0, hi, hz0, hz1, hz2⟩ := info_parts Try.info9
  obtain ⟨j0, hj, hy0, hy1, hy2⟩ := info_parts Try.info34
  have hc := h.cell
  obtain ⟨n, hn'⟩ : ∃ n, n = es.length := ⟨_, rfl⟩
  rw [← hn'] at hc hn ⊢
  have HN : Hid (n = es.length) := hn'
  clear hn'
  go_enter Try.func17, Try.ntmps17
  go_wp2_with (at_make; refine wpList_make_full _ rfl _ _ 22 rfl w.heap.size 9 i0 (.string ByteArray.empty) 1 Try.underlying22 hi hz0 hz1 _ _ _ _ n rfl rfl rfl rfl ?b2 ?b3 (Nat.le_refl _) ?_)
  case b2 => rw [hz2]; omega
  case b3 => unfold maxLen; omega
  intro w0 hown0 hgrow0
  have hb0 : Below w.heap.size w w0 := (Below.refl _ _).grown hgrow0 (Nat.le_refl _) (fun k h => by cases h)
  have hc0 := (h.below hb0).cell
  rw [← HN.out] at hc0
  go_wp2_with (at_make; refine wpList_make_full _ rfl _ _ 23 rfl w0.heap.size 34 j0 (.int .u64 0) 1 Try.underlying23 hj hy0 hy1 _ _ _ _ n rfl rfl rfl rfl ?b4 ?b5 (Nat.le_refl _) ?_)
  case b4 => rw [hy2]; omega
  case b5 => unfold maxLen; omega
  intro w1 hown1 hgrow1
  have hlt0 := owns_lt hown0
  have hb1 : Below w.heap.size w w1 := hb0.grown hgrow1 (by omega) (fun k h => by cases h)
  have hown0' := hown0.kept hgrow1 (.inr (by simp [Value.ownBlock]))
  clear hown0 hgrow0 hgrow1 hc hc0 hb0
  go_wp2
  go_loopw [6] (fun i wr => ∃ (k : Nat) (xs ys : List Value), k ≤ n ∧ i = .int .i64 k ∧ wr.ownsRow w.heap.size 9 1 (.slice (some ⟨w.heap.size, 0, none⟩) n n) n xs ∧ wr.ownsRow w0.heap.size 34 1 (.slice (some ⟨w0.heap.size, 0, none⟩) n n) n ys ∧
      Hid (xs.take k = (strs (es.map (·.1))).take k) ∧ Hid (ys.take k = (u64s (es.map (·.2))).take k) ∧ Below w.heap.size w wr) (fun i _ => n - (intOf i).toNat)
  case atStart => exact ⟨0, _, _, Nat.zero_le _, rfl, hown0', hown1, (by simp [Hid]), (by simp [Hid]), hb1⟩
  case round =>
    clear hown0' hown1 hb1
    obtain ⟨k, xs, ys, hk, rfl, ho1, ho2, ht1, ht2, hb⟩ := hrel
    have hcl := h.below hb
    have hc := hcl.cell
    rw [← HN.out] at hc
    by_cases hlt : k < n
    · obtain ⟨e, he⟩ : ∃ e, es[k]? = some e := ⟨es[k]'(by have := HN.out; omega), List.getElem?_eq_getElem _⟩
      have gn := hcl.name he
      have gc := hcl.cnt he
      have hf1 := ho1.frozenAt k
      have hl1 := ho1.1
      have hd1 := ho1.cellAt k (by omega)
      rw [List.getElem?_eq_getElem (by omega)] at hd1
      have hf2 := ho2.frozenAt k
      have hl2 := ho2.1
      have hd2 := ho2.cellAt k (by omega)
      rw [List.getElem?_eq_getElem (by omega)] at hd2
      have hne : w0.heap.size ≠ w.heap.size := by omega
      have hlt' := hcl.lt
      have hbs := hb.size
      have hb1 := h.lt
      have H1 : Hid ((xs.set k (.string e.1)).take (k + 1) = (strs (es.map (·.1))).take (k + 1)) := take_set_step ht1.out (by omega) (strs_at (by simp [he]))
      have H2 : Hid ((ys.set k (.int .u64 (e.2 : Int))).take (k + 1) = (u64s (es.map (·.2))).take (k + 1)) := take_set_step ht2.out (by omega) (u64s_at (by simp [he]))
      have ho2' := owns_setCell_ne ho2 (a := ⟨w.heap.size, k, none⟩) (by simpa using hne.symm) (.string e.1)
      have HR1 := (owns_setCell_ne ((ho1.stored k (.string e.1)).1) (a := ⟨w0.heap.size, k, none⟩) (by simpa using hne) (.int .u64 (e.2 : Int)))
      have HR2 := (ho2'.stored k (.int .u64 (e.2 : Int))).1
      have hc' : (wr.setCell ⟨w.heap.size, k, none⟩ (.string e.1)).cell? ⟨b, 0, none⟩ = some (.slice (some ⟨g, 0, none⟩) n cap) := by
        rw [World.cell?_setCell_other]
        · exact hc
        · intro hh
          have := congrArg Addr.block hh
          simp at this
          omega
      clear he
      go_wp2
      go_roundw
      case rel => exact ⟨k + 1, _, _, by omega, by go_num, HR1, HR2, H1, H2, (hb.setCell (by simp) _).setCell (by simp; omega) _⟩
      case measure => simp [intOf]; omega
    · have hkn : k = n := by omega
      subst hkn
      go_wp2
      go_ret2
      have hl := HN.out
      have e1 : xs = strs (es.map (·.1)) := by
        have h := ht1.out
        rw [List.take_of_length_le (by have := ho1.1; omega), List.take_of_length_le (by simp [strs]; omega)] at h
        exact h
      have e2 : ys = u64s (es.map (·.2)) := by
        have h := ht2.out
        rw [List.take_of_length_le (by have := ho2.1; omega), List.take_of_length_le (by simp [u64s]; omega)] at h
        exact h
      subst e1 e2
      exact ⟨_, _, _, _, rfl, Row.of_owns' ho1, Row.of_owns' ho2, hb⟩
end Go.Proofs.Qxb6602088a
