/-
  Seat b6602088a. ZZEntries (17) once more, with what is known of the blocks that it makes; the settling of a merge.
-/
import Derived.Test.Qxb6602088aMerge
import Derived.Test.Qxb6602088aMshare
import Derived.Test.Qxb6602088aShare
namespace Go.Proofs.Qxb6602088a
open Go.RowKit

theorem Row.kept {w w' : World} {ao : Option Addr} {vs : List Value} {b g : Nat} (h : Row w ao vs) (k : Kept w w' b g) (hb : ∀ x, ao = some x → x.block ≠ b ∧ x.block ≠ g) : Row w' ao vs := by
  intro i v hv
  obtain ⟨b', off, hx, hc⟩ := h i v hv
  have hn := hb _ hx
  have hlt := World.block_lt_of_cell? w _ hc
  refine ⟨b', off, hx, ?_⟩
  rw [World.cell?_of_block (w := w) (k.block b' hlt hn.1 hn.2)]
  exact hc

/-- A clock that is entry-wise at most es is swallowed by es. -/
theorem absorb {es fs : List E} (ha : Asc es) (hb : Asc fs) (pa : Pos es) (pb : Pos fs) (h : ∀ x, lk fs x ≤ lk es x) : (raise es fs).2 = 0 ∧ merged es fs = es := by
  constructor
  · rw [raise_missing es fs ha hb, List.length_eq_zero_iff, List.filter_eq_nil_iff]
    intro y hy
    have h1 := lk_mem hb hy
    have h2 := pb y hy
    have h3 := h y.1
    obtain ⟨e, he, h4, _⟩ := lk_ne_zero (l := es) (x := y.1) (by omega)
    simp [has_iff.2 (mem_names.2 ⟨e, he, h4⟩)]
  · refine lk_ext (merged_asc ha hb) ha (merged_pos ha hb pa pb) pa (fun x => ?_)
    rw [merged_lk ha hb]
    have := h x
    omega

theorem merged_comm {es fs : List E} (ha : Asc es) (hb : Asc fs) (pa : Pos es) (pb : Pos fs) : merged fs es = merged es fs := by
  refine lk_ext (merged_asc hb ha) (merged_asc ha hb) (merged_pos hb ha pb pa) (merged_pos ha hb pa pb) (fun x => ?_)
  rw [merged_lk ha hb, merged_lk hb ha]
  omega

set_option maxHeartbeats 1000000 in
/-- entries17 once more, with what is known of the new blocks. -/
theorem entries17f (b g cap : Nat) (es : List E) (w : World) (hn : es.length ≤ 1048576) (h : ClkAt w b g cap es) :
    Calls Try.prog 17 #[.pointer (some ⟨b, 0, none⟩)] w fun e w' => ∃ aoA aoC cA cC, e = .returned (.tuple #[.slice aoA es.length cA, .slice aoC es.length cC]) ∧ Row w' aoA (strs (es.map (·.1))) ∧ Row w' aoC (u64s (es.map (·.2))) ∧ Below w.heap.size w w' ∧ (∀ x, aoA = some x → w.heap.size ≤ x.block ∧ x.block < w'.heap.size) ∧ (∀ x, aoC = some x → w.heap.size ≤ x.block ∧ x.block < w'.heap.size) := by
  obtain ⟨i0, hi, hz0, hz1, hz2⟩ := info_parts Try.info9
  obtain ⟨j0, hj, hy0, hy1, hy2⟩ := info_parts Try.info34
  have hc := h.cell
  obtain ⟨n, hn'⟩ : ∃ n, n = es.length := ⟨_, rfl⟩
  rw [← hn'] at hc hn ⊢
  have HN : Hid (n = es.length) := hn'
  clear hn'
  go_enter Try.func17, Try.ntmps17
  go_wp2_with (at_make; refine wpList_make_full _ rfl _ _ 22 rfl w.heap.size 9 i0 (.string ByteArray.empty) 1 Try.underlying22 hi hz0 hz1 _ _ _ _ n rfl rfl rfl rfl ?b2 ?b3 (Nat.le_refl _) ?_)
  case b2 => rw [hz2]; omega
  case b3 => unfold maxLen; omega
  intro w0 hown0 hgrow0
  have hb0 : Below w.heap.size w w0 := (Below.refl _ _).grown hgrow0 (Nat.le_refl _) (fun k h => by cases h)
  have hc0 := (h.below hb0).cell
  rw [← HN.out] at hc0
  go_wp2_with (at_make; refine wpList_make_full _ rfl _ _ 23 rfl w0.heap.size 34 j0 (.int .u64 0) 1 Try.underlying23 hj hy0 hy1 _ _ _ _ n rfl rfl rfl rfl ?b4 ?b5 (Nat.le_refl _) ?_)
  case b4 => rw [hy2]; omega
  case b5 => unfold maxLen; omega
  intro w1 hown1 hgrow1
  have hlt0 := owns_lt hown0
  have hb1 : Below w.heap.size w w1 := hb0.grown hgrow1 (by omega) (fun k h => by cases h)
  have hown0' := hown0.kept hgrow1 (.inr (by simp [Value.ownBlock]))
  clear hown0 hgrow0 hgrow1 hc hc0 hb0
  go_wp2
  go_loopw [6] (fun i wr => ∃ (k : Nat) (xs ys : List Value), k ≤ n ∧ i = .int .i64 k ∧ wr.ownsRow w.heap.size 9 1 (.slice (some ⟨w.heap.size, 0, none⟩) n n) n xs ∧ wr.ownsRow w0.heap.size 34 1 (.slice (some ⟨w0.heap.size, 0, none⟩) n n) n ys ∧
      Hid (xs.take k = (strs (es.map (·.1))).take k) ∧ Hid (ys.take k = (u64s (es.map (·.2))).take k) ∧ Below w.heap.size w wr) (fun i _ => n - (intOf i).toNat)
  case atStart => exact ⟨0, _, _, Nat.zero_le _, rfl, hown0', hown1, (by simp [Hid]), (by simp [Hid]), hb1⟩
  case round =>
    clear hown0' hown1 hb1
    obtain ⟨k, xs, ys, hk, rfl, ho1, ho2, ht1, ht2, hb⟩ := hrel
    have hcl := h.below hb
    have hc := hcl.cell
    rw [← HN.out] at hc
    by_cases hlt : k < n
    · obtain ⟨e, he⟩ : ∃ e, es[k]? = some e := ⟨es[k]'(by have := HN.out; omega), List.getElem?_eq_getElem _⟩
      have gn := hcl.name he
      have gc := hcl.cnt he
      have hf1 := ho1.frozenAt k
      have hl1 := ho1.1
      have hd1 := ho1.cellAt k (by omega)
      rw [List.getElem?_eq_getElem (by omega)] at hd1
      have hf2 := ho2.frozenAt k
      have hl2 := ho2.1
      have hd2 := ho2.cellAt k (by omega)
      rw [List.getElem?_eq_getElem (by omega)] at hd2
      have hne : w0.heap.size ≠ w.heap.size := by omega
      have hlt' := hcl.lt
      have hbs := hb.size
      have hb1 := h.lt
      have H1 : Hid ((xs.set k (.string e.1)).take (k + 1) = (strs (es.map (·.1))).take (k + 1)) := take_set_step ht1.out (by omega) (strs_at (by simp [he]))
      have H2 : Hid ((ys.set k (.int .u64 (e.2 : Int))).take (k + 1) = (u64s (es.map (·.2))).take (k + 1)) := take_set_step ht2.out (by omega) (u64s_at (by simp [he]))
      have ho2' := owns_setCell_ne ho2 (a := ⟨w.heap.size, k, none⟩) (by simpa using hne.symm) (.string e.1)
      have HR1 := (owns_setCell_ne ((ho1.stored k (.string e.1)).1) (a := ⟨w0.heap.size, k, none⟩) (by simpa using hne) (.int .u64 (e.2 : Int)))
      have HR2 := (ho2'.stored k (.int .u64 (e.2 : Int))).1
      have hc' : (wr.setCell ⟨w.heap.size, k, none⟩ (.string e.1)).cell? ⟨b, 0, none⟩ = some (.slice (some ⟨g, 0, none⟩) n cap) := by
        rw [World.cell?_setCell_other]
        · exact hc
        · intro hh
          have := congrArg Addr.block hh
          simp at this
          omega
      clear he
      go_wp2
      go_roundw
      case rel => exact ⟨k + 1, _, _, by omega, by go_num, HR1, HR2, H1, H2, (hb.setCell (by simp) _).setCell (by simp; omega) _⟩
      case measure => simp [intOf]; omega
    · have hkn : k = n := by omega
      subst hkn
      go_wp2
      go_ret2
      have hl := HN.out
      have e1 : xs = strs (es.map (·.1)) := by
        have h := ht1.out
        rw [List.take_of_length_le (by have := ho1.1; omega), List.take_of_length_le (by simp [strs]; omega)] at h
        exact h
      have e2 : ys = u64s (es.map (·.2)) := by
        have h := ht2.out
        rw [List.take_of_length_le (by have := ho2.1; omega), List.take_of_length_le (by simp [u64s]; omega)] at h
        exact h
      subst e1 e2
      exact ⟨_, _, _, _, rfl, Row.of_owns' ho1, Row.of_owns' ho2, hb, fun x hx => by cases hx; exact ⟨Nat.le_refl _, owns_lt ho1⟩, fun x hx => by cases hx; exact ⟨by simp only; omega, owns_lt ho2⟩⟩
end Go.Proofs.Qxb6602088a
