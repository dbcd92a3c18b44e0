/-
  Seat b6602088a. slices.Grow (37) on a full row of entries that the call itself made, by its contract.
-/
import Derived.Test.Qxb6602088aClk
import Derived.Lib.AppendZerosOnto
namespace Go.Proofs.Qxb6602088a
open Go.RowKit

set_option maxHeartbeats 1000000 in
theorem grow37 (g n k : Nat) (es : List E) (w : World) (hn : es.length = n) (hk0 : 0 < k) (hnk : n ≤ 1048576) (hkk : k ≤ 1048576) (hrow : w.ownsRow 0 50 2 (.slice (some ⟨g, 0, none⟩) n n) n (flat es)) :
    Calls Try.prog 37 #[.slice (some ⟨g, 0, none⟩) n n, .int .i64 (k : Int)] w fun e w' => ∃ (G : Nat) (xs : List Value), e = .returned (.slice (some ⟨w.heap.size, 0, none⟩) n G) ∧
      w'.ownsRow w.heap.size 50 2 (.slice (some ⟨w.heap.size, 0, none⟩) (n + k) G) (n + k) xs ∧ xs.take (n * 2) = flat es ∧ Below w.heap.size w w' := by
  obtain ⟨i0, hi, hz0, hz1, hz2⟩ := info_parts Try.info50
  have hold : (Builtin.firstCells i0.size n (.slice (some ⟨g, 0, none⟩) n n)).run Try.prog w.drew = .ok (flat es).toArray w.drew := by
    refine run_firstCells_some w.drew i0.size n ⟨g, 0, none⟩ n n (flat es) (by rw [hz1, flat_length, hn]) ?_
    intro j v hj
    exact hrow.cells (g := g) rfl j v hj
  have hrz : ∀ ty, (Builtin.append_ #[48, 3] ty #[.slice (some ⟨g, 0, none⟩) n n, .int .i64 (k : Int)]).run Try.prog w = _ := fun ty =>
    Lib.run_append_grow_zeros w 48 3 ty 50 i0 (.agg #[.string ByteArray.empty, .int .u64 0]) .i64 .i64 Try.underlying48 Try.underlying3 hi hz0 (some ⟨g, 0, none⟩) n n (flat es) hold k hk0 (by rw [hz1]; omega) (by omega) (by omega)
      (by rw [hz2]; omega) (by rw [hz2]; exact growslice_fits (by omega) (by omega))
  have hGn : n + k ≤ grownCap w (n + k) n 50 := grownCap_ge w _ _ _
  have hGm := grownCap_le_maxLen w (n + k) n 50 (by unfold maxLen; omega)
  obtain ⟨G, hG⟩ : ∃ G, G = grownCap w (n + k) n 50 := ⟨_, rfl⟩
  rw [← hG] at hrz hGn hGm
  have hG63 : G ≤ 9223372036854775807 := by unfold maxLen at hGm; omega
  clear hold hG
  go_enter Try.func37, Try.ntmps37
  go_wp2_with (at_builtin; refine Lib.wpList_append_run _ rfl _ _ _ _ rfl _ _ rfl rfl _ _ (hrz _) ?_)
  all_goals
    go_ret
    have hsz : ((flat es).toArray ++ (Builtin.zeroCells #[.string ByteArray.empty, .int .u64 0] k ++ Builtin.zeroCells #[.string ByteArray.empty, .int .u64 0] (G - (n + k)))).size = G * 2 := by
      simp only [Array.size_append, List.size_toArray, flat_length, hn, size_zeroCells]
      show n * 2 + (k * 2 + (G - (n + k)) * 2) = G * 2
      omega
    refine ⟨G, _, rfl, ⟨?_, .inr ⟨w.heap.size, G, _, rfl, Nat.le_refl _, heap_alloc_new w.drew _, hGn, hGm, hsz, rfl⟩⟩, ?_, ?_⟩
    · rw [List.length_take, Array.length_toList, hsz]
      omega
    · rw [List.take_take, Nat.min_eq_left (by omega)]
      simp only [Array.toList_append]
      rw [List.take_append_of_le_length (by rw [flat_length]; omega)]
      exact List.take_of_length_le (by rw [flat_length]; omega)
    · exact (((Below.refl _ _).drew).alloc (Nat.le_refl _) _)
end Go.Proofs.Qxb6602088a
