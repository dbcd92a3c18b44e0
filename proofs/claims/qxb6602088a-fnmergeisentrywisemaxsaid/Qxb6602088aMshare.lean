/-
  Seat b6602088a. Plain facts on merged clocks.
-/
import Derived.Test.Qxb6602088aMrel
namespace Go.Proofs.Qxb6602088a

theorem merged_length (es fs : List E) (ha : Asc es) (hb : Asc fs) : (merged es fs).length ≤ es.length + fs.length := by
  unfold merged
  split
  · rw [raise_length]; omega
  · rw [List.length_reverse, wback_full ha hb]
    have := raise_le es fs
    omega

theorem less_merged {es fs : List E} (ha : Asc es) (hb : Asc fs) : Less es (merged es fs) ↔ Less es fs := by
  constructor
  · rintro ⟨x, h⟩
    rw [merged_lk ha hb] at h
    exact ⟨x, by omega⟩
  · rintro ⟨x, h⟩
    exact ⟨x, by rw [merged_lk ha hb]; omega⟩
theorem less_merged' {es fs : List E} (ha : Asc es) (hb : Asc fs) : Less fs (merged es fs) ↔ Less fs es := by
  constructor
  · rintro ⟨x, h⟩
    rw [merged_lk ha hb] at h
    exact ⟨x, by omega⟩
  · rintro ⟨x, h⟩
    exact ⟨x, by rw [merged_lk ha hb]; omega⟩
theorem merged_not_less {es fs : List E} (ha : Asc es) (hb : Asc fs) : ¬ Less (merged es fs) es ∧ ¬ Less (merged es fs) fs := by
  constructor
  · rintro ⟨x, h⟩
    rw [merged_lk ha hb] at h
    omega
  · rintro ⟨x, h⟩
    rw [merged_lk ha hb] at h
    omega

end Go.Proofs.Qxb6602088a
