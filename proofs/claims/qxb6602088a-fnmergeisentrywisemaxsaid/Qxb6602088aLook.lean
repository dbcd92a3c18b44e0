/-
  Seat b6602088a. sameEntries (21), lookup (19), hasActor (18), max64 (20), dominatedBy (25) by contracts.
-/
import Derived.Test.Qxb6602088aClk
namespace Go.Proofs.Qxb6602088a
open Go.RowKit

set_option maxHeartbeats 1000000 in
/-- The same entries twice: true. -/
theorem same21 (aoA aoC boA boC : Option Addr) (n m cA cC dA dC : Nat) (A : List ByteArray) (C : List Nat) (w : World) (hn : n ≤ 1048576) (hm : m ≤ 1048576) (hA : A.length = n) (hC : C.length = m)
    (rA : Row w aoA (strs A)) (rC : Row w aoC (u64s C)) (rB : Row w boA (strs A)) (rD : Row w boC (u64s C)) :
    Calls Try.prog 21 #[.slice aoA n cA, .slice aoC m cC, .slice boA n dA, .slice boC m dC] w fun e w' => e = .returned (.bool true) ∧ Drw w w' := by
  go_enter Try.func21, Try.ntmps21
  go_wp2
  go_loopw [9] (fun i wr => ∃ k d : Nat, k ≤ n ∧ i = .int .i64 k ∧ wr = w.drewN d) (fun i _ => n - (intOf i).toNat)
  case atStart => exact ⟨0, 0, Nat.zero_le _, rfl, rfl⟩
  case round =>
    obtain ⟨k, d, hk, rfl, rfl⟩ := hrel
    by_cases hlt : k < n
    · obtain ⟨x, hx⟩ : ∃ x, A[k]? = some x := ⟨A[k]'(by omega), List.getElem?_eq_getElem _⟩
      obtain ⟨b1, o1, rfl, q1⟩ := rA k _ (strs_at hx)
      obtain ⟨b2, o2, rfl, q2⟩ := rB k _ (strs_at hx)
      clear hx
      go_wp2
      go_quiet (fail)
      go_wp2
      go_roundw
      case rel => exact ⟨k + 1, _, by omega, by go_num, rfl⟩
      case measure => simp [intOf]; omega
    · go_wp2
      go_loopw [10] (fun i wr => ∃ k d : Nat, k ≤ m ∧ i = .int .i64 k ∧ wr = w.drewN d) (fun i _ => m - (intOf i).toNat)
      case atStart => exact ⟨0, d, Nat.zero_le _, rfl, rfl⟩
      case round =>
        obtain ⟨k2, d2, hk2, rfl, rfl⟩ := hrel
        by_cases hlt2 : k2 < m
        · obtain ⟨x, hx⟩ : ∃ x, C[k2]? = some x := ⟨C[k2]'(by omega), List.getElem?_eq_getElem _⟩
          obtain ⟨b1, o1, rfl, q1⟩ := rC k2 _ (u64s_at hx)
          obtain ⟨b2, o2, rfl, q2⟩ := rD k2 _ (u64s_at hx)
          clear hx
          go_wp2
          go_quiet (fail)
          go_wp2
          go_roundw
          case rel => exact ⟨k2 + 1, _, by omega, by go_num, rfl⟩
          case measure => simp [intOf]; omega
        · go_wp2
          go_ret
          exact ⟨rfl, (Drw.refl w).drewN _⟩

theorem bytes_ne {x y : ByteArray} (h : y ≠ x) : (y.toList == x.toList) = false := by
  rw [beq_eq_false_iff_ne]
  intro he
  apply h
  rw [Lib.toList_data, Lib.toList_data] at he
  obtain ⟨⟨a⟩⟩ := x
  obtain ⟨⟨b⟩⟩ := y
  simp at he
  rw [he]

theorem zip_drop_at {A : List ByteArray} {C : List Nat} {k : Nat} {y : ByteArray} {z : Nat} (hy : A[k]? = some y) (hz : C[k]? = some z) : (A.zip C).drop k = (y, z) :: (A.zip C).drop (k + 1) := by
  have h := zip_at hy hz
  obtain ⟨hi, he⟩ := List.getElem?_eq_some_iff.1 h
  rw [List.drop_eq_getElem_cons hi, he]

set_option maxHeartbeats 1000000 in
theorem lookup19 (aoA aoC : Option Addr) (n cA cC : Nat) (A : List ByteArray) (C : List Nat) (x : ByteArray) (w : World) (hn : n ≤ 1048576) (hA : A.length = n) (hC : C.length = n)
    (rA : Row w aoA (strs A)) (rC : Row w aoC (u64s C)) :
    Calls Try.prog 19 #[.slice aoA n cA, .slice aoC n cC, .string x] w fun e w' => e = .returned (.int .u64 (lk (A.zip C) x : Nat)) ∧ w = w' := by
  go_enter Try.func19, Try.ntmps19
  go_wp2
  go_loop [7] (fun i => ∃ k : Nat, k ≤ n ∧ i = .int .i64 k ∧ Hid (lk (A.zip C) x = lk ((A.zip C).drop k) x)) (fun i => n - (intOf i).toNat)
  case atStart => exact ⟨0, Nat.zero_le _, rfl, rfl⟩
  case round =>
    obtain ⟨k, hk, rfl, H⟩ := hrel
    by_cases hlt : k < n
    · obtain ⟨y, hy⟩ : ∃ y, A[k]? = some y := ⟨A[k]'(by omega), List.getElem?_eq_getElem _⟩
      obtain ⟨z, hz⟩ : ∃ z, C[k]? = some z := ⟨C[k]'(by omega), List.getElem?_eq_getElem _⟩
      obtain ⟨b1, o1, rfl, q1⟩ := rA k _ (strs_at hy)
      obtain ⟨b2, o2, rfl, q2⟩ := rC k _ (u64s_at hz)
      by_cases hyx : y = x
      · subst hyx
        have HL : Hid (lk (A.zip C) y = z) := by show _ = _; rw [H.out, zip_drop_at hy hz, lk]; exact if_pos rfl
        clear hy hz H
        go_wp2
        go_ret
        exact ⟨by rw [HL.out]; rfl, rfl⟩
      · have hb := bytes_ne hyx
        have HL : Hid (lk (A.zip C) x = lk ((A.zip C).drop (k + 1)) x) := by show _ = _; rw [H.out, zip_drop_at hy hz, lk]; exact if_neg hyx
        clear hy hz H
        go_wp2
        go_round
        case rel => exact ⟨k + 1, by omega, by go_num, HL⟩
        case measure => simp [intOf]; omega
    · have HL : Hid (lk (A.zip C) x = 0) := by show _ = _; rw [H.out, List.drop_of_length_le (by simp; omega)]; rfl
      clear H
      go_wp2
      go_ret
      exact ⟨by rw [HL.out]; rfl, rfl⟩

def hasB (A : List ByteArray) (x : ByteArray) : Bool := A.any fun y => decide (y = x)
theorem hasB_mem {A : List ByteArray} {x : ByteArray} : hasB A x = true ↔ x ∈ A := by simp [hasB]

set_option maxHeartbeats 1000000 in
theorem has18 (aoA : Option Addr) (n cA : Nat) (A : List ByteArray) (x : ByteArray) (w : World) (hn : n ≤ 1048576) (hA : A.length = n) (rA : Row w aoA (strs A)) :
    Calls Try.prog 18 #[.slice aoA n cA, .string x] w fun e w' => e = .returned (.bool (hasB A x)) ∧ w = w' := by
  go_enter Try.func18, Try.ntmps18
  go_wp2
  go_loop [5] (fun i => ∃ k : Nat, k ≤ n ∧ i = .int .i64 k ∧ Hid (hasB A x = hasB (A.drop k) x)) (fun i => n - (intOf i).toNat)
  case atStart => exact ⟨0, Nat.zero_le _, rfl, rfl⟩
  case round =>
    obtain ⟨k, hk, rfl, H⟩ := hrel
    by_cases hlt : k < n
    · obtain ⟨y, hy⟩ : ∃ y, A[k]? = some y := ⟨A[k]'(by omega), List.getElem?_eq_getElem _⟩
      obtain ⟨b1, o1, rfl, q1⟩ := rA k _ (strs_at hy)
      have hd : A.drop k = y :: A.drop (k + 1) := by
        obtain ⟨hi, he⟩ := List.getElem?_eq_some_iff.1 hy
        rw [List.drop_eq_getElem_cons hi, he]
      by_cases hyx : y = x
      · subst hyx
        have HL : Hid (hasB A y = true) := by show _ = _; rw [H.out, hd]; simp [hasB]
        clear hy H hd
        go_wp2
        go_ret
        exact ⟨by rw [HL.out]; rfl, rfl⟩
      · have hb := bytes_ne hyx
        have HL : Hid (hasB A x = hasB (A.drop (k + 1)) x) := by show _ = _; rw [H.out, hd]; simp [hasB, hyx]
        clear hy H hd
        go_wp2
        go_round
        case rel => exact ⟨k + 1, by omega, by go_num, HL⟩
        case measure => simp [intOf]; omega
    · have HL : Hid (hasB A x = false) := by show _ = _; rw [H.out, List.drop_of_length_le (by omega)]; rfl
      clear H
      go_wp2
      go_ret
      exact ⟨by rw [HL.out]; rfl, rfl⟩

set_option maxHeartbeats 400000 in
theorem max20 (x y : Nat) (w : World) : Calls Try.prog 20 #[.int .u64 (x : Int), .int .u64 (y : Int)] w fun e w' => e = .returned (.int .u64 ((max x y : Nat) : Int)) ∧ w = w' := by
  by_cases h : y < x
  · rw [Nat.max_eq_left (by omega)]
    go_enter Try.func20, Try.ntmps20
    go_wp2
    go_ret
    exact ⟨rfl, rfl⟩
  · rw [Nat.max_eq_right (by omega)]
    go_enter Try.func20, Try.ntmps20
    go_wp2
    go_ret
    exact ⟨rfl, rfl⟩

def domB (es fs : List E) : Bool := es.all fun e => decide (e.2 ≤ lk fs e.1)

theorem domB_iff {es fs : List E} (ha : Asc es) : domB es fs = true ↔ ¬ Less fs es := by
  unfold domB
  rw [List.all_eq_true]
  constructor
  · rintro h ⟨x, hx⟩
    obtain ⟨e, he, rfl, h2⟩ := lk_ne_zero (l := es) (x := x) (by omega)
    have := h e he
    simp only [decide_eq_true_eq] at this
    omega
  · intro h e he
    simp only [decide_eq_true_eq]
    rcases Nat.lt_or_ge (lk fs e.1) e.2 with hlt | hge
    · exact absurd ⟨e.1, by rw [lk_mem ha he]; exact hlt⟩ h
    · exact hge

set_option maxHeartbeats 1000000 in
theorem dom25 (aoA aoC boA boC : Option Addr) (n m cA cC dA dC : Nat) (A B : List ByteArray) (C D : List Nat) (w : World) (hn : n ≤ 1048576) (hm : m ≤ 1048576) (hA : A.length = n) (hC : C.length = n) (hB : B.length = m) (hD : D.length = m)
    (rA : Row w aoA (strs A)) (rC : Row w aoC (u64s C)) (rB : Row w boA (strs B)) (rD : Row w boC (u64s D)) :
    Calls Try.prog 25 #[.slice aoA n cA, .slice aoC n cC, .slice boA m dA, .slice boC m dC] w fun e w' => e = .returned (.bool (domB (A.zip C) (B.zip D))) ∧ Drw w w' := by
  go_enter Try.func25, Try.ntmps25
  go_wp2
  go_loopw [9] (fun i wr => ∃ k d : Nat, k ≤ n ∧ i = .int .i64 k ∧ Hid (domB (A.zip C) (B.zip D) = domB ((A.zip C).drop k) (B.zip D)) ∧ wr = w.drewN d) (fun i _ => n - (intOf i).toNat)
  case atStart => exact ⟨0, 0, Nat.zero_le _, rfl, rfl, rfl⟩
  case round =>
    obtain ⟨k, d, hk, rfl, H, rfl⟩ := hrel
    by_cases hlt : k < n
    · obtain ⟨y, hy⟩ : ∃ y, A[k]? = some y := ⟨A[k]'(by omega), List.getElem?_eq_getElem _⟩
      obtain ⟨z, hz⟩ : ∃ z, C[k]? = some z := ⟨C[k]'(by omega), List.getElem?_eq_getElem _⟩
      obtain ⟨b1, o1, rfl, q1⟩ := rA k _ (strs_at hy)
      obtain ⟨b2, o2, rfl, q2⟩ := rC k _ (u64s_at hz)
      by_cases hle : z ≤ lk (B.zip D) y
      · have HL : Hid (domB (A.zip C) (B.zip D) = domB ((A.zip C).drop (k + 1)) (B.zip D)) := by show _ = _; rw [H.out, zip_drop_at hy hz]; simp [domB, hle]
        clear hy hz H
        go_wp2
        go_quiet ((go_at_call 19; exact quiet_same (lookup19 boA boC m dA dC B D y _ hm hB hD (rB.drewN _) (rD.drewN _))))
        go_wp2
        go_roundw
        case rel => exact ⟨k + 1, _, by omega, by go_num, HL, rfl⟩
        case measure => simp [intOf]; omega
      · have HL : Hid (domB (A.zip C) (B.zip D) = false) := by show _ = _; rw [H.out, zip_drop_at hy hz]; simp [domB, hle]
        clear hy hz H
        go_wp2
        go_quiet ((go_at_call 19; exact quiet_same (lookup19 boA boC m dA dC B D y _ hm hB hD (rB.drewN _) (rD.drewN _))))
        go_wp2
        go_ret
        exact ⟨by rw [HL.out]; rfl, ((Drw.refl w).drewN d).drewN _⟩
    · have HL : Hid (domB (A.zip C) (B.zip D) = true) := by show _ = _; rw [H.out, List.drop_of_length_le (by simp; omega)]; rfl
      clear H
      go_wp2
      go_ret
      exact ⟨by rw [HL.out]; rfl, (Drw.refl w).drewN d⟩

end Go.Proofs.Qxb6602088a
