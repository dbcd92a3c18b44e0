/-
  Seat b6602088a. The five length guards of the clock laws (10, 22, 23, 26, 28), by contracts: each returns some bool and leaves the world alone.
-/
import Derived.Test.Qxb6602088aArgs
namespace Go.Proofs.Qxb6602088a
open Go.RowKit

/-- The call returned some bool. -/
def IsBool (e : Ending) : Prop := ∃ b : Bool, e = .returned (.bool b)
theorem isBool_mk (b : Bool) : IsBool (.returned (.bool b)) := ⟨b, rfl⟩

set_option maxHeartbeats 2000000 in
set_option maxRecDepth 100000 in
theorem zz10 (aoA aoC boA boC : Option Addr) (nA nC mA mC cA cC dA dC : Nat) (A B : List ByteArray) (w : World) (hnA : nA ≤ maxLen) (hnC : nC ≤ maxLen) (hmA : mA ≤ maxLen) (hmC : mC ≤ maxLen) (hA : A.length = nA) (hB : B.length = mA)
    (hsA : ∀ (i : Nat) (x : ByteArray), A[i]? = some x → x.size ≤ maxLen) (hsB : ∀ (i : Nat) (x : ByteArray), B[i]? = some x → x.size ≤ maxLen) (rA : Row w aoA (strs A)) (rB : Row w boA (strs B)) :
    Calls Try.prog 10 #[.slice aoA nA cA, .slice aoC nC cC, .slice boA mA dA, .slice boC mC dC] w fun e w' => IsBool e ∧ w = w' := by
  unfold maxLen at hnA hnC hmA hmC hsA hsB
  by_cases h1 : nA ≤ 1048576
  · go_enter Try.func10, Try.ntmps10
    go_wp2
    go_loop [9, 10] (fun s i => ∃ k t : Nat, k ≤ nA ∧ t ≤ 1048576 ∧ s = .int .i64 (t : Int) ∧ i = .int .i64 k) (fun _ i => nA - (intOf i).toNat)
    case atStart => exact ⟨0, nA, Nat.zero_le _, h1, rfl, rfl⟩
    case round =>
      obtain ⟨k, t, hk, ht, rfl, rfl⟩ := hrel
      by_cases hlt : k < nA
      · obtain ⟨x, hx⟩ : ∃ x, A[k]? = some x := ⟨A[k]'(by omega), List.getElem?_eq_getElem _⟩
        obtain ⟨b, o, rfl, g⟩ := rA k _ (strs_at hx)
        have hxs := hsA k x hx
        clear hx hsA hsB
        by_cases hb1 : 1048576 < x.size
        · go_wp2
          go_ret
          exact ⟨isBool_mk _, rfl⟩
        by_cases hb2 : 1048576 < t + x.size
        · go_wp2
          go_ret
          exact ⟨isBool_mk _, rfl⟩
        · go_wp2
          go_round
          case rel => exact ⟨k + 1, t + x.size, by omega, by omega, by go_num, by go_num⟩
          case measure => simp [intOf]; omega
      · by_cases h2 : 1048576 < nC
        · go_wp2
          go_ret
          exact ⟨isBool_mk _, rfl⟩
        by_cases h3 : 1048576 < t + nC
        · go_wp2
          go_ret
          exact ⟨isBool_mk _, rfl⟩
        by_cases h4 : 1048576 < mA
        · go_wp2
          go_ret
          exact ⟨isBool_mk _, rfl⟩
        by_cases h5 : 1048576 < t + nC + mA
        · go_wp2
          go_ret
          exact ⟨isBool_mk _, rfl⟩
        go_wp2
        go_loop [9, 11] (fun s i => ∃ k t : Nat, k ≤ mA ∧ t ≤ 1048576 ∧ s = .int .i64 (t : Int) ∧ i = .int .i64 k) (fun _ i => mA - (intOf i).toNat)
        case atStart => exact ⟨0, t + nC + mA, Nat.zero_le _, by omega, by go_num, rfl⟩
        case round =>
          obtain ⟨k2, t2, hk2, ht2, rfl, rfl⟩ := hrel
          by_cases hlt2 : k2 < mA
          · obtain ⟨x, hx⟩ : ∃ x, B[k2]? = some x := ⟨B[k2]'(by omega), List.getElem?_eq_getElem _⟩
            obtain ⟨b, o, rfl, g⟩ := rB k2 _ (strs_at hx)
            have hxs := hsB k2 x hx
            clear hx hsA hsB
            by_cases hb1 : 1048576 < x.size
            · go_wp2
              go_ret
              exact ⟨isBool_mk _, rfl⟩
            by_cases hb2 : 1048576 < t2 + x.size
            · go_wp2
              go_ret
              exact ⟨isBool_mk _, rfl⟩
            · go_wp2
              go_round
              case rel => exact ⟨k2 + 1, t2 + x.size, by omega, by omega, by go_num, by go_num⟩
              case measure => simp [intOf]; omega
          · by_cases h6 : 1048576 < mC
            · go_wp2
              go_ret
              exact ⟨isBool_mk _, rfl⟩
            by_cases h7 : 1048576 < t2 + mC
            · go_wp2
              go_ret
              exact ⟨isBool_mk _, rfl⟩
            · go_wp2
              go_ret
              exact ⟨isBool_mk _, rfl⟩
  · go_enter Try.func10, Try.ntmps10
    go_wp2
    go_ret
    exact ⟨isBool_mk _, rfl⟩

set_option maxHeartbeats 2000000 in
set_option maxRecDepth 100000 in
theorem zz22 (aoA aoC boA boC : Option Addr) (nA nC mA mC cA cC dA dC : Nat) (A B : List ByteArray) (w : World) (hnA : nA ≤ maxLen) (hnC : nC ≤ maxLen) (hmA : mA ≤ maxLen) (hmC : mC ≤ maxLen) (hA : A.length = nA) (hB : B.length = mA)
    (hsA : ∀ (i : Nat) (x : ByteArray), A[i]? = some x → x.size ≤ maxLen) (hsB : ∀ (i : Nat) (x : ByteArray), B[i]? = some x → x.size ≤ maxLen) (rA : Row w aoA (strs A)) (rB : Row w boA (strs B)) :
    Calls Try.prog 22 #[.slice aoA nA cA, .slice aoC nC cC, .slice boA mA dA, .slice boC mC dC] w fun e w' => IsBool e ∧ w = w' := by
  unfold maxLen at hnA hnC hmA hmC hsA hsB
  by_cases h1 : nA ≤ 1048576
  · go_enter Try.func22, Try.ntmps22
    go_wp2
    go_loop [9, 10] (fun s i => ∃ k t : Nat, k ≤ nA ∧ t ≤ 1048576 ∧ s = .int .i64 (t : Int) ∧ i = .int .i64 k) (fun _ i => nA - (intOf i).toNat)
    case atStart => exact ⟨0, nA, Nat.zero_le _, h1, rfl, rfl⟩
    case round =>
      obtain ⟨k, t, hk, ht, rfl, rfl⟩ := hrel
      by_cases hlt : k < nA
      · obtain ⟨x, hx⟩ : ∃ x, A[k]? = some x := ⟨A[k]'(by omega), List.getElem?_eq_getElem _⟩
        obtain ⟨b, o, rfl, g⟩ := rA k _ (strs_at hx)
        have hxs := hsA k x hx
        clear hx hsA hsB
        by_cases hb1 : 1048576 < x.size
        · go_wp2
          go_ret
          exact ⟨isBool_mk _, rfl⟩
        by_cases hb2 : 1048576 < t + x.size
        · go_wp2
          go_ret
          exact ⟨isBool_mk _, rfl⟩
        · go_wp2
          go_round
          case rel => exact ⟨k + 1, t + x.size, by omega, by omega, by go_num, by go_num⟩
          case measure => simp [intOf]; omega
      · by_cases h2 : 1048576 < nC
        · go_wp2
          go_ret
          exact ⟨isBool_mk _, rfl⟩
        by_cases h3 : 1048576 < t + nC
        · go_wp2
          go_ret
          exact ⟨isBool_mk _, rfl⟩
        by_cases h4 : 1048576 < mA
        · go_wp2
          go_ret
          exact ⟨isBool_mk _, rfl⟩
        by_cases h5 : 1048576 < t + nC + mA
        · go_wp2
          go_ret
          exact ⟨isBool_mk _, rfl⟩
        go_wp2
        go_loop [9, 11] (fun s i => ∃ k t : Nat, k ≤ mA ∧ t ≤ 1048576 ∧ s = .int .i64 (t : Int) ∧ i = .int .i64 k) (fun _ i => mA - (intOf i).toNat)
        case atStart => exact ⟨0, t + nC + mA, Nat.zero_le _, by omega, by go_num, rfl⟩
        case round =>
          obtain ⟨k2, t2, hk2, ht2, rfl, rfl⟩ := hrel
          by_cases hlt2 : k2 < mA
          · obtain ⟨x, hx⟩ : ∃ x, B[k2]? = some x := ⟨B[k2]'(by omega), List.getElem?_eq_getElem _⟩
            obtain ⟨b, o, rfl, g⟩ := rB k2 _ (strs_at hx)
            have hxs := hsB k2 x hx
            clear hx hsA hsB
            by_cases hb1 : 1048576 < x.size
            · go_wp2
              go_ret
              exact ⟨isBool_mk _, rfl⟩
            by_cases hb2 : 1048576 < t2 + x.size
            · go_wp2
              go_ret
              exact ⟨isBool_mk _, rfl⟩
            · go_wp2
              go_round
              case rel => exact ⟨k2 + 1, t2 + x.size, by omega, by omega, by go_num, by go_num⟩
              case measure => simp [intOf]; omega
          · by_cases h6 : 1048576 < mC
            · go_wp2
              go_ret
              exact ⟨isBool_mk _, rfl⟩
            by_cases h7 : 1048576 < t2 + mC
            · go_wp2
              go_ret
              exact ⟨isBool_mk _, rfl⟩
            · go_wp2
              go_ret
              exact ⟨isBool_mk _, rfl⟩
  · go_enter Try.func22, Try.ntmps22
    go_wp2
    go_ret
    exact ⟨isBool_mk _, rfl⟩

set_option maxHeartbeats 2000000 in
set_option maxRecDepth 100000 in
theorem zz23 (aoA aoC boA boC : Option Addr) (nA nC mA mC cA cC dA dC : Nat) (A B : List ByteArray) (w : World) (hnA : nA ≤ maxLen) (hnC : nC ≤ maxLen) (hmA : mA ≤ maxLen) (hmC : mC ≤ maxLen) (hA : A.length = nA) (hB : B.length = mA)
    (hsA : ∀ (i : Nat) (x : ByteArray), A[i]? = some x → x.size ≤ maxLen) (hsB : ∀ (i : Nat) (x : ByteArray), B[i]? = some x → x.size ≤ maxLen) (rA : Row w aoA (strs A)) (rB : Row w boA (strs B)) :
    Calls Try.prog 23 #[.slice aoA nA cA, .slice aoC nC cC, .slice boA mA dA, .slice boC mC dC] w fun e w' => IsBool e ∧ w = w' := by
  unfold maxLen at hnA hnC hmA hmC hsA hsB
  by_cases h1 : nA ≤ 1048576
  · go_enter Try.func23, Try.ntmps23
    go_wp2
    go_loop [9, 10] (fun s i => ∃ k t : Nat, k ≤ nA ∧ t ≤ 1048576 ∧ s = .int .i64 (t : Int) ∧ i = .int .i64 k) (fun _ i => nA - (intOf i).toNat)
    case atStart => exact ⟨0, nA, Nat.zero_le _, h1, rfl, rfl⟩
    case round =>
      obtain ⟨k, t, hk, ht, rfl, rfl⟩ := hrel
      by_cases hlt : k < nA
      · obtain ⟨x, hx⟩ : ∃ x, A[k]? = some x := ⟨A[k]'(by omega), List.getElem?_eq_getElem _⟩
        obtain ⟨b, o, rfl, g⟩ := rA k _ (strs_at hx)
        have hxs := hsA k x hx
        clear hx hsA hsB
        by_cases hb1 : 1048576 < x.size
        · go_wp2
          go_ret
          exact ⟨isBool_mk _, rfl⟩
        by_cases hb2 : 1048576 < t + x.size
        · go_wp2
          go_ret
          exact ⟨isBool_mk _, rfl⟩
        · go_wp2
          go_round
          case rel => exact ⟨k + 1, t + x.size, by omega, by omega, by go_num, by go_num⟩
          case measure => simp [intOf]; omega
      · by_cases h2 : 1048576 < nC
        · go_wp2
          go_ret
          exact ⟨isBool_mk _, rfl⟩
        by_cases h3 : 1048576 < t + nC
        · go_wp2
          go_ret
          exact ⟨isBool_mk _, rfl⟩
        by_cases h4 : 1048576 < mA
        · go_wp2
          go_ret
          exact ⟨isBool_mk _, rfl⟩
        by_cases h5 : 1048576 < t + nC + mA
        · go_wp2
          go_ret
          exact ⟨isBool_mk _, rfl⟩
        go_wp2
        go_loop [9, 11] (fun s i => ∃ k t : Nat, k ≤ mA ∧ t ≤ 1048576 ∧ s = .int .i64 (t : Int) ∧ i = .int .i64 k) (fun _ i => mA - (intOf i).toNat)
        case atStart => exact ⟨0, t + nC + mA, Nat.zero_le _, by omega, by go_num, rfl⟩
        case round =>
          obtain ⟨k2, t2, hk2, ht2, rfl, rfl⟩ := hrel
          by_cases hlt2 : k2 < mA
          · obtain ⟨x, hx⟩ : ∃ x, B[k2]? = some x := ⟨B[k2]'(by omega), List.getElem?_eq_getElem _⟩
            obtain ⟨b, o, rfl, g⟩ := rB k2 _ (strs_at hx)
            have hxs := hsB k2 x hx
            clear hx hsA hsB
            by_cases hb1 : 1048576 < x.size
            · go_wp2
              go_ret
              exact ⟨isBool_mk _, rfl⟩
            by_cases hb2 : 1048576 < t2 + x.size
            · go_wp2
              go_ret
              exact ⟨isBool_mk _, rfl⟩
            · go_wp2
              go_round
              case rel => exact ⟨k2 + 1, t2 + x.size, by omega, by omega, by go_num, by go_num⟩
              case measure => simp [intOf]; omega
          · by_cases h6 : 1048576 < mC
            · go_wp2
              go_ret
              exact ⟨isBool_mk _, rfl⟩
            by_cases h7 : 1048576 < t2 + mC
            · go_wp2
              go_ret
              exact ⟨isBool_mk _, rfl⟩
            · go_wp2
              go_ret
              exact ⟨isBool_mk _, rfl⟩
  · go_enter Try.func23, Try.ntmps23
    go_wp2
    go_ret
    exact ⟨isBool_mk _, rfl⟩

set_option maxHeartbeats 2000000 in
set_option maxRecDepth 100000 in
theorem zz26 (aoA aoC boA boC : Option Addr) (nA nC mA mC cA cC dA dC : Nat) (A B : List ByteArray) (w : World) (hnA : nA ≤ maxLen) (hnC : nC ≤ maxLen) (hmA : mA ≤ maxLen) (hmC : mC ≤ maxLen) (hA : A.length = nA) (hB : B.length = mA)
    (hsA : ∀ (i : Nat) (x : ByteArray), A[i]? = some x → x.size ≤ maxLen) (hsB : ∀ (i : Nat) (x : ByteArray), B[i]? = some x → x.size ≤ maxLen) (rA : Row w aoA (strs A)) (rB : Row w boA (strs B)) :
    Calls Try.prog 26 #[.slice aoA nA cA, .slice aoC nC cC, .slice boA mA dA, .slice boC mC dC] w fun e w' => IsBool e ∧ w = w' := by
  unfold maxLen at hnA hnC hmA hmC hsA hsB
  by_cases h1 : nA ≤ 1048576
  · go_enter Try.func26, Try.ntmps26
    go_wp2
    go_loop [9, 10] (fun s i => ∃ k t : Nat, k ≤ nA ∧ t ≤ 1048576 ∧ s = .int .i64 (t : Int) ∧ i = .int .i64 k) (fun _ i => nA - (intOf i).toNat)
    case atStart => exact ⟨0, nA, Nat.zero_le _, h1, rfl, rfl⟩
    case round =>
      obtain ⟨k, t, hk, ht, rfl, rfl⟩ := hrel
      by_cases hlt : k < nA
      · obtain ⟨x, hx⟩ : ∃ x, A[k]? = some x := ⟨A[k]'(by omega), List.getElem?_eq_getElem _⟩
        obtain ⟨b, o, rfl, g⟩ := rA k _ (strs_at hx)
        have hxs := hsA k x hx
        clear hx hsA hsB
        by_cases hb1 : 1048576 < x.size
        · go_wp2
          go_ret
          exact ⟨isBool_mk _, rfl⟩
        by_cases hb2 : 1048576 < t + x.size
        · go_wp2
          go_ret
          exact ⟨isBool_mk _, rfl⟩
        · go_wp2
          go_round
          case rel => exact ⟨k + 1, t + x.size, by omega, by omega, by go_num, by go_num⟩
          case measure => simp [intOf]; omega
      · by_cases h2 : 1048576 < nC
        · go_wp2
          go_ret
          exact ⟨isBool_mk _, rfl⟩
        by_cases h3 : 1048576 < t + nC
        · go_wp2
          go_ret
          exact ⟨isBool_mk _, rfl⟩
        by_cases h4 : 1048576 < mA
        · go_wp2
          go_ret
          exact ⟨isBool_mk _, rfl⟩
        by_cases h5 : 1048576 < t + nC + mA
        · go_wp2
          go_ret
          exact ⟨isBool_mk _, rfl⟩
        go_wp2
        go_loop [9, 11] (fun s i => ∃ k t : Nat, k ≤ mA ∧ t ≤ 1048576 ∧ s = .int .i64 (t : Int) ∧ i = .int .i64 k) (fun _ i => mA - (intOf i).toNat)
        case atStart => exact ⟨0, t + nC + mA, Nat.zero_le _, by omega, by go_num, rfl⟩
        case round =>
          obtain ⟨k2, t2, hk2, ht2, rfl, rfl⟩ := hrel
          by_cases hlt2 : k2 < mA
          · obtain ⟨x, hx⟩ : ∃ x, B[k2]? = some x := ⟨B[k2]'(by omega), List.getElem?_eq_getElem _⟩
            obtain ⟨b, o, rfl, g⟩ := rB k2 _ (strs_at hx)
            have hxs := hsB k2 x hx
            clear hx hsA hsB
            by_cases hb1 : 1048576 < x.size
            · go_wp2
              go_ret
              exact ⟨isBool_mk _, rfl⟩
            by_cases hb2 : 1048576 < t2 + x.size
            · go_wp2
              go_ret
              exact ⟨isBool_mk _, rfl⟩
            · go_wp2
              go_round
              case rel => exact ⟨k2 + 1, t2 + x.size, by omega, by omega, by go_num, by go_num⟩
              case measure => simp [intOf]; omega
          · by_cases h6 : 1048576 < mC
            · go_wp2
              go_ret
              exact ⟨isBool_mk _, rfl⟩
            by_cases h7 : 1048576 < t2 + mC
            · go_wp2
              go_ret
              exact ⟨isBool_mk _, rfl⟩
            · go_wp2
              go_ret
              exact ⟨isBool_mk _, rfl⟩
  · go_enter Try.func26, Try.ntmps26
    go_wp2
    go_ret
    exact ⟨isBool_mk _, rfl⟩

set_option maxHeartbeats 2000000 in
set_option maxRecDepth 100000 in
theorem zz28 (aoA aoC boA boC : Option Addr) (nA nC mA mC cA cC dA dC : Nat) (A B : List ByteArray) (w : World) (hnA : nA ≤ maxLen) (hnC : nC ≤ maxLen) (hmA : mA ≤ maxLen) (hmC : mC ≤ maxLen) (hA : A.length = nA) (hB : B.length = mA)
    (hsA : ∀ (i : Nat) (x : ByteArray), A[i]? = some x → x.size ≤ maxLen) (hsB : ∀ (i : Nat) (x : ByteArray), B[i]? = some x → x.size ≤ maxLen) (rA : Row w aoA (strs A)) (rB : Row w boA (strs B)) :
    Calls Try.prog 28 #[.slice aoA nA cA, .slice aoC nC cC, .slice boA mA dA, .slice boC mC dC] w fun e w' => IsBool e ∧ w = w' := by
  unfold maxLen at hnA hnC hmA hmC hsA hsB
  by_cases h1 : nA ≤ 1048576
  · go_enter Try.func28, Try.ntmps28
    go_wp2
    go_loop [9, 10] (fun s i => ∃ k t : Nat, k ≤ nA ∧ t ≤ 1048576 ∧ s = .int .i64 (t : Int) ∧ i = .int .i64 k) (fun _ i => nA - (intOf i).toNat)
    case atStart => exact ⟨0, nA, Nat.zero_le _, h1, rfl, rfl⟩
    case round =>
      obtain ⟨k, t, hk, ht, rfl, rfl⟩ := hrel
      by_cases hlt : k < nA
      · obtain ⟨x, hx⟩ : ∃ x, A[k]? = some x := ⟨A[k]'(by omega), List.getElem?_eq_getElem _⟩
        obtain ⟨b, o, rfl, g⟩ := rA k _ (strs_at hx)
        have hxs := hsA k x hx
        clear hx hsA hsB
        by_cases hb1 : 1048576 < x.size
        · go_wp2
          go_ret
          exact ⟨isBool_mk _, rfl⟩
        by_cases hb2 : 1048576 < t + x.size
        · go_wp2
          go_ret
          exact ⟨isBool_mk _, rfl⟩
        · go_wp2
          go_round
          case rel => exact ⟨k + 1, t + x.size, by omega, by omega, by go_num, by go_num⟩
          case measure => simp [intOf]; omega
      · by_cases h2 : 1048576 < nC
        · go_wp2
          go_ret
          exact ⟨isBool_mk _, rfl⟩
        by_cases h3 : 1048576 < t + nC
        · go_wp2
          go_ret
          exact ⟨isBool_mk _, rfl⟩
        by_cases h4 : 1048576 < mA
        · go_wp2
          go_ret
          exact ⟨isBool_mk _, rfl⟩
        by_cases h5 : 1048576 < t + nC + mA
        · go_wp2
          go_ret
          exact ⟨isBool_mk _, rfl⟩
        go_wp2
        go_loop [9, 11] (fun s i => ∃ k t : Nat, k ≤ mA ∧ t ≤ 1048576 ∧ s = .int .i64 (t : Int) ∧ i = .int .i64 k) (fun _ i => mA - (intOf i).toNat)
        case atStart => exact ⟨0, t + nC + mA, Nat.zero_le _, by omega, by go_num, rfl⟩
        case round =>
          obtain ⟨k2, t2, hk2, ht2, rfl, rfl⟩ := hrel
          by_cases hlt2 : k2 < mA
          · obtain ⟨x, hx⟩ : ∃ x, B[k2]? = some x := ⟨B[k2]'(by omega), List.getElem?_eq_getElem _⟩
            obtain ⟨b, o, rfl, g⟩ := rB k2 _ (strs_at hx)
            have hxs := hsB k2 x hx
            clear hx hsA hsB
            by_cases hb1 : 1048576 < x.size
            · go_wp2
              go_ret
              exact ⟨isBool_mk _, rfl⟩
            by_cases hb2 : 1048576 < t2 + x.size
            · go_wp2
              go_ret
              exact ⟨isBool_mk _, rfl⟩
            · go_wp2
              go_round
              case rel => exact ⟨k2 + 1, t2 + x.size, by omega, by omega, by go_num, by go_num⟩
              case measure => simp [intOf]; omega
          · by_cases h6 : 1048576 < mC
            · go_wp2
              go_ret
              exact ⟨isBool_mk _, rfl⟩
            by_cases h7 : 1048576 < t2 + mC
            · go_wp2
              go_ret
              exact ⟨isBool_mk _, rfl⟩
            · go_wp2
              go_ret
              exact ⟨isBool_mk _, rfl⟩
  · go_enter Try.func28, Try.ntmps28
    go_wp2
    go_ret
    exact ⟨isBool_mk _, rfl⟩

end Go.Proofs.Qxb6602088a
