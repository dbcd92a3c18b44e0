/-
  Seat b6602088a. wellFormed (12), addStrings (34), clockArgsTooBig (11), cloneStrings (13), cloneU64 (14) by contracts.
-/
import Derived.Test.Qxb6602088aCmp
namespace Go.Proofs.Qxb6602088a
open Go.RowKit

/-- A callee that only draws, inside a region that draws, behind d draws. -/
theorem quiet_drw {P : Program} {f : FuncId} {args : Array Value} {w : World} {d x : Nat} {v : Value}
    (h : Calls P f args (w.drewN (d + x)) fun e w' => e = .returned v ∧ Drw (w.drewN (d + x)) w') : Calls P f args (w.drewN (d + x)) fun e w'' => e = .returned v ∧ ∃ n, w'' = w.drewN (d + n) :=
  h.mono fun _ _ ⟨he, m, hm⟩ => ⟨he, x + m, by rw [hm, World.drewN_drewN, Nat.add_assoc]⟩
theorem quiet_same {P : Program} {f : FuncId} {args : Array Value} {w : World} {d x : Nat} {v : Value}
    (h : Calls P f args (w.drewN (d + x)) fun e w' => e = .returned v ∧ w.drewN (d + x) = w') : Calls P f args (w.drewN (d + x)) fun e w'' => e = .returned v ∧ ∃ n, w'' = w.drewN (d + n) :=
  h.mono fun _ _ ⟨he, hm⟩ => ⟨he, x, hm.symm⟩

def strs (l : List ByteArray) : List Value := l.map Value.string
def u64s (l : List Nat) : List Value := l.map fun n : Nat => Value.int .u64 (n : Int)
theorem strs_at {l : List ByteArray} {i : Nat} {x : ByteArray} (h : l[i]? = some x) : (strs l)[i]? = some (.string x) := by simp [strs, h]
theorem u64s_at {l : List Nat} {i z : Nat} (h : l[i]? = some z) : (u64s l)[i]? = some (.int .u64 (z : Int)) := by simp [u64s, h]

def WFto (A : List ByteArray) (C : List Nat) (k : Nat) : Prop := (∀ i, i < k → ∀ c, C[i]? = some c → c ≠ 0) ∧ ∀ i, i + 1 < k → ∀ x y, A[i]? = some x → A[i + 1]? = some y → cmpB x y < 0
def WF (A : List ByteArray) (C : List Nat) : Prop := A.length = C.length ∧ WFto A C A.length

theorem WFto.zero (A : List ByteArray) (C : List Nat) : WFto A C 0 := ⟨fun i h => by omega, fun i h => by omega⟩
theorem WFto.first {A : List ByteArray} {C : List Nat} {c : Nat} (hc : C[0]? = some c) (h0 : c ≠ 0) : WFto A C 1 := by
  refine ⟨fun i h c' hc' => ?_, fun i h => by omega⟩
  have : i = 0 := by omega
  subst this
  rw [hc] at hc'
  cases hc'
  exact h0
theorem WFto.succ {A : List ByteArray} {C : List Nat} {k c : Nat} {x y : ByteArray} (h : WFto A C (k + 1)) (hc : C[k + 1]? = some c) (h0 : c ≠ 0) (hx : A[k]? = some x) (hy : A[k + 1]? = some y) (hlt : cmpB x y < 0) : WFto A C (k + 2) := by
  refine ⟨fun i hi c' hc' => ?_, fun i hi x' y' hx' hy' => ?_⟩
  · by_cases he : i = k + 1
    · subst he; rw [hc] at hc'; cases hc'; exact h0
    · exact h.1 i (by omega) c' hc'
  · by_cases he : i = k
    · subst he; rw [hx] at hx'; rw [hy] at hy'; cases hx'; cases hy'; exact hlt
    · exact h.2 i (by omega) x' y' hx' hy'

set_option maxHeartbeats 1000000 in
theorem wf12 (aoA aoC : Option Addr) (n m cA cC : Nat) (A : List ByteArray) (C : List Nat) (w : World) (hn : n ≤ 1048576) (hm : m ≤ maxLen) (hA : A.length = n) (hC : C.length = m) (hs : ∀ (i : Nat) (x : ByteArray), A[i]? = some x → x.size ≤ maxLen)
    (rA : Row w aoA (strs A)) (rC : Row w aoC (u64s C)) :
    Calls Try.prog 12 #[.slice aoA n cA, .slice aoC m cC] w fun e w' => ∃ b : Bool, e = .returned (.bool b) ∧ (b = true ↔ WF A C) ∧ Drw w w' := by
  by_cases hnm : n = m
  · subst hnm
    go_enter Try.func12, Try.ntmps12
    go_wp2
    go_loopw [5] (fun i wr => ∃ k d : Nat, k ≤ n ∧ i = .int .i64 k ∧ Hid (WFto A C k) ∧ wr = w.drewN d) (fun i _ => n - (intOf i).toNat)
    case atStart => exact ⟨0, 0, Nat.zero_le _, rfl, WFto.zero _ _, rfl⟩
    case round =>
      obtain ⟨k, d, hk, rfl, H, rfl⟩ := hrel
      by_cases hlt : k < n
      · obtain ⟨z, hz⟩ : ∃ z, C[k]? = some z := ⟨C[k]'(by omega), List.getElem?_eq_getElem _⟩
        obtain ⟨bC, oC, rfl, gC⟩ := rC k _ (u64s_at hz)
        by_cases hz0 : z = 0
        · subst hz0
          have gC' : w.cell? ⟨bC, oC + k, none⟩ = some (.int .u64 0) := gC
          have HN : Hid (¬ WF A C) := fun h => h.2.1 k (by omega) 0 hz rfl
          clear gC hz
          go_wp2
          go_ret
          exact ⟨false, rfl, by simp [HN.out], (Drw.refl w).drewN d⟩
        have hzb : ((z : Int) == 0) = false := beq_eq_false_iff_ne.2 (by omega)
        cases k with
        | zero =>
          have HW : Hid (WFto A C 1) := WFto.first hz hz0
          have hg0 : decide ((0 : Int) < ((0 : Nat) : Int)) = false := by simp
          have gC' : w.cell? ⟨bC, oC, none⟩ = some (.int .u64 (z : Int)) := gC
          clear hz gC
          go_wp2
          go_quiet (fail)
          go_wp2
          go_roundw
          case rel => exact ⟨1, _, by omega, rfl, HW, rfl⟩
          case measure => simp [intOf]; omega
        | succ k =>
          obtain ⟨x, hx⟩ : ∃ x, A[k]? = some x := ⟨A[k]'(by omega), List.getElem?_eq_getElem _⟩
          obtain ⟨y, hy⟩ : ∃ y, A[k + 1]? = some y := ⟨A[k + 1]'(by omega), List.getElem?_eq_getElem _⟩
          obtain ⟨bA, oA, rfl, gx⟩ := rA k _ (strs_at hx)
          have gy := rA.at (strs_at hy)
          have hxs := hs k x hx
          have hys := hs (k + 1) y hy
          by_cases hc : cmpB x y < 0
          · have HW : Hid (WFto A C (k + 2)) := WFto.succ H hz hz0 hx hy hc
            clear hz hx hy
            go_wp2
            go_quiet ((go_at_call 35; exact quiet_drw (cmp35 _ _ _ hxs hys)))
            go_wp2
            go_roundw
            case rel => exact ⟨k + 2, _, by omega, by go_num, HW, rfl⟩
            case measure => simp [intOf]; omega
          · have HN : Hid (¬ WF A C) := fun h => hc (h.2.2 k (by omega) x y hx hy)
            clear hz hx hy
            go_wp2
            go_quiet ((go_at_call 35; exact quiet_drw (cmp35 _ _ _ hxs hys)))
            go_wp2
            go_ret
            exact ⟨false, rfl, by simp [HN.out], ((Drw.refl w).drewN d).drewN _⟩
      · have hkn : k = A.length := by omega
        have HW : Hid (WF A C) := ⟨by omega, by rw [← hkn]; exact H⟩
        clear H hkn
        go_wp2
        go_ret
        exact ⟨true, rfl, by simp [HW.out], (Drw.refl w).drewN d⟩
  · have hb : ((n : Int) != (m : Int)) = true := by rw [bne_iff_ne]; omega
    have HN : Hid (¬ WF A C) := fun h => hnm (by have := h.1; omega)
    go_enter Try.func12, Try.ntmps12
    go_wp2
    go_ret
    exact ⟨false, rfl, by simp [HN.out], Drw.refl w⟩

set_option maxHeartbeats 1000000 in
theorem add34 (t : Nat) (ao : Option Addr) (n c : Nat) (A : List ByteArray) (w : World) (ht : t ≤ 1048576) (hn : n ≤ 1048576) (hA : A.length = n) (hs : ∀ (i : Nat) (x : ByteArray), A[i]? = some x → x.size ≤ maxLen) (rA : Row w ao (strs A)) :
    Calls Try.prog 34 #[.int .i64 (t : Int), .slice ao n c] w fun e w' => ∃ r : Nat, e = .returned (.int .i64 (r : Int)) ∧ r ≤ 1048577 ∧ w = w' := by
  unfold maxLen at hs
  go_enter Try.func34, Try.ntmps34
  go_wp2
  go_loop [0, 5] (fun s i => ∃ k t : Nat, k ≤ n ∧ t ≤ 1048576 ∧ s = .int .i64 (t : Int) ∧ i = .int .i64 k) (fun _ i => n - (intOf i).toNat)
  case atStart => exact ⟨0, t, Nat.zero_le _, ht, rfl, rfl⟩
  case round =>
    obtain ⟨k, t, hk, ht, rfl, rfl⟩ := hrel
    by_cases hlt : k < n
    · obtain ⟨x, hx⟩ : ∃ x, A[k]? = some x := ⟨A[k]'(by omega), List.getElem?_eq_getElem _⟩
      obtain ⟨b, o, rfl, g⟩ := rA k _ (strs_at hx)
      have hxs := hs k x hx
      clear hx hs
      by_cases hbig : 1048576 - (t : Int) < (x.size : Int)
      · go_wp2
        go_ret
        exact ⟨1048577, rfl, by omega, rfl⟩
      · go_wp2
        go_round
        case rel => exact ⟨k + 1, t + x.size, by omega, by omega, by go_num, by go_num⟩
        case measure => simp [intOf]; omega
    · go_wp2
      go_ret
      exact ⟨t, rfl, by omega, rfl⟩

set_option maxHeartbeats 1000000 in
theorem big11 (aoA aoC boA boC : Option Addr) (nA nC mA mC cA cC dA dC : Nat) (A B : List ByteArray) (w : World) (h1 : nA ≤ 4096) (h2 : nC ≤ 4096) (h3 : mA ≤ 4096) (h4 : mC ≤ 4096) (hA : A.length = nA) (hB : B.length = mA)
    (hsA : ∀ (i : Nat) (x : ByteArray), A[i]? = some x → x.size ≤ maxLen) (hsB : ∀ (i : Nat) (x : ByteArray), B[i]? = some x → x.size ≤ maxLen) (rA : Row w aoA (strs A)) (rB : Row w boA (strs B)) :
    Calls Try.prog 11 #[.slice aoA nA cA, .slice aoC nC cC, .slice boA mA dA, .slice boC mC dC] w fun e w' => ∃ b : Bool, e = .returned (.bool b) ∧ w = w' := by
  go_enter Try.func11, Try.ntmps11
  go_wp2_with fail
  rw [show (16 * (nA : Int) + 8 * (nC : Int) + 16 * (mA : Int) + 8 * (mC : Int)) = ((16 * nA + 8 * nC + 16 * mA + 8 * mC : Nat) : Int) by omega]
  refine (add34 _ aoA nA cA A _ (by omega) (by omega) hA hsA rA).mono ?_
  rintro e w' ⟨r, rfl, hr, rfl⟩
  by_cases hb : r ≤ 1048576
  · go_wp2_with fail
    refine (add34 _ boA mA dA B _ (by omega) (by omega) hB hsB rB).mono ?_
    rintro e w' ⟨r2, rfl, hr2, rfl⟩
    go_wp2
    go_ret
    exact ⟨_, rfl, rfl⟩
  · go_wp2
    go_ret
    exact ⟨_, rfl, rfl⟩

set_option maxHeartbeats 1000000 in
theorem big11_no (aoA aoC boA boC : Option Addr) (nA nC mA mC cA cC dA dC : Nat) (w : World) (hnA : nA ≤ maxLen) (hnC : nC ≤ maxLen) (hmA : mA ≤ maxLen) (hmC : mC ≤ maxLen) (h : ¬ (nA ≤ 4096 ∧ nC ≤ 4096 ∧ mA ≤ 4096 ∧ mC ≤ 4096)) :
    Calls Try.prog 11 #[.slice aoA nA cA, .slice aoC nC cC, .slice boA mA dA, .slice boC mC dC] w fun e w' => e = .returned (.bool true) ∧ w = w' := by
  unfold maxLen at hnA hnC hmA hmC
  by_cases h1 : nA ≤ 4096
  · by_cases h2 : nC ≤ 4096
    · by_cases h3 : mA ≤ 4096
      · have h4 : ¬ mC ≤ 4096 := fun h4 => h ⟨h1, h2, h3, h4⟩
        clear h
        go_enter Try.func11, Try.ntmps11
        go_wp2_with fail
        go_ret
        exact ⟨rfl, rfl⟩
      · clear h
        go_enter Try.func11, Try.ntmps11
        go_wp2_with fail
        go_ret
        exact ⟨rfl, rfl⟩
    · clear h
      go_enter Try.func11, Try.ntmps11
      go_wp2_with fail
      go_ret
      exact ⟨rfl, rfl⟩
  · clear h
    go_enter Try.func11, Try.ntmps11
    go_wp2_with fail
    go_ret
    exact ⟨rfl, rfl⟩

set_option maxHeartbeats 400000 in
theorem clone13 (ao : Option Addr) (n c : Nat) (vs : List ByteArray) (w : World) (hn : n ≤ 4096) (hz : vs.length = n) (hr : Row w ao (strs vs)) :
    Calls Try.prog 13 #[.slice ao n c] w fun e w' => ∃ ao' c', e = .returned (.slice ao' n c') ∧ Row w' ao' (strs vs) ∧ Below w.heap.size w w' := by
  have hnil := fun (w : World) (a : Option Addr) (n c n' c' : Nat) => Lib.run_eql_slice_nil (P := Try.prog) w 22 9 a n c n' c' Try.underlying22
  obtain ⟨i0, hi, hz0, hz1, hz2⟩ := info_parts Try.info9
  have hlen : (strs vs).length = n := by simp [strs, hz]
  cases ao with
  | none =>
    have hv := hr.none_nil
    rw [hv] at hlen ⊢
    simp only [List.length_nil] at hlen
    subst hlen
    clear hr hv hz
    go_enter Try.func13, Try.ntmps13
    go_wp2
    go_ret
    exact ⟨none, 0, rfl, Row.nil _ _, Below.refl _ _⟩
  | some x =>
    go_enter Try.func13, Try.ntmps13
    go_wp2_with (at_make; refine wpList_make_full _ rfl _ _ 22 rfl w.heap.size 9 i0 (.string ByteArray.empty) 1 Try.underlying22 hi hz0 hz1 _ _ _ _ n rfl rfl rfl rfl ?b2 ?b3 (Nat.le_refl _) ?_)
    case b2 => rw [hz2]; omega
    case b3 => unfold maxLen; omega
    intro w0 hown0 hgrow0
    go_wp2
    go_loopw [4] (fun i wr => ∃ (k : Nat) (xs : List Value), k ≤ n ∧ i = .int .i64 k ∧ wr.ownsRow w.heap.size 9 1 (.slice (some ⟨w.heap.size, 0, none⟩) n n) n xs ∧ xs.take k = (strs vs).take k ∧ Below w.heap.size w wr) (fun i _ => n - (intOf i).toNat)
    case atStart => exact ⟨0, _, Nat.zero_le _, rfl, hown0, by simp, (Below.refl _ _).grown hgrow0 (Nat.le_refl _) (fun k h => by cases h)⟩
    case round =>
      obtain ⟨k, xs, hk, rfl, hown, htk, hb⟩ := hrel
      by_cases hlt : k < n
      · obtain ⟨z, hz⟩ : ∃ z : ByteArray, (strs vs)[k]? = some (.string z) := ⟨vs[k]'(by omega), by simp [strs, show k < vs.length by omega]⟩
        obtain ⟨b, off, hx, hc0⟩ := hr k _ hz
        cases hx
        have hc : wr.cell? ⟨b, off + k, none⟩ = some (.string z) := cell_later hb hc0
        clear hc0
        have hf := hown.frozenAt k
        have hl := hown.1
        have hd := hown.cellAt k (by omega)
        rw [List.getElem?_eq_getElem (by omega)] at hd
        have HT : Hid (xs.take k = (strs vs).take k) := htk
        have HZ : Hid ((strs vs)[k]? = some (.string z)) := hz
        clear htk hz
        go_wp2
        go_roundw
        case rel => exact ⟨k + 1, _, by omega, by go_num, (hown.stored k _).1, take_set_step HT.out (by omega) HZ.out, hb.setCell (by simp) _⟩
        case measure => simp [intOf]; omega
      · have : k = n := by omega
        subst this
        go_wp2
        go_ret
        refine ⟨_, _, rfl, ?_, hb⟩
        rw [List.take_of_length_le (by have := hown.1; omega), List.take_of_length_le (by omega)] at htk
        rw [← htk]
        exact Row.of_owns' hown

set_option maxHeartbeats 400000 in
theorem clone14 (ao : Option Addr) (n c : Nat) (vs : List Nat) (w : World) (hn : n ≤ 4096) (hz : vs.length = n) (hr : Row w ao (u64s vs)) :
    Calls Try.prog 14 #[.slice ao n c] w fun e w' => ∃ ao' c', e = .returned (.slice ao' n c') ∧ Row w' ao' (u64s vs) ∧ Below w.heap.size w w' := by
  have hnil := fun (w : World) (a : Option Addr) (n c n' c' : Nat) => Lib.run_eql_slice_nil (P := Try.prog) w 23 34 a n c n' c' Try.underlying23
  obtain ⟨i0, hi, hz0, hz1, hz2⟩ := info_parts Try.info34
  have hlen : (u64s vs).length = n := by simp [u64s, hz]
  cases ao with
  | none =>
    have hv := hr.none_nil
    rw [hv] at hlen ⊢
    simp only [List.length_nil] at hlen
    subst hlen
    clear hr hv hz
    go_enter Try.func14, Try.ntmps14
    go_wp2
    go_ret
    exact ⟨none, 0, rfl, Row.nil _ _, Below.refl _ _⟩
  | some x =>
    go_enter Try.func14, Try.ntmps14
    go_wp2_with (at_make; refine wpList_make_full _ rfl _ _ 23 rfl w.heap.size 34 i0 (.int .u64 0) 1 Try.underlying23 hi hz0 hz1 _ _ _ _ n rfl rfl rfl rfl ?b2 ?b3 (Nat.le_refl _) ?_)
    case b2 => rw [hz2]; omega
    case b3 => unfold maxLen; omega
    intro w0 hown0 hgrow0
    go_wp2
    go_loopw [4] (fun i wr => ∃ (k : Nat) (xs : List Value), k ≤ n ∧ i = .int .i64 k ∧ wr.ownsRow w.heap.size 34 1 (.slice (some ⟨w.heap.size, 0, none⟩) n n) n xs ∧ xs.take k = (u64s vs).take k ∧ Below w.heap.size w wr) (fun i _ => n - (intOf i).toNat)
    case atStart => exact ⟨0, _, Nat.zero_le _, rfl, hown0, by simp, (Below.refl _ _).grown hgrow0 (Nat.le_refl _) (fun k h => by cases h)⟩
    case round =>
      obtain ⟨k, xs, hk, rfl, hown, htk, hb⟩ := hrel
      by_cases hlt : k < n
      · obtain ⟨z, hz⟩ : ∃ z : Nat, (u64s vs)[k]? = some (.int .u64 (z : Int)) := ⟨vs[k]'(by omega), by simp [u64s, show k < vs.length by omega]⟩
        obtain ⟨b, off, hx, hc0⟩ := hr k _ hz
        cases hx
        have hc : wr.cell? ⟨b, off + k, none⟩ = some (.int .u64 (z : Int)) := cell_later hb hc0
        clear hc0
        have hf := hown.frozenAt k
        have hl := hown.1
        have hd := hown.cellAt k (by omega)
        rw [List.getElem?_eq_getElem (by omega)] at hd
        have HT : Hid (xs.take k = (u64s vs).take k) := htk
        have HZ : Hid ((u64s vs)[k]? = some (.int .u64 (z : Int))) := hz
        clear htk hz
        go_wp2
        go_roundw
        case rel => exact ⟨k + 1, _, by omega, by go_num, (hown.stored k _).1, take_set_step HT.out (by omega) HZ.out, hb.setCell (by simp) _⟩
        case measure => simp [intOf]; omega
      · have : k = n := by omega
        subst this
        go_wp2
        go_ret
        refine ⟨_, _, rfl, ?_, hb⟩
        rw [List.take_of_length_le (by have := hown.1; omega), List.take_of_length_le (by omega)] at htk
        rw [← htk]
        exact Row.of_owns' hown

end Go.Proofs.Qxb6602088a
