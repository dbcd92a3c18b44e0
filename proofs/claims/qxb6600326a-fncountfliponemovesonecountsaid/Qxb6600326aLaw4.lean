/-
  Seat b6600326a. FnCountFlipOneMovesOneCount (4): the walk of the law, out of its callees' contracts.
-/
import Derived.Test.Qxb6600326aCount
namespace Go.Proofs.Qxb6600326a
open Go.RowKit

theorem cnt_set (b : Bool) : ∀ (l : List Bool) (i : Nat) (x y : Bool), l[i]? = some x → cnt b (l.set i y) + (if x = b then 1 else 0) = cnt b l + (if y = b then 1 else 0)
  | [], i, x, y, h => by simp at h
  | a :: l, 0, x, y, h => by
    simp at h
    subst h
    simp only [List.set_cons_zero, cnt, List.filter_cons]
    cases a <;> cases y <;> cases b <;> simp
  | a :: l, i + 1, x, y, h => by
    simp at h
    have ih := cnt_set b l i x y h
    simp only [List.set_cons_succ, cnt, List.filter_cons] at ih ⊢
    split
    · simp only [List.length_cons]; omega
    · omega

theorem bools_set (l : List Bool) (i : Nat) (y : Bool) : bools (l.set i y) = (bools l).set i (.bool y) := by simp [bools]

set_option maxHeartbeats 1000000 in
set_option maxRecDepth 100000 in
theorem walk4 (ao : Option Addr) (n c : Nat) (fl : List Bool) (i : Int) (w : World) (hn : n ≤ maxLen) (hl : fl.length = n) (hr : Row w ao (bools fl)) :
    Calls Try.prog 4 #[.slice ao n c, .int .i64 i] w fun e w' => e = .returned (.bool true) ∧ Below w.heap.size w w' := by
  obtain ⟨i0, hi, hz0, hz1, hz2⟩ := info_parts Try.info4
  by_cases h1 : n ≤ 1048576
  case neg =>
    have hd : decide (n ≤ 1048576) = false := decide_eq_false h1
    go_enter Try.func4, Try.ntmps4
    go_wp2_with fail
    refine (zz8 ao n c i _ hn).mono ?_
    rintro e w' ⟨rfl, rfl⟩
    go_wp2_with fail
    go_ret
    exact ⟨rfl, Below.refl _ _⟩
  have hd : decide (n ≤ 1048576) = true := decide_eq_true h1
  by_cases h2 : n ≤ 65536
  case neg =>
    go_enter Try.func4, Try.ntmps4
    go_wp2_with fail
    refine (zz8 ao n c i _ hn).mono ?_
    rintro e w' ⟨rfl, rfl⟩
    go_wp2_with fail
    go_ret
    exact ⟨rfl, Below.refl _ _⟩
  by_cases h3 : i < 0
  · go_enter Try.func4, Try.ntmps4
    go_wp2_with fail
    refine (zz8 ao n c i _ hn).mono ?_
    rintro e w' ⟨rfl, rfl⟩
    go_wp2_with fail
    go_ret
    exact ⟨rfl, Below.refl _ _⟩
  by_cases h4 : (n : Int) ≤ i
  · go_enter Try.func4, Try.ntmps4
    go_wp2_with fail
    refine (zz8 ao n c i _ hn).mono ?_
    rintro e w' ⟨rfl, rfl⟩
    go_wp2_with fail
    go_ret
    exact ⟨rfl, Below.refl _ _⟩
  obtain ⟨k, rfl⟩ := Int.eq_ofNat_of_zero_le (by omega : 0 ≤ i)
  have hkn : k < n := by omega
  clear h3 h4
  go_enter Try.func4, Try.ntmps4
  go_wp2_with fail
  refine (zz8 ao n c _ _ hn).mono ?_
  rintro e w' ⟨rfl, rfl⟩
  go_wp2_with (at_make; refine wpList_make_full _ rfl _ _ 22 rfl w.heap.size 4 i0 (.bool false) 1 Try.underlying22 hi hz0 hz1 _ _ _ _ n rfl rfl rfl rfl ?b2 ?b3 (Nat.le_refl _) ?_)
  case b2 => rw [hz2]; omega
  case b3 => unfold maxLen; omega
  intro w0 hown0 hgrow0
  go_wp2
  go_loopw [6] (fun i wr => ∃ (k : Nat) (xs : List Value), k ≤ n ∧ i = .int .i64 k ∧ wr.ownsRow w.heap.size 4 1 (.slice (some ⟨w.heap.size, 0, none⟩) n n) n xs ∧ xs.take k = (bools fl).take k ∧ Below w.heap.size w wr) (fun i _ => n - (intOf i).toNat)
  case atStart => exact ⟨0, _, Nat.zero_le _, rfl, hown0, by simp, (Below.refl _ _).grown hgrow0 (Nat.le_refl _) (fun k h => by cases h)⟩
  case round =>
    clear hown0 hgrow0
    obtain ⟨j, xs, hj, rfl, hown, htk, hb⟩ := hrel
    by_cases hlt : j < n
    · obtain ⟨z, hz⟩ : ∃ z, fl[j]? = some z := ⟨fl[j]'(by omega), List.getElem?_eq_getElem _⟩
      obtain ⟨b1, o1, hx, gz⟩ := (hr.later hb) j _ (bools_at hz)
      subst hx
      have hf := hown.frozenAt j
      have hlx := hown.1
      have hdd := hown.cellAt j (by omega)
      rw [List.getElem?_eq_getElem (by omega)] at hdd
      have HT : Hid ((xs.set j (.bool z)).take (j + 1) = (bools fl).take (j + 1)) := take_set_step htk (by omega) (bools_at hz)
      clear htk hz
      go_wp2
      go_roundw
      case rel => exact ⟨j + 1, _, by omega, by go_num, (hown.stored j _).1, HT, hb.setCell (by simp) _⟩
      case measure => simp [intOf]; omega
    · obtain ⟨x, hx⟩ : ∃ x, fl[k]? = some x := ⟨fl[k]'(by omega), List.getElem?_eq_getElem _⟩
      have hxs : xs = bools fl := by
        rw [List.take_of_length_le (by have := hown.1; omega), List.take_of_length_le (by simp [bools]; omega)] at htk
        exact htk
      subst hxs
      obtain ⟨b1, o1, hx0, gz⟩ := (hr.later hb) k _ (bools_at hx)
      have gk : wr.cell? ⟨w.heap.size, k, none⟩ = some (.bool x) := by rw [hown.cellAt k (by omega)]; exact bools_at hx
      have fk := hown.frozenAt k
      have c0 := cnt_set false fl k x (!x) hx
      have c1 := cnt_set true fl k x (!x) hx
      have hown' := (hown.stored k (.bool (!x))).1
      rw [← bools_set] at hown'
      have hb' := hb.setCell (p := ⟨w.heap.size, k, none⟩) (by simp) (.bool (!x))
      have hr1 := hr.later hb'
      have hlg : (fl.set k (!x)).length = n := by simp [hl]
      have HX : Hid ((bools fl)[k]? = some (.bool x)) := bools_at hx
      generalize fl.set k (!x) = gl at *
      subst hx0
      clear htk hx hown hb gz
      go_wp2_with fail
      refine (list6 _ n c fl _ h1 hl hr1).mono ?_
      rintro e w1 ⟨q1, rfl, L1, b1'⟩
      have B1 := below_step hb' b1'
      go_wp2_with fail
      refine (count7 q1 fl _ (by omega) L1).mono ?_
      rintro e w1' ⟨rfl, rfl⟩
      go_wp2_with fail
      refine (list6 _ n n gl _ h1 hlg ((Row.of_owns' hown').later b1')).mono ?_
      rintro e w2 ⟨q2, rfl, L2, b2'⟩
      have B2 := below_step B1 b2'
      go_wp2_with fail
      refine (count7 q2 gl _ (by omega) L2).mono ?_
      rintro e w2' ⟨rfl, rfl⟩
      have gf : w2.cell? ⟨b1, o1 + k, none⟩ = some (.bool x) := cell_later b2' (cell_later b1' (hr1.at HX.out))
      have m0 := cnt_le false fl
      have m1 := cnt_le true fl
      have m2 := cnt_le false gl
      have m3 := cnt_le true gl
      generalize cnt false fl = p at *
      generalize cnt true fl = q at *
      generalize cnt false gl = r at *
      generalize cnt true gl = s at *
      clear L1 L2 hr1 hown' hr
      cases x with
      | true =>
        simp at c0 c1
        have t1 : ((r : Int) == (p : Int) + 1) = true := by rw [beq_iff_eq]; omega
        have t2 : ((s : Int) == (q : Int) - 1) = true := by rw [beq_iff_eq]; omega
        clear c0 c1
        go_wp2_with fail
        go_ret
        exact ⟨rfl, B2⟩
      | false =>
        simp at c0 c1
        have t1 : ((r : Int) == (p : Int) - 1) = true := by rw [beq_iff_eq]; omega
        have t2 : ((s : Int) == (q : Int) + 1) = true := by rw [beq_iff_eq]; omega
        clear c0 c1
        go_wp2_with fail
        go_ret
        exact ⟨rfl, B2⟩
end Go.Proofs.Qxb6600326a
