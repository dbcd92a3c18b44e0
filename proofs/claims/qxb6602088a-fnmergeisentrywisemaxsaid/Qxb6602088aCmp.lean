/-
  Seat b6602088a. strings.Compare (36, 40) and cmpStr (35) by contracts.
-/
import Derived.Test.Qxb6602088aBase
import Derived.Test.Qxb6602088aOrd
namespace Go.Proofs.Qxb6602088a
open Go.RowKit

set_option maxHeartbeats 400000 in
theorem cmp40 (a b : ByteArray) (w : World) :
    Calls Try.prog 40 #[.string a, .string b] w fun e w' => e = .returned (.int .i64 (cmpB a b)) ∧ w = w' := by
  go_enter Try.func40, Try.ntmps40
  go_wp2
  rw [run_callFunc_extern Try.func41 (by kernel_rfl) (by kernel_rfl) (by kernel_rfl) (e := Extern.BytealgCompare.compare) (by kernel_rfl), Lib.run_compareString]
  simp only [Result.andThen]
  rw [Oper.upon_value]
  go_wp2
  go_ret
  exact ⟨rfl, rfl⟩

set_option maxHeartbeats 400000 in
theorem cmp36 (a b : ByteArray) (w : World) :
    Calls Try.prog 36 #[.string a, .string b] w fun e w' => e = .returned (.int .i64 (cmpB a b)) ∧ w = w' := by
  go_enter Try.func36, Try.ntmps36
  go_wp2_with (go_at_call 40; refine (cmp40 _ _ _).mono ?_; rintro e w' ⟨rfl, rfl⟩)
  go_ret
  exact ⟨rfl, rfl⟩

/-- The world has at most been drawn from. -/
def Drw (w w' : World) : Prop := ∃ d, w' = w.drewN d
theorem Drw.refl (w : World) : Drw w w := ⟨0, rfl⟩
theorem Drw.drewN {w w' : World} (h : Drw w w') (n : Nat) : Drw w (w'.drewN n) := by
  obtain ⟨d, rfl⟩ := h
  exact ⟨d + n, World.drewN_drewN ..⟩
theorem Drw.trans {w w' w'' : World} (h : Drw w w') (k : Drw w' w'') : Drw w w'' := by
  obtain ⟨d, rfl⟩ := k
  exact h.drewN d

theorem cb_drop {a b : List UInt8} {k : Nat} (ha : k < a.length) (hb : k < b.length) :
    Lib.compareBytes (a.drop k) (b.drop k) = if a[k] < b[k] then -1 else if b[k] < a[k] then 1 else Lib.compareBytes (a.drop (k + 1)) (b.drop (k + 1)) := by
  rw [List.drop_eq_getElem_cons ha, List.drop_eq_getElem_cons hb, Lib.compareBytes]

theorem cmp_lt {x y : ByteArray} {k : Nat} (hx : k < x.size) (hy : k < y.size) (H : Hid (cmpB x y = Lib.compareBytes (x.data.toList.drop k) (y.data.toList.drop k))) (h : (x[k].toNat : Int) < (y[k].toNat : Int)) : cmpB x y = -1 := by
  have hl : x[k] < y[k] := by rw [UInt8.lt_iff_toNat_lt]; omega
  rw [H.out, cb_drop (by simpa using hx) (by simpa using hy)]
  exact if_pos hl
theorem cmp_gt {x y : ByteArray} {k : Nat} (hx : k < x.size) (hy : k < y.size) (H : Hid (cmpB x y = Lib.compareBytes (x.data.toList.drop k) (y.data.toList.drop k))) (h : (y[k].toNat : Int) < (x[k].toNat : Int)) : cmpB x y = 1 := by
  have hl : y[k] < x[k] := by rw [UInt8.lt_iff_toNat_lt]; omega
  have hn : ¬ x[k] < y[k] := by rw [UInt8.lt_iff_toNat_lt]; omega
  rw [H.out, cb_drop (by simpa using hx) (by simpa using hy)]
  exact (if_neg hn).trans (if_pos hl)
theorem cmp_same {x y : ByteArray} {k : Nat} (hx : k < x.size) (hy : k < y.size) (H : Hid (cmpB x y = Lib.compareBytes (x.data.toList.drop k) (y.data.toList.drop k))) (h1 : (x[k].toNat : Int) ≤ (y[k].toNat : Int)) (h2 : (y[k].toNat : Int) ≤ (x[k].toNat : Int)) :
    Hid (cmpB x y = Lib.compareBytes (x.data.toList.drop (k + 1)) (y.data.toList.drop (k + 1))) := by
  have hl : ¬ y[k] < x[k] := by rw [UInt8.lt_iff_toNat_lt]; omega
  have hn : ¬ x[k] < y[k] := by rw [UInt8.lt_iff_toNat_lt]; omega
  show _ = _
  rw [H.out, cb_drop (by simpa using hx) (by simpa using hy)]
  exact (if_neg hn).trans (if_neg hl)
theorem cmp_end {x y : ByteArray} {k : Nat} (H : Hid (cmpB x y = Lib.compareBytes (x.data.toList.drop k) (y.data.toList.drop k))) (hk : k = x.size ∨ k = y.size) (hx : k ≤ x.size) (hy : k ≤ y.size) :
    cmpB x y = if x.size < y.size then -1 else if y.size < x.size then 1 else 0 := by
  rw [H.out]
  have lx : x.data.toList.length = x.size := by simp
  have ly : y.data.toList.length = y.size := by simp
  by_cases h1 : x.size < y.size
  · have : k = x.size := by omega
    rw [if_pos h1, List.drop_of_length_le (by omega), List.drop_eq_getElem_cons (by omega)]
    rfl
  · rw [if_neg h1]
    by_cases h2 : y.size < x.size
    · have : k = y.size := by omega
      rw [if_pos h2, List.drop_of_length_le (l := y.data.toList) (by omega), List.drop_eq_getElem_cons (by omega)]
      rfl
    · rw [if_neg h2, List.drop_of_length_le (by omega), List.drop_of_length_le (by omega)]
      rfl

set_option maxHeartbeats 1000000 in
theorem cmp35 (x y : ByteArray) (w : World) (hx : x.size ≤ maxLen) (hy : y.size ≤ maxLen) :
    Calls Try.prog 35 #[.string x, .string y] w fun e w' => e = .returned (.int .i64 (cmpB x y)) ∧ Drw w w' := by
  unfold maxLen at hx hy
  by_cases hyx : y.size < x.size
  · go_enter Try.func35, Try.ntmps35
    go_wp2
    go_loopw [6] (fun i wr => ∃ k d : Nat, k ≤ y.size ∧ i = .int .i64 k ∧ Hid (cmpB x y = Lib.compareBytes (x.data.toList.drop k) (y.data.toList.drop k)) ∧ wr = w.drewN d) (fun i _ => y.size - (intOf i).toNat)
    case atStart => exact ⟨0, 0, Nat.zero_le _, rfl, rfl, rfl⟩
    case round =>
      obtain ⟨k, d, hk, rfl, H, rfl⟩ := hrel
      by_cases hlt : k < y.size
      · have hlx : k < x.size := by omega
        by_cases h1 : (x[k].toNat : Int) < (y[k].toNat : Int)
        · go_wp2
          go_quiet (fail)
          go_wp2
          go_ret
          exact ⟨by rw [cmp_lt hlx hlt H h1]; rfl, ((Drw.refl w).drewN d).drewN _⟩
        by_cases h2 : (y[k].toNat : Int) < (x[k].toNat : Int)
        · go_wp2
          go_quiet (fail)
          go_wp2
          go_quiet (fail)
          go_wp2
          go_ret
          exact ⟨by rw [cmp_gt hlx hlt H h2]; rfl, (((Drw.refl w).drewN d).drewN _).drewN _⟩
        · go_wp2
          go_quiet (fail)
          go_wp2
          go_quiet (fail)
          go_wp2
          go_roundw
          case rel => exact ⟨k + 1, _, by omega, by go_num, cmp_same hlx hlt H h2 h1, rfl⟩
          case measure => simp [intOf]; omega
      · have he := cmp_end H (.inr (by omega)) (by omega) hk
        rw [if_neg (by omega), if_pos hyx] at he
        have HE : Hid (cmpB x y = 1) := he
        clear he
        go_wp2
        go_ret
        exact ⟨by rw [HE.out]; rfl, (Drw.refl w).drewN d⟩
  · go_enter Try.func35, Try.ntmps35
    go_wp2
    go_loopw [6] (fun i wr => ∃ k d : Nat, k ≤ x.size ∧ i = .int .i64 k ∧ Hid (cmpB x y = Lib.compareBytes (x.data.toList.drop k) (y.data.toList.drop k)) ∧ wr = w.drewN d) (fun i _ => x.size - (intOf i).toNat)
    case atStart => exact ⟨0, 0, Nat.zero_le _, rfl, rfl, rfl⟩
    case round =>
      obtain ⟨k, d, hk, rfl, H, rfl⟩ := hrel
      by_cases hlx : k < x.size
      · have hlt : k < y.size := by omega
        by_cases h1 : (x[k].toNat : Int) < (y[k].toNat : Int)
        · go_wp2
          go_quiet (fail)
          go_wp2
          go_ret
          exact ⟨by rw [cmp_lt hlx hlt H h1]; rfl, ((Drw.refl w).drewN d).drewN _⟩
        by_cases h2 : (y[k].toNat : Int) < (x[k].toNat : Int)
        · go_wp2
          go_quiet (fail)
          go_wp2
          go_quiet (fail)
          go_wp2
          go_ret
          exact ⟨by rw [cmp_gt hlx hlt H h2]; rfl, (((Drw.refl w).drewN d).drewN _).drewN _⟩
        · go_wp2
          go_quiet (fail)
          go_wp2
          go_quiet (fail)
          go_wp2
          go_roundw
          case rel => exact ⟨k + 1, _, by omega, by go_num, cmp_same hlx hlt H h2 h1, rfl⟩
          case measure => simp [intOf]; omega
      · have he := cmp_end H (.inl (by omega)) hk (by omega)
        by_cases hxy : x.size < y.size
        · rw [if_pos hxy] at he
          have HE : Hid (cmpB x y = -1) := he
          clear he
          go_wp2
          go_ret
          exact ⟨by rw [HE.out]; rfl, (Drw.refl w).drewN d⟩
        · rw [if_neg hxy, if_neg hyx] at he
          have HE : Hid (cmpB x y = 0) := he
          clear he
          go_wp2
          go_ret
          exact ⟨by rw [HE.out]; rfl, (Drw.refl w).drewN d⟩
end Go.Proofs.Qxb6602088a
