/-
  Seat b6602088a. readCanonicalJSONString (32) and hexLowerValue (39) by contracts, at what appendActor writes.
-/
import Derived.Test.Qxb6602088aEnc
namespace Go.Proofs.Qxb6602088a
open Go.RowKit

theorem escAll_append (a b : List UInt8) : escAll (a ++ b) = escAll a ++ escAll b := by simp [escAll]

theorem enc_seg (s : ByteArray) (j t x : Nat) (hj : j < s.size) (h : (esc s[j].toNat)[t]? = some x) : (enc s)[1 + (escAll (s.data.toList.take j)).length + t]? = some x := by
  have e : s.data.toList = s.data.toList.take j ++ (s[j] :: s.data.toList.drop (j + 1)) := by
    have hj' : j < s.data.toList.length := by simpa using hj
    conv => lhs; rw [← List.take_append_drop j s.data.toList, List.drop_eq_getElem_cons hj']
    rfl
  have e2 : escAll s.data.toList = escAll (s.data.toList.take j) ++ (esc s[j].toNat ++ escAll (s.data.toList.drop (j + 1))) := by
    conv => lhs; rw [e]
    rw [escAll_append]
    simp [escAll]
  rw [enc, e2]
  have ht : t < (esc s[j].toNat).length := (List.getElem?_eq_some_iff.1 h).1
  rw [show 1 + (escAll (s.data.toList.take j)).length + t = (escAll (s.data.toList.take j)).length + t + 1 by omega]
  simp only [List.cons_append, List.getElem?_cons_succ, List.append_assoc]
  rw [List.getElem?_append_right (by omega), Nat.add_sub_cancel_left, List.getElem?_append_left ht]
  exact h

theorem enc_fits (s : ByteArray) (j : Nat) (hj : j < s.size) : 1 + (escAll (s.data.toList.take j)).length + (esc s[j].toNat).length + 1 ≤ (enc s).length := by
  have hlen : (escAll (s.data.toList.take (j + 1))).length ≤ (escAll s.data.toList).length := by
    conv => rhs; rw [← List.take_append_drop (j + 1) s.data.toList, escAll_append]
    simp
  rw [escAll_snoc s j hj] at hlen
  rw [enc_length]
  simp at hlen
  omega

theorem ret2_int {k : IntKind} {a b : Int} {x : Value} (h : a = b) : Ending.returned (.tuple #[.int k a, x]) = .returned (.tuple #[.int k b, x]) := by rw [h]

set_option maxHeartbeats 400000 in
theorem hex39 (q : Nat) (w : World) (hq : q < 16) :
    Calls Try.prog 39 #[.int .u8 (hexd q : Nat)] w fun e w' => e = .returned (.tuple #[.int .u8 q, .bool true]) ∧ w = w' := by
  by_cases h : q < 10
  · rw [hexd, if_pos h]
    go_enter Try.func39, Try.ntmps39
    go_wp2
    go_ret2
    exact ⟨ret2_int (by omega), rfl⟩
  · rw [hexd, if_neg h]
    go_enter Try.func39, Try.ntmps39
    go_wp2
    go_ret2
    exact ⟨ret2_int (by omega), rfl⟩

def nats (l : List UInt8) : List Nat := l.map (·.toNat)

theorem nats_snoc (s : ByteArray) (j : Nat) (h : j < s.size) : nats (s.data.toList.take (j + 1)) = nats (s.data.toList.take j) ++ [s[j].toNat] := by
  rw [take_snoc s j h]; simp [nats]

/-- What one round of readCanonicalJSONString's loop does. -/
theorem round32 {B : Nat} {w wr w1 : World} {v' : Value} {j p t : Nat} {s : ByteArray} {u : Value} (hj : j < s.size) (hp : Hid (p = 1 + (escAll (s.data.toList.take j)).length)) (ht : t = (esc s[j].toNat).length) (hu : u = .int .u8 (s[j].toNat : Int))
    (hb : Below B w wr) (hown : w1.ownsRow B 5 1 v' (j + 1) (u8s (nats (s.data.toList.take j)) ++ [u])) (hb1 : Below B wr w1) :
    Hid (p + t = 1 + (escAll (s.data.toList.take (j + 1))).length) ∧ w1.ownsRow B 5 1 v' (j + 1) (u8s (nats (s.data.toList.take (j + 1)))) ∧ Below B w w1 := by
  refine ⟨?_, ?_, hb.trans hb1⟩
  · show p + t = _
    rw [hp.out, ht, escAll_snoc s j hj]
    simp
    omega
  · rw [nats_snoc s j hj, u8s_append]
    subst hu
    exact hown

theorem or16 (q r : Nat) (hq : q ≤ 1) (hr : r < 16) : bits BinOp.or IntKind.u8 ((q : Int) * 16) (r : Int) = ((q * 16 + r : Nat) : Int) := by
  have h := u8_or_nat (q * 16) r (by omega) (by omega)
  rw [show ((q * 16 : Nat) : Int) = (q : Int) * 16 by omega] at h
  rw [h]
  have e := Nat.two_pow_add_eq_or_of_lt (i := 4) (b := r) (by omega) q
  rw [show 2 ^ 4 * q = q * 16 by omega] at e
  rw [e]

set_option maxRecDepth 100000 in
set_option maxHeartbeats 2000000 in
theorem read32 (s : ByteArray) (ao : Option Addr) (m c : Nat) (w : World) (hs : s.size ≤ 1048576) (hm : Hid ((enc s).length = m + 1)) (hm2 : m ≤ 6291457) (hm1 : 1 ≤ m) (hr : Row w ao (u8s (enc s))) :
    Calls Try.prog 32 #[.slice ao (m + 1) c] w fun e w' => ∃ ao' c', e = .returned (.tuple #[.slice ao' s.size c', .bool true]) ∧ Row w' ao' (u8s (nats s.data.toList)) ∧ Below w.heap.size w w' := by
  obtain ⟨i0, hi, hz0, hz1, hz2⟩ := info_parts Try.info5
  obtain ⟨b, off, rfl, g0'⟩ := hr 0 _ (u8s_at (enc_first s))
  have g0 : w.cell? ⟨b, off, none⟩ = some (.int .u8 34) := g0'
  have g1 : w.cell? ⟨b, off + m, none⟩ = some (.int .u8 34) := by
    have h := enc_last s
    rw [hm.out] at h
    exact hr.at (u8s_at h)
  clear g0'
  go_enter Try.func32, Try.ntmps32
  go_wp2_with (at_make; refine wpList_make_own _ rfl _ _ 40 rfl w.heap.size 5 i0 (.int .u8 0) 1 Try.underlying40 hi hz0 hz1 _ _ _ m rfl rfl (by omega) ?b2 ?b3 (Nat.le_refl _) ?_)
  case b2 => rw [hz2]; omega
  case b3 => unfold maxLen; omega
  intro w0 hown0 hgrow0
  go_wp2_with fail
  go_loopw [5, 6] (fun v i wr => ∃ (j p : Nat), j ≤ s.size ∧ Hid (p = 1 + (escAll (s.data.toList.take j)).length) ∧ i = .int .i64 p ∧ p ≤ m ∧ wr.ownsRow w.heap.size 5 1 v j (u8s (nats (s.data.toList.take j))) ∧ Below w.heap.size w wr) (fun _ i _ => m - (intOf i).toNat)
  case atStart => exact ⟨0, 1, Nat.zero_le _, rfl, rfl, hm1, hown0, (Below.refl _ _).grown hgrow0 (Nat.le_refl _) (fun k h => by cases h)⟩
  case round =>
    clear hown0 hgrow0 g0 g1
    obtain ⟨j, p, hj, hp, rfl, hpm, hown, hb⟩ := hrel
    have hBr : w.heap.size ≤ wr.heap.size := hb.size
    by_cases hlt : j < s.size
    · have gt : ∀ t x : Nat, (esc s[j].toNat)[t]? = some x → wr.cell? ⟨b, off + (p + t), none⟩ = some (.int .u8 (x : Int)) := by
        intro t x hx
        have h1 := enc_seg s j t x hlt hx
        rw [← hp.out] at h1
        exact cell_later hb (hr.at (u8s_at h1))
      by_cases h1 : (s[j].toNat : Int) = 34
      · have he : esc s[j].toNat = [92, 34] := by rw [show s[j].toNat = 34 by omega]; rfl
        have g0 := gt 0 92 (by rw [he]; rfl)
        have g1 := gt 1 34 (by rw [he]; rfl)
        have hf := enc_fits s j hlt
        rw [he, ← hp.out, hm.out] at hf
        have hf2 : p + 2 ≤ m := by simp at hf; omega
        rw [Nat.add_zero] at g0
        clear hf gt
        go_wp2_with (at_builtin; refine app40 _ rfl _ _ rfl w.heap.size _ j _ rfl hown hBr _ 1 rfl rfl (by simp [Value.oneCell']) (by omega) ?_; intro v' w1 hown' hb')
        have R := round32 (t := 2) hlt hp (by rw [he]; rfl) (by simp [h1]) hb hown' hb'
        go_roundw
        case rel => exact ⟨j + 1, p + 2, by omega, R.1, by go_num, by omega, R.2.1, R.2.2⟩
        case measure => simp [intOf]; omega
      by_cases h2 : (s[j].toNat : Int) = 92
      · have he : esc s[j].toNat = [92, 92] := by rw [show s[j].toNat = 92 by omega]; rfl
        have g0 := gt 0 92 (by rw [he]; rfl)
        have g1 := gt 1 92 (by rw [he]; rfl)
        have hf := enc_fits s j hlt
        rw [he, ← hp.out, hm.out] at hf
        have hf2 : p + 2 ≤ m := by simp at hf; omega
        rw [Nat.add_zero] at g0
        clear hf gt
        go_wp2_with (at_builtin; refine app40 _ rfl _ _ rfl w.heap.size _ j _ rfl hown hBr _ 1 rfl rfl (by simp [Value.oneCell']) (by omega) ?_; intro v' w1 hown' hb')
        have R := round32 (t := 2) hlt hp (by rw [he]; rfl) (by simp [h2]) hb hown' hb'
        go_roundw
        case rel => exact ⟨j + 1, p + 2, by omega, R.1, by go_num, by omega, R.2.1, R.2.2⟩
        case measure => simp [intOf]; omega
      by_cases h3 : (s[j].toNat : Int) = 8
      · have he : esc s[j].toNat = [92, 98] := by rw [show s[j].toNat = 8 by omega]; rfl
        have g0 := gt 0 92 (by rw [he]; rfl)
        have g1 := gt 1 98 (by rw [he]; rfl)
        have hf := enc_fits s j hlt
        rw [he, ← hp.out, hm.out] at hf
        have hf2 : p + 2 ≤ m := by simp at hf; omega
        rw [Nat.add_zero] at g0
        clear hf gt
        go_wp2_with (at_builtin; refine app40 _ rfl _ _ rfl w.heap.size _ j _ rfl hown hBr _ 1 rfl rfl (by simp [Value.oneCell']) (by omega) ?_; intro v' w1 hown' hb')
        have R := round32 (t := 2) hlt hp (by rw [he]; rfl) (by simp [h3]) hb hown' hb'
        go_roundw
        case rel => exact ⟨j + 1, p + 2, by omega, R.1, by go_num, by omega, R.2.1, R.2.2⟩
        case measure => simp [intOf]; omega
      by_cases h4 : (s[j].toNat : Int) = 12
      · have he : esc s[j].toNat = [92, 102] := by rw [show s[j].toNat = 12 by omega]; rfl
        have g0 := gt 0 92 (by rw [he]; rfl)
        have g1 := gt 1 102 (by rw [he]; rfl)
        have hf := enc_fits s j hlt
        rw [he, ← hp.out, hm.out] at hf
        have hf2 : p + 2 ≤ m := by simp at hf; omega
        rw [Nat.add_zero] at g0
        clear hf gt
        go_wp2_with (at_builtin; refine app40 _ rfl _ _ rfl w.heap.size _ j _ rfl hown hBr _ 1 rfl rfl (by simp [Value.oneCell']) (by omega) ?_; intro v' w1 hown' hb')
        have R := round32 (t := 2) hlt hp (by rw [he]; rfl) (by simp [h4]) hb hown' hb'
        go_roundw
        case rel => exact ⟨j + 1, p + 2, by omega, R.1, by go_num, by omega, R.2.1, R.2.2⟩
        case measure => simp [intOf]; omega
      by_cases h5 : (s[j].toNat : Int) = 10
      · have he : esc s[j].toNat = [92, 110] := by rw [show s[j].toNat = 10 by omega]; rfl
        have g0 := gt 0 92 (by rw [he]; rfl)
        have g1 := gt 1 110 (by rw [he]; rfl)
        have hf := enc_fits s j hlt
        rw [he, ← hp.out, hm.out] at hf
        have hf2 : p + 2 ≤ m := by simp at hf; omega
        rw [Nat.add_zero] at g0
        clear hf gt
        go_wp2_with (at_builtin; refine app40 _ rfl _ _ rfl w.heap.size _ j _ rfl hown hBr _ 1 rfl rfl (by simp [Value.oneCell']) (by omega) ?_; intro v' w1 hown' hb')
        have R := round32 (t := 2) hlt hp (by rw [he]; rfl) (by simp [h5]) hb hown' hb'
        go_roundw
        case rel => exact ⟨j + 1, p + 2, by omega, R.1, by go_num, by omega, R.2.1, R.2.2⟩
        case measure => simp [intOf]; omega
      by_cases h6 : (s[j].toNat : Int) = 13
      · have he : esc s[j].toNat = [92, 114] := by rw [show s[j].toNat = 13 by omega]; rfl
        have g0 := gt 0 92 (by rw [he]; rfl)
        have g1 := gt 1 114 (by rw [he]; rfl)
        have hf := enc_fits s j hlt
        rw [he, ← hp.out, hm.out] at hf
        have hf2 : p + 2 ≤ m := by simp at hf; omega
        rw [Nat.add_zero] at g0
        clear hf gt
        go_wp2_with (at_builtin; refine app40 _ rfl _ _ rfl w.heap.size _ j _ rfl hown hBr _ 1 rfl rfl (by simp [Value.oneCell']) (by omega) ?_; intro v' w1 hown' hb')
        have R := round32 (t := 2) hlt hp (by rw [he]; rfl) (by simp [h6]) hb hown' hb'
        go_roundw
        case rel => exact ⟨j + 1, p + 2, by omega, R.1, by go_num, by omega, R.2.1, R.2.2⟩
        case measure => simp [intOf]; omega
      by_cases h7 : (s[j].toNat : Int) = 9
      · have he : esc s[j].toNat = [92, 116] := by rw [show s[j].toNat = 9 by omega]; rfl
        have g0 := gt 0 92 (by rw [he]; rfl)
        have g1 := gt 1 116 (by rw [he]; rfl)
        have hf := enc_fits s j hlt
        rw [he, ← hp.out, hm.out] at hf
        have hf2 : p + 2 ≤ m := by simp at hf; omega
        rw [Nat.add_zero] at g0
        clear hf gt
        go_wp2_with (at_builtin; refine app40 _ rfl _ _ rfl w.heap.size _ j _ rfl hown hBr _ 1 rfl rfl (by simp [Value.oneCell']) (by omega) ?_; intro v' w1 hown' hb')
        have R := round32 (t := 2) hlt hp (by rw [he]; rfl) (by simp [h7]) hb hown' hb'
        go_roundw
        case rel => exact ⟨j + 1, p + 2, by omega, R.1, by go_num, by omega, R.2.1, R.2.2⟩
        case measure => simp [intOf]; omega
      by_cases h8 : (s[j].toNat : Int) < 32
      · have he : esc s[j].toNat = [92, 117, 48, 48, hexd (s[j].toNat / 16), hexd (s[j].toNat % 16)] := by rw [esc, if_neg (by omega), if_neg (by omega), if_neg (by omega), if_neg (by omega), if_neg (by omega), if_neg (by omega), if_pos (by omega)]
        obtain ⟨q, hq⟩ : ∃ q : Nat, q = s[j].toNat / 16 := ⟨_, rfl⟩
        obtain ⟨r, hr'⟩ : ∃ r : Nat, r = s[j].toNat % 16 := ⟨_, rfl⟩
        have Hc : Hid (s[j].toNat = q * 16 + r) := by show _ = _; omega
        have hq2 : q ≤ 1 := by omega
        have hr2 : r < 16 := by omega
        have hne : q * 16 + r ≠ 8 ∧ q * 16 + r ≠ 9 ∧ q * 16 + r ≠ 10 ∧ q * 16 + r ≠ 12 ∧ q * 16 + r ≠ 13 := by omega
        obtain ⟨z, ho, hz⟩ : ∃ z : Nat, bits BinOp.or IntKind.u8 ((q : Int) * 16) (r : Int) = (z : Int) ∧ z = q * 16 + r := ⟨_, or16 q r hq2 hr2, rfl⟩
        have hz32 : (z : Int) < 32 := by omega
        have e8 : ((z : Int) == 8) = false := beq_eq_false_iff_ne.2 (by omega)
        have e9 : ((z : Int) == 9) = false := beq_eq_false_iff_ne.2 (by omega)
        have e10 : ((z : Int) == 10) = false := beq_eq_false_iff_ne.2 (by omega)
        have e12 : ((z : Int) == 12) = false := beq_eq_false_iff_ne.2 (by omega)
        have e13 : ((z : Int) == 13) = false := beq_eq_false_iff_ne.2 (by omega)
        have HZ : Hid (z = s[j].toNat) := by show _ = _; rw [Hc.out, hz]
        clear hne hz Hc
        rw [← hq, ← hr'] at he
        have g0 := gt 0 92 (by rw [he]; rfl)
        have g1 := gt 1 117 (by rw [he]; rfl)
        have g2 := gt 2 48 (by rw [he]; rfl)
        have g3 := gt 3 48 (by rw [he]; rfl)
        have g4 := gt 4 (hexd q) (by rw [he]; rfl)
        have g5 := gt 5 (hexd r) (by rw [he]; rfl)
        have hf := enc_fits s j hlt
        rw [he, ← hp.out, hm.out] at hf
        have hf2 : p + 6 ≤ m := by simp at hf; omega
        have HE : Hid (6 = (esc s[j].toNat).length) := by show 6 = _; rw [he]; rfl
        rw [Nat.add_zero] at g0
        clear hf gt he hq hr' h1 h2 h3 h4 h5 h6 h7 h8
        go_wp2_with fail
        refine (hex39 q _ (by omega)).mono ?_
        rintro e w' ⟨rfl, rfl⟩
        go_wp2_with fail
        refine (hex39 r _ (by omega)).mono ?_
        rintro e w' ⟨rfl, rfl⟩
        go_wp2_with (at_builtin; refine app40 _ rfl _ _ rfl w.heap.size _ j _ rfl hown hBr _ 1 rfl rfl (by simp [Value.oneCell']) (by omega) ?_; intro v' w1 hown' hb')
        have R := round32 (t := 6) hlt hp HE.out (by rw [HZ.out]) hb hown' hb'
        go_roundw
        case rel => exact ⟨j + 1, p + 6, by omega, R.1, by go_num, by omega, R.2.1, R.2.2⟩
        case measure => simp [intOf]; omega
      · have he : esc s[j].toNat = [s[j].toNat] := by rw [esc, if_neg (by omega), if_neg (by omega), if_neg (by omega), if_neg (by omega), if_neg (by omega), if_neg (by omega), if_neg (by omega)]
        have g0 := gt 0 s[j].toNat (by rw [he]; rfl)
        have hf := enc_fits s j hlt
        rw [he, ← hp.out, hm.out] at hf
        have hf2 : p + 1 ≤ m := by simp at hf; omega
        rw [Nat.add_zero] at g0
        clear hf gt
        go_wp2_with (at_builtin; refine app40 _ rfl _ _ rfl w.heap.size _ j _ rfl hown hBr _ 1 rfl rfl (by simp [Value.oneCell']) (by omega) ?_; intro v' w1 hown' hb')
        have R := round32 (t := 1) hlt hp (by rw [he]; rfl) rfl hb hown' hb'
        go_roundw
        case rel => exact ⟨j + 1, p + 1, by omega, R.1, by go_num, by omega, R.2.1, R.2.2⟩
        case measure => simp [intOf]; omega
    · have hjs : j = s.size := by omega
      have htk : s.data.toList.take j = s.data.toList := List.take_of_length_le (by simp; omega)
      have hpm2 : p = m := by
        have h := hp.out
        have h2 := hm.out
        rw [enc_length] at h2
        rw [htk] at h
        omega
      subst hpm2
      rw [htk] at hown
      clear htk hp
      go_wp2_with fail
      go_ret2
      obtain ⟨ao', c', rfl, hR⟩ := Row.of_owns hown
      exact ⟨ao', c', by rw [← hjs]; rfl, hR, hb⟩
theorem owns_cap {w : World} {base : Nat} {e : TypeId} {size : Nat} {ao : Option Addr} {n c : Nat} {xs : List Value} (h : w.ownsRow base e size (.slice ao n c) n xs) : n ≤ c ∧ c ≤ maxLen := by
  obtain ⟨_, h2 | ⟨g, cap, cur, hv, hb, hg, hn, hm, hs, ht⟩⟩ := h
  · obtain ⟨h3, h4⟩ := h2
    cases h3
    exact ⟨Nat.le_refl _, Nat.zero_le _⟩
  · cases hv
    exact ⟨hn, hm⟩

set_option maxHeartbeats 400000 in
/-- append31 once more, with what is known of the capacity. -/
theorem append31c (B : Nat) (ao : Option Addr) (n c : Nat) (xs : List Value) (s : ByteArray) (w : World) (hB : B ≤ w.heap.size) (hown : w.ownsRow B 5 1 (.slice ao n c) n xs) (hn : n ≤ 1048576) (hs : s.size ≤ 1048576) :
    Calls Try.prog 31 #[.slice ao n c, .string s] w fun e w' => ∃ ao' c', e = .returned (.slice ao' (n + (enc s).length) c') ∧ Row w' ao' (xs ++ u8s (enc s)) ∧ Below B w w' ∧ n + (enc s).length ≤ c' ∧ c' ≤ maxLen := by
  go_enter Try.func31, Try.ntmps31
  go_wp2_with (go_at_call 38; refine (append38 B ao n c xs s _ hB hown hn hs).mono ?_; rintro e w' ⟨v, rfl, hown', hb⟩)
  go_ret
  obtain ⟨ao', c', rfl, hr⟩ := Row.of_owns hown'
  have hc := owns_cap hown'
  rw [← enc_length] at hc
  exact ⟨ao', c', by rw [enc_length]; rfl, hr, hb, hc.1, hc.2⟩

end Go.Proofs.Qxb6602088a
