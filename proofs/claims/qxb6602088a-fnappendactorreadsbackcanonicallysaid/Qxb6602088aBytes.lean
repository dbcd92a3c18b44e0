/-
  Seat b6602088a. The byte functions: cloneBytes (30), appendActor (38), ZZAppendActor (31), the two length guards (29, 33), each by a contract.
-/
import Derived.Test.Qxb6602088aBase
namespace Go.Proofs.Qxb6602088a
open Go.RowKit

def hexd (n : Nat) : Nat := if n < 10 then 48 + n else 87 + n
def esc (c : Nat) : List Nat :=
  if c = 34 ∨ c = 92 then [92, c] else if c = 8 then [92, 98] else if c = 12 then [92, 102] else if c = 10 then [92, 110] else if c = 13 then [92, 114] else if c = 9 then [92, 116]
  else if c < 32 then [92, 117, 48, 48, hexd (c / 16), hexd (c % 16)] else [c]
def escAll (l : List UInt8) : List Nat := l.flatMap fun c => esc c.toNat
def u8s (l : List Nat) : List Value := l.map fun n : Nat => Value.int .u8 (n : Int)

theorem esc_len (c : Nat) : 1 ≤ (esc c).length ∧ (esc c).length ≤ 6 := by
  unfold esc
  repeat (split; · simp)
  simp

theorem take_snoc (s : ByteArray) (k : Nat) (h : k < s.size) : s.data.toList.take (k + 1) = s.data.toList.take k ++ [s[k]] := by
  rw [List.take_succ_eq_append_getElem (by simpa using h)]; rfl

theorem escAll_snoc (s : ByteArray) (k : Nat) (h : k < s.size) : escAll (s.data.toList.take (k + 1)) = escAll (s.data.toList.take k) ++ esc s[k].toNat := by
  rw [take_snoc s k h]; simp [escAll]

/-- 'b = append(b, x, y, ..)' onto a row of bytes of the call's own: the new elements lie in the block that was just laid. -/
theorem app40 (wr : World) {ops : Array Oper} {rest : List Oper} {o : Oper} {a : Act} {Q : Exit → Act → World → Prop} (hgd : o.guard = none) (s x : Operand)
    (ho : o.op = .call { callee := .builtin .append, args := #[s, x], argTypes := #[40, 40] }) (B : Nat) (v : Value) (n : Nat) (xs : List Value) (hs : a.eval s = v) (hown : wr.ownsRow B 5 1 v n xs) (hB : B ≤ wr.heap.size)
    (news : List Value) (m : Nat) (hx : a.eval x = .slice (some ⟨wr.heap.size, 0, none⟩) m m) (hm : news.length = m) (h1 : ∀ u ∈ news, u.oneCell' = true) (hn : n + m ≤ 140737488355328)
    (h : ∀ v' w', w'.ownsRow B 5 1 v' (n + m) (xs ++ news) → Below B wr w' → wpList Try.prog ops Q rest (a.put o.dst v') w') : wpList Try.prog ops Q (o :: rest) a (wr.alloc (.cells news.toArray 5)) := by
  obtain ⟨i0, hi, hz0, hz1, hz2⟩ := info_parts Try.info5
  refine wpList_append_own _ hgd s x 40 ho B 5 i0 (.int .u8 0) 1 1 Try.underlying40 hi hz0 hz1 hz2 rfl (by decide) v n xs hs (hown.alloc _) ⟨wr.heap.size, 0, none⟩ m m news hx (by omega) (cells_of_new _ _ _) h1 (by unfold maxLen; omega) (by omega) (by simp; omega) ?_
  intro v' w1 hown' hgrow _
  exact h v' w1 hown' (((Below.refl _ _).alloc hB _).grown hgrow (by simp; omega) (owns_bounds hown))

theorem step40 (wr : World) {ops : Array Oper} {o : Oper} {a : Act} {K : Act → World → Prop} {Q : Exit → Act → World → Prop} {E : Prop} (hgd : o.guard = none) (s x : Operand)
    (ho : o.op = .call { callee := .builtin .append, args := #[s, x], argTypes := #[40, 40] }) (B : Nat) (v : Value) (n : Nat) (xs : List Value) (hs : a.eval s = v) (hown : wr.ownsRow B 5 1 v n xs) (hB : B ≤ wr.heap.size)
    (news : List Value) (m : Nat) (hx : a.eval x = .slice (some ⟨wr.heap.size, 0, none⟩) m m) (hm : news.length = m) (h1 : ∀ u ∈ news, u.oneCell' = true) (hn : n + m ≤ 140737488355328)
    (h : ∀ v' w', w'.ownsRow B 5 1 v' (n + m) (xs ++ news) → Below B wr w' → K (a.put o.dst v') w') :
    if Region.wanted o (yielded ops a.tmps) = true then Oper.wp Try.prog o a (wr.alloc (.cells news.toArray 5)).drew K Q else E := by
  obtain ⟨i0, hi, hz0, hz1, hz2⟩ := info_parts Try.info5
  refine step_append_own hgd s x 40 ho B 5 i0 (.int .u8 0) 1 1 Try.underlying40 hi hz0 hz1 hz2 rfl (by decide) v n xs hs (hown.alloc _).drew ⟨wr.heap.size, 0, none⟩ m m news hx (by omega) (cells_of_new _ _ _) h1 (by unfold maxLen; omega) (by omega) (by show B ≤ (wr.alloc _).heap.size; simp; omega) ?_
  intro v' w1 hown' hgrow
  exact h v' w1 hown' ((((Below.refl _ _).alloc hB _).drew).grown hgrow (by show B ≤ (wr.alloc _).heap.size; simp; omega) (owns_bounds hown))

theorem and15 (c : Nat) (h : c < 256) : bits BinOp.and IntKind.u8 (c : Int) 15 = ((c % 16 : Nat) : Int) := by
  have := u8_and_nat c 15 h (by decide)
  rw [show ((15 : Nat) : Int) = 15 from rfl] at this
  rw [this, show (15 : Nat) = 2 ^ 4 - 1 from rfl, Nat.and_two_pow_sub_one_eq_mod]

theorem hexs_at (q : Nat) (h : q < 16) : (ByteArray.mk #[48, 49, 50, 51, 52, 53, 54, 55, 56, 57, 97, 98, 99, 100, 101, 102])[q].toNat = hexd q := by
  match q, h with
  | 0, _ => rfl
  | 1, _ => rfl
  | 2, _ => rfl
  | 3, _ => rfl
  | 4, _ => rfl
  | 5, _ => rfl
  | 6, _ => rfl
  | 7, _ => rfl
  | 8, _ => rfl
  | 9, _ => rfl
  | 10, _ => rfl
  | 11, _ => rfl
  | 12, _ => rfl
  | 13, _ => rfl
  | 14, _ => rfl
  | 15, _ => rfl
  | n + 16, h => omega

/-- What one round of appendActor's loop does to what it owns. -/
theorem round38 {B : Nat} {w wr w1 : World} {v' : Value} {m k j : Nat} {xs ys : List Value} {s : ByteArray} {news : List Value} (hk : k < s.size)
    (hy : Hid (ys = xs ++ u8s (34 :: escAll (s.data.toList.take k)))) (hb : Below B w wr) (hnews : news = u8s (esc s[k].toNat)) 
    (hown : w1.ownsRow B 5 1 v' (m + j) (ys ++ news)) (hb1 : Below B wr w1) :
    Hid (ys ++ news = xs ++ u8s (34 :: escAll (s.data.toList.take (k + 1)))) ∧ w1.ownsRow B 5 1 v' (m + j) (ys ++ news) ∧ Below B w w1 := by
  refine ⟨?_, hown, hb.trans hb1⟩
  have hy' := hy.out
  subst hy' hnews
  show _ = _
  rw [escAll_snoc s k hk]
  simp [u8s]

set_option maxHeartbeats 1000000 in
theorem append38 (B : Nat) (ao : Option Addr) (n c : Nat) (xs : List Value) (s : ByteArray) (w : World) (hB : B ≤ w.heap.size) (hown : w.ownsRow B 5 1 (.slice ao n c) n xs) (hn : n ≤ 1048576) (hs : s.size ≤ 1048576) :
    Calls Try.prog 38 #[.slice ao n c, .string s] w fun e w' => ∃ v, e = .returned v ∧ w'.ownsRow B 5 1 v (n + ((escAll s.data.toList).length + 2)) (xs ++ u8s (34 :: escAll s.data.toList ++ [34])) ∧ Below B w w' := by
  go_enter Try.func38, Try.ntmps38
  go_wp2_with (at_builtin; refine app40 _ rfl _ _ rfl B _ n xs rfl hown hB _ 1 rfl rfl (by simp [Value.oneCell']) (by omega) ?_; intro v' w1 hown' hb')
  go_loopw [0, 5] (fun v i wr => ∃ (k m : Nat) (ys : List Value), k ≤ s.size ∧ i = .int .i64 k ∧ m ≤ n + 1 + 6 * k ∧ Hid (ys = xs ++ u8s (34 :: escAll (s.data.toList.take k))) ∧ wr.ownsRow B 5 1 v m ys ∧ Below B w wr) (fun _ i _ => s.size - (intOf i).toNat)
  case atStart => exact ⟨0, n + 1, _, Nat.zero_le _, rfl, by omega, rfl, by simpa [u8s, escAll] using hown', hb'⟩
  case round =>
    have hown0 := hown
    clear hown hb' hown'
    obtain ⟨k, m, ys, hk, rfl, hm, hy, hown, hb⟩ := hrel
    have hBr : B ≤ wr.heap.size := Nat.le_trans hB hb.size
    by_cases hlt : k < s.size
    · by_cases h1 : (s[k].toNat : Int) = 34
      · go_wp2_with (at_builtin; refine app40 _ rfl _ _ rfl B _ m ys rfl hown hBr _ 2 rfl rfl (by simp [Value.oneCell']) (by omega) ?_; intro v' w1 hown' hb')
        have R := round38 hlt hy hb (by simp [esc, u8s, show s[k].toNat = 34 by omega]) hown' hb'
        go_roundw
        case rel => exact ⟨k + 1, m + 2, _, by omega, by go_num, by omega, R.1, R.2.1, R.2.2⟩
        case measure => simp [intOf]; omega
      by_cases h2 : (s[k].toNat : Int) = 92
      · go_wp2_with (at_builtin; refine app40 _ rfl _ _ rfl B _ m ys rfl hown hBr _ 2 rfl rfl (by simp [Value.oneCell']) (by omega) ?_; intro v' w1 hown' hb')
        have R := round38 hlt hy hb (by simp [esc, u8s, show s[k].toNat = 92 by omega]) hown' hb'
        go_roundw
        case rel => exact ⟨k + 1, m + 2, _, by omega, by go_num, by omega, R.1, R.2.1, R.2.2⟩
        case measure => simp [intOf]; omega
      by_cases h3 : (s[k].toNat : Int) = 8
      · go_wp2_with (at_builtin; refine app40 _ rfl _ _ rfl B _ m ys rfl hown hBr _ 2 rfl rfl (by simp [Value.oneCell']) (by omega) ?_; intro v' w1 hown' hb')
        have R := round38 hlt hy hb (by simp [esc, u8s, show s[k].toNat = 8 by omega]) hown' hb'
        go_roundw
        case rel => exact ⟨k + 1, m + 2, _, by omega, by go_num, by omega, R.1, R.2.1, R.2.2⟩
        case measure => simp [intOf]; omega
      by_cases h4 : (s[k].toNat : Int) = 12
      · go_wp2_with (at_builtin; refine app40 _ rfl _ _ rfl B _ m ys rfl hown hBr _ 2 rfl rfl (by simp [Value.oneCell']) (by omega) ?_; intro v' w1 hown' hb')
        have R := round38 hlt hy hb (by simp [esc, u8s, show s[k].toNat = 12 by omega]) hown' hb'
        go_roundw
        case rel => exact ⟨k + 1, m + 2, _, by omega, by go_num, by omega, R.1, R.2.1, R.2.2⟩
        case measure => simp [intOf]; omega
      by_cases h5 : (s[k].toNat : Int) = 10
      · go_wp2_with (at_builtin; refine app40 _ rfl _ _ rfl B _ m ys rfl hown hBr _ 2 rfl rfl (by simp [Value.oneCell']) (by omega) ?_; intro v' w1 hown' hb')
        have R := round38 hlt hy hb (by simp [esc, u8s, show s[k].toNat = 10 by omega]) hown' hb'
        go_roundw
        case rel => exact ⟨k + 1, m + 2, _, by omega, by go_num, by omega, R.1, R.2.1, R.2.2⟩
        case measure => simp [intOf]; omega
      by_cases h6 : (s[k].toNat : Int) = 13
      · go_wp2_with (at_builtin; refine app40 _ rfl _ _ rfl B _ m ys rfl hown hBr _ 2 rfl rfl (by simp [Value.oneCell']) (by omega) ?_; intro v' w1 hown' hb')
        have R := round38 hlt hy hb (by simp [esc, u8s, show s[k].toNat = 13 by omega]) hown' hb'
        go_roundw
        case rel => exact ⟨k + 1, m + 2, _, by omega, by go_num, by omega, R.1, R.2.1, R.2.2⟩
        case measure => simp [intOf]; omega
      by_cases h7 : (s[k].toNat : Int) = 9
      · go_wp2_with (at_builtin; refine app40 _ rfl _ _ rfl B _ m ys rfl hown hBr _ 2 rfl rfl (by simp [Value.oneCell']) (by omega) ?_; intro v' w1 hown' hb')
        have R := round38 hlt hy hb (by simp [esc, u8s, show s[k].toNat = 9 by omega]) hown' hb'
        go_roundw
        case rel => exact ⟨k + 1, m + 2, _, by omega, by go_num, by omega, R.1, R.2.1, R.2.2⟩
        case measure => simp [intOf]; omega
      by_cases h8 : (s[k].toNat : Int) < 32
      · go_wp2_with fail
        obtain ⟨q, hq⟩ : ∃ q : Nat, (s[k].toNat : Int) / 16 = (q : Int) := ⟨s[k].toNat / 16, by omega⟩
        obtain ⟨r, hr⟩ : ∃ r : Nat, bits BinOp.and IntKind.u8 (s[k].toNat : Int) 15 = (r : Int) := ⟨s[k].toNat % 16, and15 _ (by omega)⟩
        have hq2 : (q : Int) < 16 := by omega
        have hr3 : r = s[k].toNat % 16 := by have := and15 s[k].toNat (by omega); omega
        have hr2 : (r : Int) < 16 := by omega
        have HR : Hid (r = s[k].toNat % 16) := hr3
        clear hr3
        go_region_law (refine step40 _ rfl _ _ rfl B _ m ys rfl hown hBr _ 6 rfl rfl (by simp [Value.oneCell']) (by omega) ?_; intro v' w1 hown' hb')
        all_goals
          have R := round38 hlt hy hb (by
            rw [esc, if_neg (by omega), if_neg (by omega), if_neg (by omega), if_neg (by omega), if_neg (by omega), if_neg (by omega), if_pos (by omega), hexs_at q (by omega), hexs_at r (by omega), HR.out, show q = s[k].toNat / 16 by omega]
            rfl) hown' hb'
          go_wp2
          go_roundw
          case rel => exact ⟨k + 1, m + 6, _, by omega, by go_num, by omega, R.1, R.2.1, R.2.2⟩
          case measure => simp [intOf]; omega
      · go_wp2_with (at_builtin; refine app40 _ rfl _ _ rfl B _ m ys rfl hown hBr _ 1 rfl rfl (by simp [Value.oneCell']) (by omega) ?_; intro v' w1 hown' hb')
        have R := round38 hlt hy hb (by rw [esc, if_neg (by omega), if_neg (by omega), if_neg (by omega), if_neg (by omega), if_neg (by omega), if_neg (by omega), if_neg (by omega)]; rfl) hown' hb'
        go_roundw
        case rel => exact ⟨k + 1, m + 1, _, by omega, by go_num, by omega, R.1, R.2.1, R.2.2⟩
        case measure => simp [intOf]; omega
    · have hkk : k = s.size := by omega
      subst hkk
      go_wp2_with (at_builtin; refine app40 _ rfl _ _ rfl B _ m ys rfl hown hBr _ 1 rfl rfl (by simp [Value.oneCell']) (by omega) ?_; intro v' w1 hown' hb')
      go_ret
      have hy' := hy.out
      rw [List.take_of_length_le (by simp)] at hy'
      have e : ys ++ [Value.int .u8 34] = xs ++ u8s (34 :: escAll s.data.toList ++ [34]) := by rw [hy']; simp [u8s]
      rw [e] at hown'
      have hl := hown'.1
      have hl0 := hown0.1
      simp only [List.length_append, u8s, List.length_map, List.length_cons, List.length_nil] at hl
      exact ⟨_, rfl, by rw [show n + ((escAll s.data.toList).length + 2) = m + 1 by omega]; exact hown', hb.trans hb'⟩
set_option maxHeartbeats 400000 in
theorem clone30 (ao : Option Addr) (n c : Nat) (vs : List Nat) (w : World) (hn : n ≤ 1048576) (hz : vs.length = n) (hr : Row w ao (u8s vs)) :
    Calls Try.prog 30 #[.slice ao n c] w fun e w' => ∃ ao' c', e = .returned (.slice ao' n c') ∧ w'.ownsRow w.heap.size 5 1 (.slice ao' n c') n (u8s vs) ∧ Below w.heap.size w w' := by
  have hnil := fun (w : World) (a : Option Addr) (n c n' c' : Nat) => Lib.run_eql_slice_nil (P := Try.prog) w 40 5 a n c n' c' Try.underlying40
  obtain ⟨i0, hi, hz0, hz1, hz2⟩ := info_parts Try.info5
  have hlen : (u8s vs).length = n := by simp [u8s, hz]
  cases ao with
  | none =>
    have hv := hr.none_nil
    rw [hv] at hlen ⊢
    simp only [List.length_nil] at hlen
    subst hlen
    clear hr hv hz
    go_enter Try.func30, Try.ntmps30
    go_wp2
    go_ret
    exact ⟨none, 0, rfl, World.ownsRow_nil _ _ _ _, Below.refl _ _⟩
  | some x =>
    go_enter Try.func30, Try.ntmps30
    go_wp2_with (at_make; refine wpList_make_full _ rfl _ _ 40 rfl w.heap.size 5 i0 (.int .u8 0) 1 Try.underlying40 hi hz0 hz1 _ _ _ _ n rfl rfl rfl rfl ?b2 ?b3 (Nat.le_refl _) ?_)
    case b2 => rw [hz2]; omega
    case b3 => unfold maxLen; omega
    intro w0 hown0 hgrow0
    go_wp2
    go_loopw [4] (fun i wr => ∃ (k : Nat) (xs : List Value), k ≤ n ∧ i = .int .i64 k ∧ wr.ownsRow w.heap.size 5 1 (.slice (some ⟨w.heap.size, 0, none⟩) n n) n xs ∧ xs.take k = (u8s vs).take k ∧ Below w.heap.size w wr) (fun i _ => n - (intOf i).toNat)
    case atStart => exact ⟨0, _, Nat.zero_le _, rfl, hown0, by simp, (Below.refl _ _).grown hgrow0 (Nat.le_refl _) (fun k h => by cases h)⟩
    case round =>
      obtain ⟨k, xs, hk, rfl, hown, htk, hb⟩ := hrel
      by_cases hlt : k < n
      · obtain ⟨z, hz⟩ : ∃ z : Nat, (u8s vs)[k]? = some (.int .u8 z) := ⟨vs[k]'(by omega), by simp [u8s, show k < vs.length by omega]⟩
        obtain ⟨b, off, hx, hc0⟩ := hr k _ hz
        cases hx
        have hc : wr.cell? ⟨b, off + k, none⟩ = some (.int .u8 z) := cell_later hb hc0
        clear hc0
        have hf := hown.frozenAt k
        have hl := hown.1
        have hd := hown.cellAt k (by omega)
        rw [List.getElem?_eq_getElem (by omega)] at hd
        have HT : Hid (xs.take k = (u8s vs).take k) := htk
        have HZ : Hid ((u8s vs)[k]? = some (.int .u8 z)) := hz
        clear htk hz
        go_wp2
        go_roundw
        case rel => exact ⟨k + 1, _, by omega, by go_num, (hown.stored k _).1, take_set_step HT.out (by omega) HZ.out, hb.setCell (by simp) _⟩
        case measure => simp [intOf]; omega
      · have : k = n := by omega
        subst this
        go_wp2
        go_ret
        refine ⟨_, _, rfl, ?_, hb⟩
        rw [List.take_of_length_le (by have := hown.1; omega), List.take_of_length_le (by omega)] at htk
        rw [← htk]
        exact hown

set_option maxHeartbeats 400000 in
theorem zz33 (ao : Option Addr) (n c : Nat) (s : ByteArray) (w : World) (hn : n ≤ maxLen) (hs : s.size ≤ maxLen) :
    Calls Try.prog 33 #[.slice ao n c, .string s] w fun e w' => e = .returned (.bool (decide (n + s.size ≤ 1048576))) ∧ w = w' := by
  unfold maxLen at hn hs
  by_cases h : n + s.size ≤ 1048576
  · rw [decide_eq_true h]
    go_enter Try.func33, Try.ntmps33
    go_wp2
    go_ret
    exact ⟨rfl, rfl⟩
  · rw [decide_eq_false h]
    go_enter Try.func33, Try.ntmps33
    go_wp2
    all_goals
      go_ret
      exact ⟨rfl, rfl⟩

set_option maxHeartbeats 400000 in
theorem zz29 (ao : Option Addr) (n c : Nat) (s : ByteArray) (w : World) (hn : n ≤ maxLen) (hs : s.size ≤ maxLen) :
    Calls Try.prog 29 #[.slice ao n c, .string s] w fun e w' => e = .returned (.bool (decide (n + s.size ≤ 1048576))) ∧ w = w' := by
  unfold maxLen at hn hs
  by_cases h : n + s.size ≤ 1048576
  · rw [decide_eq_true h]
    go_enter Try.func29, Try.ntmps29
    go_wp2
    go_ret
    exact ⟨rfl, rfl⟩
  · rw [decide_eq_false h]
    go_enter Try.func29, Try.ntmps29
    go_wp2
    all_goals
      go_ret
      exact ⟨rfl, rfl⟩

def enc (s : ByteArray) : List Nat := 34 :: escAll s.data.toList ++ [34]
theorem enc_length (s : ByteArray) : (enc s).length = (escAll s.data.toList).length + 2 := by simp [enc]

set_option maxHeartbeats 400000 in
theorem append31 (B : Nat) (ao : Option Addr) (n c : Nat) (xs : List Value) (s : ByteArray) (w : World) (hB : B ≤ w.heap.size) (hown : w.ownsRow B 5 1 (.slice ao n c) n xs) (hn : n ≤ 1048576) (hs : s.size ≤ 1048576) :
    Calls Try.prog 31 #[.slice ao n c, .string s] w fun e w' => ∃ ao' c', e = .returned (.slice ao' (n + (enc s).length) c') ∧ Row w' ao' (xs ++ u8s (enc s)) ∧ Below B w w' := by
  go_enter Try.func31, Try.ntmps31
  go_wp2_with (go_at_call 38; refine (append38 B ao n c xs s _ hB hown hn hs).mono ?_; rintro e w' ⟨v, rfl, hown', hb⟩)
  go_ret
  obtain ⟨ao', c', rfl, hr⟩ := Row.of_owns hown'
  exact ⟨ao', c', by rw [enc_length]; rfl, hr, hb⟩

end Go.Proofs.Qxb6602088a
