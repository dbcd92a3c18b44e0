/-
  Seat b6602088a. The two walks of (*Clock).Merge, told of lists and of cells: what each round does. No Go function is walked here.
-/
import Derived.Test.Qxb6602088aCompare
namespace Go.Proofs.Qxb6602088a
open Go.RowKit

/-! ### The first walk -/
structure MRel (es fs cur : List E) (i j mis : Nat) : Prop where
  len : cur.length = es.length
  rest : cur.drop i = es.drop i
  done : cur.take i ++ (raise (es.drop i) (fs.drop j)).1 = (raise es fs).1
  miss : mis + (raise (es.drop i) (fs.drop j)).2 = (raise es fs).2

section
variable {es fs cur : List E} {i j mis : Nat} {a f : E}

theorem MRel.start : MRel es fs es 0 0 0 := ⟨rfl, rfl, by simp, by simp⟩

theorem MRel.at (h : MRel es fs cur i j mis) (hi : cur[i]? = some a) : es[i]? = some a := by
  have h1 := congrArg (fun l => l[0]?) h.rest
  simpa [hi] using h1.symm

theorem take_snoc' {l : List E} {i : Nat} {a : E} (h : l[i]? = some a) : l.take (i + 1) = l.take i ++ [a] := by
  obtain ⟨hi, rfl⟩ := List.getElem?_eq_some_iff.1 h
  exact List.take_succ_eq_append_getElem hi

theorem drop_next {l m : List E} {i : Nat} (h : l.drop i = m.drop i) : l.drop (i + 1) = m.drop (i + 1) := by
  have := congrArg (List.drop 1) h
  simpa using this

theorem MRel.adv (h : MRel es fs cur i j mis) (hi : cur[i]? = some a) (hj : fs[j]? = some f) (hc : cmpB a.1 f.1 < 0) : MRel es fs cur (i + 1) j mis := by
  have hd := h.done
  have hm := h.miss
  rw [drop_at (h.at hi), drop_at hj, raise_lt hc] at hd hm
  refine ⟨h.len, drop_next h.rest, ?_, ?_⟩
  · rw [take_snoc' hi, drop_at hj]
    simpa using hd
  · rw [drop_at hj]; exact hm

theorem MRel.eq (h : MRel es fs cur i j mis) (hi : cur[i]? = some a) (hj : fs[j]? = some f) (hc : cmpB a.1 f.1 = 0) : MRel es fs (cur.set i (a.1, max a.2 f.2)) (i + 1) (j + 1) mis := by
  have hd := h.done
  have hm := h.miss
  rw [drop_at (h.at hi), drop_at hj, raise_eq hc] at hd hm
  have hl := (List.getElem?_eq_some_iff.1 hi).1
  refine ⟨by simp [h.len], ?_, ?_, hm⟩
  · rw [List.drop_set_of_lt (by omega)]
    exact drop_next h.rest
  · have e : (cur.set i (a.1, max a.2 f.2)).take (i + 1) = cur.take i ++ [(a.1, max a.2 f.2)] := by
      rw [take_snoc' (a := (a.1, max a.2 f.2)) (by simp [hl]), List.take_set_of_le (by omega)]
    rw [e]
    simpa using hd

theorem MRel.gt (h : MRel es fs cur i j mis) (hi : cur[i]? = some a) (hj : fs[j]? = some f) (hc : 0 < cmpB a.1 f.1) : MRel es fs cur i (j + 1) (mis + 1) := by
  have hd := h.done
  have hm := h.miss
  rw [drop_at (h.at hi), drop_at hj, raise_gt hc, ← drop_at (h.at hi)] at hd hm
  exact ⟨h.len, h.rest, hd, by simp only at hm; omega⟩

theorem MRel.out (h : MRel es fs cur i j mis) (hi : cur.length ≤ i) (hj : fs[j]? = some f) : MRel es fs cur i (j + 1) (mis + 1) := by
  have hd := h.done
  have hm := h.miss
  have he : es.drop i = [] := List.drop_of_length_le (by have := h.len; omega)
  rw [he, drop_at hj, raise_nil_left] at hd hm
  refine ⟨h.len, h.rest, ?_, ?_⟩
  · rw [he, raise_nil_left]; exact hd
  · rw [he, raise_nil_left]
    simp only [List.length_cons] at hm ⊢
    omega

theorem MRel.fin (h : MRel es fs cur i j mis) (hj : fs.length ≤ j) : cur = (raise es fs).1 ∧ mis = (raise es fs).2 := by
  have hd := h.done
  have hm := h.miss
  rw [List.drop_of_length_le (l := fs) hj, raise_nil_right, ← h.rest] at hd
  rw [List.drop_of_length_le (l := fs) hj, raise_nil_right] at hm
  rw [List.take_append_drop] at hd
  exact ⟨hd, hm⟩

/-- The count of missing actors never outgrows what has been read. -/
theorem raise_le : ∀ es fs : List E, (raise es fs).2 ≤ fs.length := by
  intro es
  induction es with
  | nil => intro fs; rw [raise_nil_left]; exact Nat.le_refl _
  | cons a es ih =>
    intro fs
    induction fs with
    | nil => rw [raise_nil_right]; exact Nat.le_refl _
    | cons b fs ihb =>
      rcases Int.lt_trichotomy (cmpB a.1 b.1) 0 with h | h | h
      · rw [raise_lt h]; exact ih (b :: fs)
      · rw [raise_eq h]; have := ih fs; simp only [List.length_cons]; omega
      · rw [raise_gt h]; simp only [List.length_cons]; omega
theorem MRel.le (h : MRel es fs cur i j mis) : mis ≤ fs.length := by
  have h1 := h.miss
  have h2 := raise_le es fs
  omega
end

/-! ### The second walk -/
theorem wback_ge : ∀ ra rb : List E, ra.length ≤ (wback ra rb).length := by
  intro ra
  induction ra with
  | nil => intro rb; exact Nat.zero_le _
  | cons a ra ih =>
    intro rb
    induction rb with
    | nil => rw [wback_nil_right]; exact Nat.le_refl _
    | cons b rb ihb =>
      rcases Int.lt_trichotomy (cmpB a.1 b.1) 0 with h | h | h
      · rw [wback_lt h]; simp only [List.length_cons] at ihb ⊢; omega
      · rw [wback_eq h]; have := ih rb; simp only [List.length_cons]; omega
      · rw [wback_gt h]; have := ih (b :: rb); simp only [List.length_cons]; omega

structure WRel (F cur fs : List E) (xs : List Value) (p q r : Nat) : Prop where
  hp : p ≤ cur.length
  hq : q ≤ fs.length
  hr : r = (wback (cur.take p).reverse (fs.take q).reverse).length
  F1 : F.take r = (wback (cur.take p).reverse (fs.take q).reverse).reverse
  x1 : xs.drop (r * 2) = flat (F.drop r)
  x2 : xs.take (p * 2) = flat (cur.take p)
  x3 : xs.length = F.length * 2

section
variable {F cur fs : List E} {xs : List Value} {p q r : Nat} {a f : E}

theorem rev_snoc {l : List E} {p : Nat} {a : E} (h : l[p]? = some a) : (l.take (p + 1)).reverse = a :: (l.take p).reverse := by
  rw [take_snoc' h]; simp

theorem WRel.start (hF : F = (wback cur.reverse fs.reverse).reverse) (hx : xs.take (cur.length * 2) = flat cur) (hl : xs.length = F.length * 2) : WRel F cur fs xs cur.length fs.length F.length := by
  refine ⟨Nat.le_refl _, Nat.le_refl _, ?_, ?_, ?_, ?_, hl⟩
  · rw [List.take_length, List.take_length, hF]; simp
  · rw [List.take_length, List.take_length, List.take_length, hF]
  · rw [List.drop_of_length_le (by omega), List.drop_of_length_le (Nat.le_refl _)]; rfl
  · rw [hx, List.take_length]

theorem WRel.ge (h : WRel F cur fs xs p q r) : p ≤ r := by
  have h1 := wback_ge (cur.take p).reverse (fs.take q).reverse
  have h2 := h.hr
  have h3 := h.hp
  simp only [List.length_reverse, List.length_take] at h1
  omega

/-- One entry more is laid at its place. -/
theorem WRel.step {e : E} {L : List E} {p' q' : Nat} (h : WRel F cur fs xs p q (r + 1)) (hw : wback (cur.take p).reverse (fs.take q).reverse = e :: L) (hL : L = wback (cur.take p').reverse (fs.take q').reverse) (hp : p' ≤ p) (hq : q' ≤ q) (hpr : p' ≤ r) :
    WRel F cur fs ((xs.set (r * 2) (.string e.1)).set (r * 2 + 1) (.int .u64 (e.2 : Int))) p' q' r := by
  have hr := h.hr
  rw [hw, List.length_cons] at hr
  have hF := h.F1
  rw [hw, List.reverse_cons] at hF
  have hlF : r + 1 ≤ F.length := by
    have := congrArg List.length hF
    simp at this
    omega
  have hFr : F[r]? = some e := by
    have := congrArg (fun l => l[r]?) hF
    simp only [List.getElem?_take] at this
    rw [if_pos (by omega)] at this
    rw [this, List.getElem?_append_right (by simp; omega)]
    simp [show r = L.length by omega]
  refine ⟨Nat.le_trans hp h.hp, Nat.le_trans hq h.hq, by rw [← hL]; omega, ?_, ?_, ?_, by simp [h.x3]⟩
  · rw [← hL]
    have := congrArg (List.take r) hF
    rw [List.take_take, Nat.min_eq_left (by omega), List.take_append_of_le_length (by simp; omega), List.take_of_length_le (l := L.reverse) (by simp; omega)] at this
    exact this
  · rw [drop_at hFr, flat_cons]
    have hx := h.x1
    have hl := h.x3
    apply List.ext_getElem?
    intro i
    rw [List.getElem?_drop]
    match i with
    | 0 =>
      rw [List.getElem?_set_ne (by omega)]
      simp [show r * 2 < xs.length by omega]
    | 1 =>
      rw [List.getElem?_set_self (by simp; omega)]
      rfl
    | i + 2 =>
      rw [List.getElem?_set_ne (by omega), List.getElem?_set_ne (by omega), List.getElem?_cons_succ, List.getElem?_cons_succ, ← hx, List.getElem?_drop]
      congr 1
      omega
  · rw [List.take_set_of_le (by omega), List.take_set_of_le (by omega)]
    have h2 := congrArg (List.take (p' * 2)) h.x2
    rw [List.take_take, Nat.min_eq_left (by omega)] at h2
    rw [h2]
    have : cur.take p = cur.take p' ++ (cur.take p).drop p' := by
      have := (List.take_append_drop p' (cur.take p)).symm
      rw [List.take_take, Nat.min_eq_left hp] at this
      exact this
    rw [this, flat_append]
    have hlen : (flat (cur.take p')).length = p' * 2 := by
      rw [flat_length, List.length_take]
      have := h.hp
      omega
    rw [List.take_append_of_le_length (by omega), List.take_of_length_le (by omega)]

theorem WRel.gt (h : WRel F cur fs xs (p + 1) (q + 1) (r + 1)) (ha : cur[p]? = some a) (hf : fs[q]? = some f) (hc : 0 < cmpB a.1 f.1) : WRel F cur fs ((xs.set (r * 2) (.string a.1)).set (r * 2 + 1) (.int .u64 (a.2 : Int))) p (q + 1) r := by
  have hg := h.ge
  refine h.step (e := a) ?_ rfl (by omega) (Nat.le_refl _) (by omega)
  rw [rev_snoc ha]
  conv => lhs; rw [rev_snoc hf, wback_gt hc, ← rev_snoc hf]
theorem WRel.eq (h : WRel F cur fs xs (p + 1) (q + 1) (r + 1)) (ha : cur[p]? = some a) (hf : fs[q]? = some f) (hc : cmpB a.1 f.1 = 0) : WRel F cur fs ((xs.set (r * 2) (.string a.1)).set (r * 2 + 1) (.int .u64 (a.2 : Int))) p q r := by
  have hg := h.ge
  refine h.step (e := a) ?_ rfl (by omega) (by omega) (by omega)
  rw [rev_snoc ha, rev_snoc hf, wback_eq hc]
theorem WRel.lt (h : WRel F cur fs xs (p + 1) (q + 1) (r + 1)) (ha : cur[p]? = some a) (hf : fs[q]? = some f) (hc : cmpB a.1 f.1 < 0) : WRel F cur fs ((xs.set (r * 2) (.string f.1)).set (r * 2 + 1) (.int .u64 (f.2 : Int))) (p + 1) q r := by
  have hr := h.hr
  have hw : wback (cur.take (p + 1)).reverse (fs.take (q + 1)).reverse = f :: wback (cur.take (p + 1)).reverse (fs.take q).reverse := by
    rw [rev_snoc hf]
    conv => lhs; rw [rev_snoc ha, wback_lt hc, ← rev_snoc ha]
  refine h.step (e := f) hw rfl (Nat.le_refl _) (by omega) ?_
  rw [hw, List.length_cons] at hr
  have := wback_ge (cur.take (p + 1)).reverse (fs.take q).reverse
  have h3 := h.hp
  simp only [List.length_reverse, List.length_take] at this
  omega
theorem WRel.only (h : WRel F cur fs xs 0 (q + 1) (r + 1)) (hf : fs[q]? = some f) : WRel F cur fs ((xs.set (r * 2) (.string f.1)).set (r * 2 + 1) (.int .u64 (f.2 : Int))) 0 q r := by
  refine h.step (e := f) (L := (fs.take q).reverse) ?_ (by simp [wback_nil_left]) (Nat.le_refl _) (by omega) (Nat.zero_le _)
  rw [rev_snoc hf, List.take_zero]
  rfl
/-- There is room as long as one of other's entries is left. -/
theorem WRel.pos (h : WRel F cur fs xs p (q + 1) r) : 0 < r := by
  rw [h.hr]
  have hq := h.hq
  have hf : ∃ f, fs[q]? = some f := ⟨fs[q]'(by omega), List.getElem?_eq_getElem _⟩
  obtain ⟨f, hf⟩ := hf
  rw [rev_snoc hf]
  generalize (cur.take p).reverse = ra
  cases ra with
  | nil => rw [wback_nil_left]; simp
  | cons a ra =>
    rcases Int.lt_trichotomy (cmpB a.1 f.1) 0 with hc | hc | hc
    · rw [wback_lt hc]; simp
    · rw [wback_eq hc]; simp
    · rw [wback_gt hc]; simp
theorem WRel.leF (h : WRel F cur fs xs p q r) : r ≤ F.length := by
  have := congrArg List.length h.F1
  simp only [List.length_take, List.length_reverse, ← h.hr] at this
  omega

theorem WRel.fin (h : WRel F cur fs xs p 0 r) : xs = flat F := by
  have hr := h.hr
  have hF := h.F1
  simp only [List.take_zero, List.reverse_nil, wback_nil_right, List.length_reverse, List.reverse_reverse, List.length_take] at hr hF
  have hp := h.hp
  have : r = p := by omega
  subst this
  have e : xs = xs.take (r * 2) ++ xs.drop (r * 2) := (List.take_append_drop _ _).symm
  rw [e, h.x2, h.x1, ← hF, ← flat_append, List.take_append_drop]
end

end Go.Proofs.Qxb6602088a
