/-
  Seat b6602088a. The plain law of clocks: lists of (actor, counter), the byte order of actors, look-up, comparison, merge. No Go in sight.
-/
import Derived.Lib.Bytealg
namespace Go.Proofs.Qxb6602088a

/-! ### The order of byte strings -/
theorem cb_flip : ∀ a b : List UInt8, Lib.compareBytes b a = - Lib.compareBytes a b
  | [], [] => rfl
  | [], _ :: _ => rfl
  | _ :: _, [] => rfl
  | x :: a, y :: b => by
    unfold Lib.compareBytes
    by_cases h : x < y
    · have h' : ¬ y < x := fun h2 => UInt8.lt_irrefl x (UInt8.lt_trans h h2)
      simp [h, h']
    · by_cases h2 : y < x
      · simp [h, h2]
      · simp only [h, h2, if_false]
        exact cb_flip a b

theorem cb_eq : ∀ a b : List UInt8, Lib.compareBytes a b = 0 ↔ a = b
  | [], [] => by simp [Lib.compareBytes]
  | [], _ :: _ => by simp [Lib.compareBytes]
  | _ :: _, [] => by simp [Lib.compareBytes]
  | x :: a, y :: b => by
    unfold Lib.compareBytes
    have ih := cb_eq a b
    by_cases h : x < y
    · have hne : x ≠ y := fun e => by subst e; exact UInt8.lt_irrefl _ h
      simp [h, hne]
    · by_cases h2 : y < x
      · have hne : x ≠ y := fun e => by subst e; exact UInt8.lt_irrefl _ h2
        simp [h, h2, hne]
      · have he : x = y := UInt8.le_antisymm (UInt8.not_lt.1 h2) (UInt8.not_lt.1 h)
        subst he
        simp only [h, if_false, ih, List.cons.injEq, true_and]

theorem cb_vals : ∀ a b : List UInt8, -1 ≤ Lib.compareBytes a b ∧ Lib.compareBytes a b ≤ 1
  | [], [] => by simp [Lib.compareBytes]
  | [], _ :: _ => by simp [Lib.compareBytes]
  | _ :: _, [] => by simp [Lib.compareBytes]
  | x :: a, y :: b => by
    unfold Lib.compareBytes
    have ih := cb_vals a b
    split
    · omega
    · split <;> omega

theorem cb_trans : ∀ a b c : List UInt8, Lib.compareBytes a b < 0 → Lib.compareBytes b c < 0 → Lib.compareBytes a c < 0
  | [], [], _, h, _ => by simp [Lib.compareBytes] at h
  | _ :: _, [], _, h, _ => by simp [Lib.compareBytes] at h
  | _, _ :: _, [], _, h => by simp [Lib.compareBytes] at h
  | [], _ :: _, _ :: _, _, _ => by simp [Lib.compareBytes]
  | x :: a, y :: b, z :: c, h1, h2 => by
    unfold Lib.compareBytes at h1 h2 ⊢
    by_cases e1 : x < y
    · by_cases e2 : y < z
      · simp [UInt8.lt_trans e1 e2]
      · by_cases e3 : z < y
        · simp [e2, e3] at h2
        · have he : y = z := UInt8.le_antisymm (UInt8.not_lt.1 e3) (UInt8.not_lt.1 e2)
          subst he
          simp [e1]
    · by_cases e3 : y < x
      · simp [e1, e3] at h1
      · have he : x = y := UInt8.le_antisymm (UInt8.not_lt.1 e3) (UInt8.not_lt.1 e1)
        subst he
        simp only [e1, if_false] at h1
        by_cases e2 : x < z
        · simp [e2]
        · by_cases e4 : z < x
          · simp [e2, e4] at h2
          · simp only [e2, e4, if_false] at h2 ⊢
            exact cb_trans a b c h1 h2

/-- -1, 0 or 1: strings.Compare. -/
def cmpB (x y : ByteArray) : Int := Lib.compareBytes x.data.toList y.data.toList

theorem cmpB_flip (x y : ByteArray) : cmpB y x = - cmpB x y := cb_flip _ _
theorem cmpB_vals (x y : ByteArray) : -1 ≤ cmpB x y ∧ cmpB x y ≤ 1 := cb_vals _ _
theorem cmpB_trans {x y z : ByteArray} (h : cmpB x y < 0) (k : cmpB y z < 0) : cmpB x z < 0 := cb_trans _ _ _ h k
theorem cmpB_eq (x y : ByteArray) : cmpB x y = 0 ↔ x = y := by
  unfold cmpB
  rw [cb_eq]
  constructor
  · intro h
    obtain ⟨⟨a⟩⟩ := x
    obtain ⟨⟨b⟩⟩ := y
    simp at h
    rw [h]
  · intro h; rw [h]
theorem cmpB_self (x : ByteArray) : cmpB x x = 0 := (cmpB_eq x x).2 rfl
theorem cmpB_ne {x y : ByteArray} (h : cmpB x y < 0) : x ≠ y := fun e => by have := (cmpB_eq x y).2 e; omega

/-! ### Clocks as lists -/
abbrev E := ByteArray × Nat

/-- Strictly ascending actors. -/
def Asc (l : List E) : Prop := l.Pairwise fun a b => cmpB a.1 b.1 < 0
/-- No counter is 0. -/
def Pos (l : List E) : Prop := ∀ e ∈ l, e.2 ≠ 0
/-- The counter of an actor, 0 where there is none. -/
def lk : List E → ByteArray → Nat
  | [], _ => 0
  | e :: l, x => if e.1 = x then e.2 else lk l x

theorem lk_none {l : List E} {x : ByteArray} (h : ∀ e ∈ l, e.1 ≠ x) : lk l x = 0 := by
  induction l with
  | nil => rfl
  | cons a l ih =>
    unfold lk
    rw [if_neg (h a (by simp)), ih (fun e he => h e (by simp [he]))]

theorem lk_mem {l : List E} (ha : Asc l) {e : E} (he : e ∈ l) : lk l e.1 = e.2 := by
  induction l with
  | nil => cases he
  | cons a l ih =>
    unfold Asc at ha
    rw [List.pairwise_cons] at ha
    unfold lk
    rcases List.mem_cons.1 he with rfl | he
    · rw [if_pos rfl]
    · rw [if_neg (cmpB_ne (ha.1 e he)), ih ha.2 he]

theorem lk_ne_zero {l : List E} {x : ByteArray} (h : lk l x ≠ 0) : ∃ e ∈ l, e.1 = x ∧ e.2 = lk l x := by
  induction l with
  | nil => exact absurd rfl h
  | cons a l ih =>
    unfold lk at h ⊢
    split
    · rename_i hx; exact ⟨a, by simp, hx, rfl⟩
    · rename_i hx
      rw [if_neg hx] at h
      obtain ⟨e, he, h1, h2⟩ := ih h
      exact ⟨e, by simp [he], h1, h2⟩

theorem lk_before {a : E} {l : List E} (ha : Asc (a :: l)) {x : ByteArray} (hx : cmpB x a.1 < 0) : lk (a :: l) x = 0 := by
  unfold Asc at ha
  rw [List.pairwise_cons] at ha
  apply lk_none
  intro e he
  rcases List.mem_cons.1 he with rfl | he
  · exact (cmpB_ne hx).symm
  · exact (cmpB_ne (cmpB_trans hx (ha.1 e he))).symm

theorem Asc.tail {a : E} {l : List E} (h : Asc (a :: l)) : Asc l := by unfold Asc at *; exact (List.pairwise_cons.1 h).2
theorem Pos.tail {a : E} {l : List E} (h : Pos (a :: l)) : Pos l := fun e he => h e (by simp [he])
theorem Asc.drop {l : List E} (h : Asc l) (k : Nat) : Asc (l.drop k) := by unfold Asc at *; exact h.sublist (List.drop_sublist k l)
theorem Pos.drop {l : List E} (h : Pos l) (k : Nat) : Pos (l.drop k) := fun e he => h e (List.mem_of_mem_drop he)
theorem lk_head {a : E} {l : List E} : lk (a :: l) a.1 = a.2 := by unfold lk; rw [if_pos rfl]
theorem lk_tail_head {a : E} {l : List E} (h : Asc (a :: l)) : lk l a.1 = 0 := by
  unfold Asc at h
  rw [List.pairwise_cons] at h
  exact lk_none fun e he => (cmpB_ne (h.1 e he)).symm
theorem lk_other {a : E} {l : List E} {x : ByteArray} (h : x ≠ a.1) : lk (a :: l) x = lk l x := by
  show (if a.1 = x then a.2 else lk l x) = _
  rw [if_neg (fun e => h e.symm)]

/-- Two clocks with the same look-up are one. -/
theorem lk_ext : ∀ {l m : List E}, Asc l → Asc m → Pos l → Pos m → (∀ x, lk l x = lk m x) → l = m
  | [], [], _, _, _, _, _ => rfl
  | [], b :: m, _, _, _, hp, h => by
    have := h b.1
    rw [lk_head] at this
    exact absurd this.symm (hp b (by simp))
  | a :: l, [], _, _, hp, _, h => by
    have := h a.1
    rw [lk_head] at this
    exact absurd this (hp a (by simp))
  | a :: l, b :: m, hl, hm, pl, pm, h => by
    have e1 : a.1 = b.1 := by
      rcases Int.lt_trichotomy (cmpB a.1 b.1) 0 with hc | hc | hc
      · have := h a.1
        rw [lk_head, lk_before hm hc] at this
        exact absurd this (pl a (by simp))
      · exact (cmpB_eq _ _).1 hc
      · have hc' : cmpB b.1 a.1 < 0 := by rw [cmpB_flip]; omega
        have := h b.1
        rw [lk_head, lk_before hl hc'] at this
        exact absurd this.symm (pm b (by simp))
    have e2 : a.2 = b.2 := by
      have := h a.1
      rw [lk_head, e1, lk_head] at this
      exact this
    have e3 : a = b := Prod.ext e1 e2
    subst e3
    have : l = m := lk_ext hl.tail hm.tail pl.tail pm.tail (fun x => by
      by_cases hx : x = a.1
      · rw [hx, lk_tail_head hl, lk_tail_head hm]
      · have := h x
        rwa [lk_other hx, lk_other hx] at this)
    rw [this]

/-! ### Comparison -/
/-- Some actor's counter is lower in as than in bs. -/
def Less (as bs : List E) : Prop := ∃ x, lk as x < lk bs x

theorem less_nil_right (as : List E) : ¬ Less as [] := by rintro ⟨x, h⟩; simp [lk] at h
theorem less_nil_left {b : E} {bs : List E} (hp : Pos (b :: bs)) : Less [] (b :: bs) := ⟨b.1, by rw [lk_head]; have := hp b (by simp); simp [lk]; omega⟩

theorem less_lt_drop {a b : E} {as bs : List E} (_ha : Asc (a :: as)) (hb : Asc (b :: bs)) (hc : cmpB a.1 b.1 < 0) : Less (a :: as) (b :: bs) ↔ Less as (b :: bs) := by
  constructor
  · rintro ⟨x, h⟩
    have hx : x ≠ a.1 := fun e => by rw [e, lk_before hb hc] at h; omega
    rw [lk_other hx] at h
    exact ⟨x, h⟩
  · rintro ⟨x, h⟩
    have hx : x ≠ a.1 := fun e => by rw [e, lk_before hb hc] at h; omega
    exact ⟨x, by rw [lk_other hx]; exact h⟩

theorem less_gt_lt {a b : E} {as bs : List E} (pa : Pos (a :: as)) (hb : Asc (b :: bs)) (hc : cmpB a.1 b.1 < 0) : Less (b :: bs) (a :: as) :=
  ⟨a.1, by rw [lk_head, lk_before hb hc]; have := pa a (by simp); omega⟩

theorem less_eq {a b : E} {as bs : List E} (_ha : Asc (a :: as)) (hb : Asc (b :: bs)) (hc : a.1 = b.1) : Less (a :: as) (b :: bs) ↔ a.2 < b.2 ∨ Less as bs := by
  constructor
  · rintro ⟨x, h⟩
    by_cases hx : x = a.1
    · rw [hx, lk_head] at h
      rw [hc, lk_head] at h
      exact .inl h
    · rw [lk_other hx, lk_other (by rw [← hc]; exact hx)] at h
      exact .inr ⟨x, h⟩
  · rintro (h | ⟨x, h⟩)
    · exact ⟨a.1, by rw [lk_head]; conv => rhs; rw [hc]
                     rw [lk_head]; exact h⟩
    · have hx : x ≠ a.1 := fun e => by rw [e, hc, lk_tail_head hb] at h; omega
      exact ⟨x, by rw [lk_other hx, lk_other (by rw [← hc]; exact hx)]; exact h⟩

/-! ### Merge, the first walk: it raises the counters of the actors that both have, and counts those that only bs has -/
def raiseIn (a : E) (as : List E) (f : List E → List E × Nat) : List E → List E × Nat
  | [] => (a :: as, 0)
  | b :: bs => if cmpB a.1 b.1 < 0 then (a :: (f (b :: bs)).1, (f (b :: bs)).2) else if cmpB a.1 b.1 = 0 then ((a.1, max a.2 b.2) :: (f bs).1, (f bs).2) else ((raiseIn a as f bs).1, (raiseIn a as f bs).2 + 1)
def raise : List E → List E → List E × Nat
  | [] => fun bs => ([], bs.length)
  | a :: as => raiseIn a as (raise as)

theorem raise_nil_left (bs : List E) : raise [] bs = ([], bs.length) := rfl
theorem raise_nil_right (as : List E) : raise as [] = (as, 0) := by cases as <;> rfl
theorem raise_lt {a b : E} {as bs : List E} (h : cmpB a.1 b.1 < 0) : raise (a :: as) (b :: bs) = (a :: (raise as (b :: bs)).1, (raise as (b :: bs)).2) := by
  show raiseIn a as (raise as) (b :: bs) = _
  rw [raiseIn, if_pos h]
theorem raise_eq {a b : E} {as bs : List E} (h : cmpB a.1 b.1 = 0) : raise (a :: as) (b :: bs) = ((a.1, max a.2 b.2) :: (raise as bs).1, (raise as bs).2) := by
  show raiseIn a as (raise as) (b :: bs) = _
  rw [raiseIn, if_neg (by omega), if_pos h]
theorem raise_gt {a b : E} {as bs : List E} (h : 0 < cmpB a.1 b.1) : raise (a :: as) (b :: bs) = ((raise (a :: as) bs).1, (raise (a :: as) bs).2 + 1) := by
  show raiseIn a as (raise as) (b :: bs) = _
  rw [raiseIn, if_neg (by omega), if_neg (by omega)]
  rfl

theorem raise_names : ∀ as bs : List E, (raise as bs).1.map (·.1) = as.map (·.1) := by
  intro as
  induction as with
  | nil => intro bs; rfl
  | cons a as iha =>
    intro bs
    induction bs with
    | nil => rw [raise_nil_right]
    | cons b bs ihb =>
      rcases Int.lt_trichotomy (cmpB a.1 b.1) 0 with h | h | h
      · rw [raise_lt h]; simp [iha]
      · rw [raise_eq h]; simp [iha]
      · rw [raise_gt h]; exact ihb

theorem raise_length (as bs : List E) : (raise as bs).1.length = as.length := by
  have := congrArg List.length (raise_names as bs)
  simpa using this

/-- Which actors a clock names. -/
def names (l : List E) : List ByteArray := l.map (·.1)

/-- Does the clock name the actor? -/
def has (l : List E) (x : ByteArray) : Bool := l.any fun e => decide (e.1 = x)
theorem has_iff {l : List E} {x : ByteArray} : has l x = true ↔ x ∈ names l := by simp [has, names]
theorem has_cons {a : E} {l : List E} {x : ByteArray} (h : x ≠ a.1) : has (a :: l) x = has l x := by simp [has, Ne.symm h]

theorem mem_names {l : List E} {x : ByteArray} : x ∈ names l ↔ ∃ e ∈ l, e.1 = x := by simp [names]

theorem lk_not_mem {l : List E} {x : ByteArray} (h : x ∉ names l) : lk l x = 0 := lk_none fun e he hx => h (mem_names.2 ⟨e, he, hx⟩)

theorem raise_lk : ∀ as bs : List E, Asc as → Asc bs → ∀ x, x ∈ names as → lk (raise as bs).1 x = max (lk as x) (lk bs x) := by
  intro as
  induction as with
  | nil => intro bs _ _ x h; simp [names] at h
  | cons a as iha =>
    intro bs ha
    induction bs with
    | nil => intro _ x _; rw [raise_nil_right]; simp [lk]
    | cons b bs ihb =>
      intro hb x hx
      rcases Int.lt_trichotomy (cmpB a.1 b.1) 0 with h | h | h
      · rw [raise_lt h]
        by_cases he : x = a.1
        · subst he
          show lk (a :: (raise as (b :: bs)).1) a.1 = _
          rw [lk_head, lk_head, lk_before hb h]
          omega
        · show lk (a :: (raise as (b :: bs)).1) x = _
          rw [lk_other he, lk_other he]
          exact iha (b :: bs) ha.tail hb x (by simpa [names, he] using hx)
      · have e := (cmpB_eq _ _).1 h
        rw [raise_eq h]
        by_cases he : x = a.1
        · subst he
          have : lk ((a.1, max a.2 b.2) :: (raise as bs).1) a.1 = max a.2 b.2 := lk_head (a := (a.1, max a.2 b.2))
          show lk ((a.1, max a.2 b.2) :: (raise as bs).1) a.1 = _
          rw [this, lk_head, e, lk_head]
        · show lk ((a.1, max a.2 b.2) :: (raise as bs).1) x = _
          rw [lk_other (a := (a.1, max a.2 b.2)) he, lk_other he, lk_other (by rw [← e]; exact he)]
          exact iha bs ha.tail hb.tail x (by simpa [names, he] using hx)
      · have h' : cmpB b.1 a.1 < 0 := by rw [cmpB_flip]; omega
        rw [raise_gt h]
        show lk (raise (a :: as) bs).1 x = _
        rw [ihb hb.tail x hx]
        have hxb : x ≠ b.1 := by
          intro e
          subst e
          have := lk_before ha h'
          obtain ⟨e, he, h2⟩ := mem_names.1 hx
          rw [← h2] at h'
          unfold Asc at ha
          rw [List.pairwise_cons] at ha
          rcases List.mem_cons.1 he with rfl | he
          · have := cmpB_self e.1; omega
          · have := cmpB_trans h' (ha.1 e he)
            have := cmpB_self e.1
            omega
        rw [lk_other hxb]

theorem raise_missing : ∀ as bs : List E, Asc as → Asc bs → (raise as bs).2 = (bs.filter fun b => !has as b.1).length := by
  intro as
  induction as with
  | nil =>
    intro bs _ _
    rw [raise_nil_left, List.filter_eq_self.2 (by intro b _; rfl)]
  | cons a as iha =>
    intro bs ha
    induction bs with
    | nil => intro _; rw [raise_nil_right]; rfl
    | cons b bs ihb =>
      intro hb
      have hb' := hb
      unfold Asc at hb'
      rw [List.pairwise_cons] at hb'
      rcases Int.lt_trichotomy (cmpB a.1 b.1) 0 with h | h | h
      · rw [raise_lt h]
        show (raise as (b :: bs)).2 = _
        rw [iha (b :: bs) ha.tail hb]
        congr 1
        apply List.filter_congr
        intro y hy
        have hne : y.1 ≠ a.1 := by
          rcases List.mem_cons.1 hy with rfl | hy
          · exact (cmpB_ne h).symm
          · exact (cmpB_ne (cmpB_trans h (hb'.1 y hy))).symm
        rw [has_cons hne]
      · have e := (cmpB_eq _ _).1 h
        rw [raise_eq h]
        show (raise as bs).2 = _
        rw [iha bs ha.tail hb.tail, List.filter_cons]
        have hc : has (a :: as) b.1 = true := by simp [has, e]
        rw [if_neg (by simp [hc])]
        congr 1
        apply List.filter_congr
        intro y hy
        have hne : y.1 ≠ a.1 := by rw [e]; exact (cmpB_ne (hb'.1 y hy)).symm
        rw [has_cons hne]
      · have h' : cmpB b.1 a.1 < 0 := by rw [cmpB_flip]; omega
        rw [raise_gt h]
        show (raise (a :: as) bs).2 + 1 = _
        rw [ihb hb.tail, List.filter_cons]
        have hc : b.1 ∉ names (a :: as) := by
          intro hm
          obtain ⟨e, he, h2⟩ := mem_names.1 hm
          unfold Asc at ha
          rw [List.pairwise_cons] at ha
          rcases List.mem_cons.1 he with rfl | he
          · rw [h2] at h'; have := cmpB_self b.1; omega
          · have := cmpB_trans h' (ha.1 e he)
            rw [h2] at this
            have := cmpB_self b.1
            omega
        have hc' : has (a :: as) b.1 = false := by rw [← Bool.not_eq_true, has_iff]; exact hc
        rw [if_pos (by simp [hc'])]
        rfl

/-! ### Merge, the second walk: from the end, both lists turned round -/
def wbackIn (a : E) (ra : List E) (f : List E → List E) : List E → List E
  | [] => a :: ra
  | b :: rb => if 0 < cmpB a.1 b.1 then a :: f (b :: rb) else if cmpB a.1 b.1 = 0 then a :: f rb else b :: wbackIn a ra f rb
def wback : List E → List E → List E
  | [] => fun rb => rb
  | a :: ra => wbackIn a ra (wback ra)

theorem wback_nil_left (rb : List E) : wback [] rb = rb := rfl
theorem wback_nil_right (ra : List E) : wback ra [] = ra := by cases ra <;> rfl
theorem wback_gt {a b : E} {ra rb : List E} (h : 0 < cmpB a.1 b.1) : wback (a :: ra) (b :: rb) = a :: wback ra (b :: rb) := by
  show wbackIn a ra (wback ra) (b :: rb) = _
  rw [wbackIn, if_pos h]
theorem wback_eq {a b : E} {ra rb : List E} (h : cmpB a.1 b.1 = 0) : wback (a :: ra) (b :: rb) = a :: wback ra rb := by
  show wbackIn a ra (wback ra) (b :: rb) = _
  rw [wbackIn, if_neg (by omega), if_pos h]
theorem wback_lt {a b : E} {ra rb : List E} (h : cmpB a.1 b.1 < 0) : wback (a :: ra) (b :: rb) = b :: wback (a :: ra) rb := by
  show wbackIn a ra (wback ra) (b :: rb) = _
  rw [wbackIn, if_neg (by omega), if_neg (by omega)]
  rfl

/-- Strictly descending actors. -/
def Desc (l : List E) : Prop := l.Pairwise fun a b => cmpB b.1 a.1 < 0
theorem Desc.tail {a : E} {l : List E} (h : Desc (a :: l)) : Desc l := by unfold Desc at *; exact (List.pairwise_cons.1 h).2

theorem wback_mem : ∀ (ra rb : List E) (e : E), e ∈ wback ra rb → e ∈ ra ∨ e ∈ rb := by
  intro ra
  induction ra with
  | nil => intro rb e h; exact .inr h
  | cons a ra iha =>
    intro rb
    induction rb with
    | nil => intro e h; rw [wback_nil_right] at h; exact .inl h
    | cons b rb ihb =>
      intro e h
      rcases Int.lt_trichotomy (cmpB a.1 b.1) 0 with hc | hc | hc
      · rw [wback_lt hc] at h
        rcases List.mem_cons.1 h with rfl | h
        · exact .inr (by simp)
        · rcases ihb e h with h | h
          · exact .inl h
          · exact .inr (by simp [h])
      · rw [wback_eq hc] at h
        rcases List.mem_cons.1 h with rfl | h
        · exact .inl (by simp)
        · rcases iha rb e h with h | h
          · exact .inl (by simp [h])
          · exact .inr (by simp [h])
      · rw [wback_gt hc] at h
        rcases List.mem_cons.1 h with rfl | h
        · exact .inl (by simp)
        · rcases iha (b :: rb) e h with h | h
          · exact .inl (by simp [h])
          · exact .inr h

theorem wback_left : ∀ (ra rb : List E) (e : E), e ∈ ra → e ∈ wback ra rb := by
  intro ra
  induction ra with
  | nil => intro rb e h; cases h
  | cons a ra iha =>
    intro rb
    induction rb with
    | nil => intro e h; rw [wback_nil_right]; exact h
    | cons b rb ihb =>
      intro e h
      rcases Int.lt_trichotomy (cmpB a.1 b.1) 0 with hc | hc | hc
      · rw [wback_lt hc]
        exact List.mem_cons_of_mem _ (ihb e h)
      · rw [wback_eq hc]
        rcases List.mem_cons.1 h with rfl | h
        · simp
        · exact List.mem_cons_of_mem _ (iha rb e h)
      · rw [wback_gt hc]
        rcases List.mem_cons.1 h with rfl | h
        · simp
        · exact List.mem_cons_of_mem _ (iha (b :: rb) e h)

theorem wback_right : ∀ (ra rb : List E) (e : E), e ∈ rb → e ∈ wback ra rb ∨ e.1 ∈ names ra := by
  intro ra
  induction ra with
  | nil => intro rb e h; exact .inl h
  | cons a ra iha =>
    intro rb
    induction rb with
    | nil => intro e h; cases h
    | cons b rb ihb =>
      intro e h
      rcases Int.lt_trichotomy (cmpB a.1 b.1) 0 with hc | hc | hc
      · rw [wback_lt hc]
        rcases List.mem_cons.1 h with rfl | h
        · exact .inl (by simp)
        · rcases ihb e h with h | h
          · exact .inl (List.mem_cons_of_mem _ h)
          · exact .inr h
      · rw [wback_eq hc]
        rcases List.mem_cons.1 h with rfl | h
        · exact .inr (by simp [names, (cmpB_eq _ _).1 hc])
        · rcases iha rb e h with h | h
          · exact .inl (List.mem_cons_of_mem _ h)
          · exact .inr (by simp [names] at h ⊢; exact .inr h)
      · rw [wback_gt hc]
        rcases iha (b :: rb) e h with h | h
        · exact .inl (List.mem_cons_of_mem _ h)
        · exact .inr (by simp [names] at h ⊢; exact .inr h)

theorem wback_desc : ∀ (ra rb : List E), Desc ra → Desc rb → Desc (wback ra rb) := by
  intro ra
  induction ra with
  | nil => intro rb _ h; exact h
  | cons a ra iha =>
    intro rb ha
    induction rb with
    | nil => intro _; rw [wback_nil_right]; exact ha
    | cons b rb ihb =>
      intro hb
      have ha' := ha
      have hb' := hb
      unfold Desc at ha' hb'
      rw [List.pairwise_cons] at ha' hb'
      rcases Int.lt_trichotomy (cmpB a.1 b.1) 0 with hc | hc | hc
      · rw [wback_lt hc]
        unfold Desc
        rw [List.pairwise_cons]
        refine ⟨fun e he => ?_, ihb hb.tail⟩
        rcases wback_mem _ _ e he with h | h
        · rcases List.mem_cons.1 h with rfl | h
          · exact hc
          · exact cmpB_trans (ha'.1 e h) hc
        · exact hb'.1 e h
      · rw [wback_eq hc]
        have e1 := (cmpB_eq _ _).1 hc
        unfold Desc
        rw [List.pairwise_cons]
        refine ⟨fun e he => ?_, iha rb ha.tail hb.tail⟩
        rcases wback_mem _ _ e he with h | h
        · exact ha'.1 e h
        · rw [e1]; exact hb'.1 e h
      · rw [wback_gt hc]
        have hc' : cmpB b.1 a.1 < 0 := by rw [cmpB_flip]; omega
        unfold Desc
        rw [List.pairwise_cons]
        refine ⟨fun e he => ?_, iha (b :: rb) ha.tail hb⟩
        rcases wback_mem _ _ e he with h | h
        · exact ha'.1 e h
        · rcases List.mem_cons.1 h with rfl | h
          · exact hc'
          · exact cmpB_trans (hb'.1 e h) hc'

theorem wback_length : ∀ (ra rb : List E), Desc ra → Desc rb → (wback ra rb).length = ra.length + (rb.filter fun b => !has ra b.1).length := by
  intro ra
  induction ra with
  | nil =>
    intro rb _ _
    rw [wback_nil_left, List.filter_eq_self.2 (by intro b _; rfl)]
    simp
  | cons a ra iha =>
    intro rb ha
    induction rb with
    | nil => intro _; rw [wback_nil_right]; simp
    | cons b rb ihb =>
      intro hb
      have ha' := ha
      have hb' := hb
      unfold Desc at ha' hb'
      rw [List.pairwise_cons] at ha' hb'
      rcases Int.lt_trichotomy (cmpB a.1 b.1) 0 with hc | hc | hc
      · rw [wback_lt hc, List.length_cons, ihb hb.tail, List.filter_cons]
        have hn : has (a :: ra) b.1 = false := by
          rw [← Bool.not_eq_true, has_iff]
          intro hm
          obtain ⟨e, he, h2⟩ := mem_names.1 hm
          rcases List.mem_cons.1 he with rfl | he
          · rw [h2] at hc; have := cmpB_self b.1; omega
          · have := cmpB_trans (ha'.1 e he) hc
            rw [h2] at this
            have := cmpB_self b.1
            omega
        rw [if_pos (by simp [hn])]
        simp only [List.length_cons]
        omega
      · have e1 := (cmpB_eq _ _).1 hc
        rw [wback_eq hc, List.length_cons, iha rb ha.tail hb.tail, List.filter_cons]
        have hn : has (a :: ra) b.1 = true := by simp [has, e1]
        rw [if_neg (by simp [hn]), List.length_cons]
        have : (rb.filter fun b => !has (a :: ra) b.1) = rb.filter fun b => !has ra b.1 := by
          apply List.filter_congr
          intro y hy
          rw [has_cons (by rw [e1]; exact cmpB_ne (hb'.1 y hy))]
        rw [this]
        omega
      · have hc' : cmpB b.1 a.1 < 0 := by rw [cmpB_flip]; omega
        rw [wback_gt hc, List.length_cons, iha (b :: rb) ha.tail hb, List.length_cons]
        have : ((b :: rb).filter fun b => !has (a :: ra) b.1) = (b :: rb).filter fun b => !has ra b.1 := by
          apply List.filter_congr
          intro y hy
          have hy' : cmpB y.1 a.1 < 0 := by
            rcases List.mem_cons.1 hy with rfl | hy
            · exact hc'
            · exact cmpB_trans (hb'.1 y hy) hc'
          rw [has_cons (cmpB_ne hy')]
        rw [this]
        omega

/-! ### The merge of two clocks -/
def merged (as bs : List E) : List E := if (raise as bs).2 = 0 then (raise as bs).1 else (wback (raise as bs).1.reverse bs.reverse).reverse

theorem asc_names {l : List E} : Asc l ↔ (names l).Pairwise fun x y => cmpB x y < 0 := by
  unfold Asc names
  rw [List.pairwise_map]

theorem raise_asc {as bs : List E} (h : Asc as) : Asc (raise as bs).1 := by
  rw [asc_names] at *
  unfold names at *
  rw [raise_names]
  exact h

theorem desc_reverse {l : List E} (h : Asc l) : Desc l.reverse := by
  unfold Desc
  rw [List.pairwise_reverse]
  exact h
theorem asc_reverse {l : List E} (h : Desc l) : Asc l.reverse := by
  unfold Asc
  rw [List.pairwise_reverse]
  exact h

theorem has_reverse (l : List E) (x : ByteArray) : has l.reverse x = has l x := by simp [has]
theorem has_names {l m : List E} (h : names l = names m) (x : ByteArray) : has l x = has m x := by
  rw [Bool.eq_iff_iff, has_iff, has_iff, h]

theorem wback_full {as bs : List E} (ha : Asc as) (hb : Asc bs) : (wback (raise as bs).1.reverse bs.reverse).length = as.length + (raise as bs).2 := by
  rw [wback_length _ _ (desc_reverse (raise_asc ha)) (desc_reverse hb), raise_missing as bs ha hb, List.length_reverse, raise_length]
  congr 1
  rw [List.filter_reverse, List.length_reverse]
  congr 1
  apply List.filter_congr
  intro y _
  rw [has_reverse, has_names (raise_names as bs)]

theorem merged_asc {as bs : List E} (ha : Asc as) (hb : Asc bs) : Asc (merged as bs) := by
  unfold merged
  split
  · exact raise_asc ha
  · exact asc_reverse (wback_desc _ _ (desc_reverse (raise_asc ha)) (desc_reverse hb))

theorem merged_lk {as bs : List E} (ha : Asc as) (hb : Asc bs) (x : ByteArray) : lk (merged as bs) x = max (lk as x) (lk bs x) := by
  have hn : names (raise as bs).1 = names as := raise_names as bs
  by_cases hx : x ∈ names as
  · have h1 := raise_lk as bs ha hb x hx
    by_cases h0 : (raise as bs).2 = 0
    · unfold merged; rw [if_pos h0]; exact h1
    · rw [← hn] at hx
      obtain ⟨e, he, rfl⟩ := mem_names.1 hx
      have hm : e ∈ merged as bs := by
        unfold merged
        rw [if_neg h0]
        exact List.mem_reverse.2 (wback_left _ _ e (List.mem_reverse.2 he))
      rw [lk_mem (merged_asc ha hb) hm, ← h1, lk_mem (raise_asc ha) he]
  · rw [lk_not_mem hx, Nat.max_eq_right (Nat.zero_le _)]
    by_cases h0 : (raise as bs).2 = 0
    · unfold merged
      rw [if_pos h0]
      rw [lk_not_mem (by rw [hn]; exact hx)]
      rw [raise_missing as bs ha hb] at h0
      have h2 := List.eq_nil_of_length_eq_zero h0
      rw [List.filter_eq_nil_iff] at h2
      refine (lk_not_mem ?_).symm
      intro hxb
      obtain ⟨e, he, rfl⟩ := mem_names.1 hxb
      have := h2 e he
      simp only [Bool.not_eq_true, Bool.not_eq_false'] at this
      exact hx (has_iff.1 this)
    · by_cases hxb : x ∈ names bs
      · obtain ⟨e, he, rfl⟩ := mem_names.1 hxb
        have hm : e ∈ merged as bs := by
          unfold merged
          rw [if_neg h0]
          refine List.mem_reverse.2 ?_
          rcases wback_right (raise as bs).1.reverse bs.reverse e (List.mem_reverse.2 he) with h | h
          · exact h
          · exfalso
            apply hx
            rw [← hn]
            obtain ⟨f, hf, h3⟩ := mem_names.1 h
            exact mem_names.2 ⟨f, List.mem_reverse.1 hf, h3⟩
        rw [lk_mem (merged_asc ha hb) hm, lk_mem hb he]
      · rw [lk_not_mem hxb]
        refine lk_not_mem ?_
        intro hm
        obtain ⟨e, he, rfl⟩ := mem_names.1 hm
        unfold merged at he
        rw [if_neg h0] at he
        rcases wback_mem _ _ e (List.mem_reverse.1 he) with h | h
        · exact hx (by rw [← hn]; exact mem_names.2 ⟨e, List.mem_reverse.1 h, rfl⟩)
        · exact hxb (mem_names.2 ⟨e, List.mem_reverse.1 h, rfl⟩)

theorem merged_pos {as bs : List E} (ha : Asc as) (hb : Asc bs) (pa : Pos as) (pb : Pos bs) : Pos (merged as bs) := by
  intro e he h0
  have h1 := lk_mem (merged_asc ha hb) he
  rw [merged_lk ha hb, h0] at h1
  have h2 : lk as e.1 = 0 := by omega
  have h3 : lk bs e.1 = 0 := by omega
  have hin : e.1 ∈ names as ∨ e.1 ∈ names bs := by
    unfold merged at he
    split at he
    · exact .inl (by rw [← show names (raise as bs).1 = names as from raise_names as bs]; exact mem_names.2 ⟨e, he, rfl⟩)
    · rcases wback_mem _ _ e (List.mem_reverse.1 he) with h | h
      · exact .inl (by rw [← show names (raise as bs).1 = names as from raise_names as bs]; exact mem_names.2 ⟨e, List.mem_reverse.1 h, rfl⟩)
      · exact .inr (mem_names.2 ⟨e, List.mem_reverse.1 h, rfl⟩)
  rcases hin with h | h
  · obtain ⟨f, hf, h4⟩ := mem_names.1 h
    rw [← h4, lk_mem ha hf] at h2
    exact pa f hf h2
  · obtain ⟨f, hf, h4⟩ := mem_names.1 h
    rw [← h4, lk_mem hb hf] at h3
    exact pb f hf h3

/-- No counter of the merge outgrows those of the two. -/
theorem merged_bound {as bs : List E} (ha : Asc as) (hb : Asc bs) {N : Nat} (h1 : ∀ e ∈ as, e.2 < N) (h2 : ∀ e ∈ bs, e.2 < N) : ∀ e ∈ merged as bs, e.2 < N := by
  intro e he
  have h := lk_mem (merged_asc ha hb) he
  rw [merged_lk ha hb] at h
  by_cases h0 : e.2 = 0
  · have hin : (∃ f, f ∈ as) ∨ (∃ f, f ∈ bs) := by
      unfold merged at he
      split at he
      · left
        cases as with
        | nil => rw [raise_nil_left] at he; cases he
        | cons a as => exact ⟨a, by simp⟩
      · rcases wback_mem _ _ e (List.mem_reverse.1 he) with h | h
        · left
          cases as with
          | nil => rw [raise_nil_left] at h; cases h
          | cons a as => exact ⟨a, by simp⟩
        · exact .inr ⟨e, List.mem_reverse.1 h⟩
    rcases hin with ⟨f, hf⟩ | ⟨f, hf⟩
    · have := h1 f hf; omega
    · have := h2 f hf; omega
  · by_cases hm : lk as e.1 = e.2
    · obtain ⟨f, hf, _, h4⟩ := lk_ne_zero (l := as) (x := e.1) (by omega)
      have := h1 f hf
      omega
    · obtain ⟨f, hf, _, h4⟩ := lk_ne_zero (l := bs) (x := e.1) (by omega)
      have := h2 f hf
      omega

end Go.Proofs.Qxb6602088a
