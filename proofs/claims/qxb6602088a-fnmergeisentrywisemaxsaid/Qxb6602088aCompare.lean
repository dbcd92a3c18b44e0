/-
  Seat b6602088a. (*Clock).Compare (24) by its contract.
-/
import Derived.Test.Qxb6602088aClk
namespace Go.Proofs.Qxb6602088a
open Go.RowKit

/-- What Compare answers: 1 Same, 2 Ancestor, 3 Descendant, 4 Concurrent. -/
def IsVerdict (v : Int) (es fs : List E) : Prop :=
  (v = 1 ∧ ¬ Less es fs ∧ ¬ Less fs es) ∨ (v = 2 ∧ Less es fs ∧ ¬ Less fs es) ∨ (v = 3 ∧ ¬ Less es fs ∧ Less fs es) ∨ (v = 4 ∧ Less es fs ∧ Less fs es)

def Rel (es fs : List E) (i j : Nat) (l g : Bool) : Prop :=
  (Less es fs ↔ (l = true ∨ Less (es.drop i) (fs.drop j))) ∧ (Less fs es ↔ (g = true ∨ Less (fs.drop j) (es.drop i)))

section
variable {es fs : List E} {i j : Nat} {l g : Bool} {a b : E}

theorem drop_at {l : List E} {i : Nat} {a : E} (h : l[i]? = some a) : l.drop i = a :: l.drop (i + 1) := by
  obtain ⟨hi, rfl⟩ := List.getElem?_eq_some_iff.1 h
  exact List.drop_eq_getElem_cons hi

theorem rel_lt (ha : Asc es) (hb : Asc fs) (pa : Pos es) (hi : es[i]? = some a) (hj : fs[j]? = some b) (hc : cmpB a.1 b.1 < 0) (h : Rel es fs i j l g) : Rel es fs (i + 1) j l true := by
  unfold Rel at *
  have aa := ha.drop i
  have ab := hb.drop j
  have pp := pa.drop i
  rw [drop_at hi, drop_at hj] at h
  rw [drop_at hi] at aa pp
  rw [drop_at hj] at ab ⊢
  rw [less_lt_drop aa ab hc] at h
  refine ⟨h.1, ?_⟩
  rw [h.2]
  simp [less_gt_lt pp ab hc]

theorem rel_gt (ha : Asc es) (hb : Asc fs) (pb : Pos fs) (hi : es[i]? = some a) (hj : fs[j]? = some b) (hc : 0 < cmpB a.1 b.1) (h : Rel es fs i j l g) : Rel es fs i (j + 1) true g := by
  have hc' : cmpB b.1 a.1 < 0 := by rw [cmpB_flip]; omega
  unfold Rel at *
  have aa := ha.drop i
  have ab := hb.drop j
  have pp := pb.drop j
  rw [drop_at hi, drop_at hj] at h
  rw [drop_at hj] at ab pp
  rw [drop_at hi] at aa ⊢
  rw [less_lt_drop ab aa hc'] at h
  refine ⟨?_, h.2⟩
  rw [h.1]
  simp [less_gt_lt pp aa hc']

theorem rel_eq_lt (ha : Asc es) (hb : Asc fs) (hi : es[i]? = some a) (hj : fs[j]? = some b) (hc : cmpB a.1 b.1 = 0) (hlt : a.2 < b.2) (h : Rel es fs i j l g) : Rel es fs (i + 1) (j + 1) true g := by
  have e := (cmpB_eq _ _).1 hc
  unfold Rel at *
  have aa := ha.drop i
  have ab := hb.drop j
  rw [drop_at hi, drop_at hj] at h
  rw [drop_at hi] at aa
  rw [drop_at hj] at ab
  rw [less_eq aa ab e, less_eq ab aa e.symm] at h
  have hn : ¬ b.2 < a.2 := by omega
  simp only [hlt, hn, true_or, or_true, false_or] at h
  simp [h]

theorem rel_eq_gt (ha : Asc es) (hb : Asc fs) (hi : es[i]? = some a) (hj : fs[j]? = some b) (hc : cmpB a.1 b.1 = 0) (hlt : b.2 < a.2) (h : Rel es fs i j l g) : Rel es fs (i + 1) (j + 1) l true := by
  have e := (cmpB_eq _ _).1 hc
  unfold Rel at *
  have aa := ha.drop i
  have ab := hb.drop j
  rw [drop_at hi, drop_at hj] at h
  rw [drop_at hi] at aa
  rw [drop_at hj] at ab
  rw [less_eq aa ab e, less_eq ab aa e.symm] at h
  have hn : ¬ a.2 < b.2 := by omega
  simp only [hlt, hn, true_or, or_true, false_or] at h
  simp [h]

theorem rel_eq_eq (ha : Asc es) (hb : Asc fs) (hi : es[i]? = some a) (hj : fs[j]? = some b) (hc : cmpB a.1 b.1 = 0) (h1 : ¬ a.2 < b.2) (h2 : ¬ b.2 < a.2) (h : Rel es fs i j l g) : Rel es fs (i + 1) (j + 1) l g := by
  have e := (cmpB_eq _ _).1 hc
  unfold Rel at *
  have aa := ha.drop i
  have ab := hb.drop j
  rw [drop_at hi, drop_at hj] at h
  rw [drop_at hi] at aa
  rw [drop_at hj] at ab
  rw [less_eq aa ab e, less_eq ab aa e.symm] at h
  simp only [h1, h2, false_or] at h
  exact h

def vnum (lt gt : Bool) : Int := if lt && gt then 4 else if lt then 2 else if gt then 3 else 1

theorem rel_start : Rel es fs 0 0 false false := by simp [Rel]

theorem rel_end {v : Int} (pa : Pos es) (pb : Pos fs) (h : Rel es fs i j l g) (hx : es.length ≤ i ∨ fs.length ≤ j ∨ (l = true ∧ g = true)) (hv : v = vnum (l || decide (j < fs.length)) (g || decide (i < es.length))) : IsVerdict v es fs := by
  have key : (Less es fs ↔ (l || decide (j < fs.length)) = true) ∧ (Less fs es ↔ (g || decide (i < es.length)) = true) ∨ (l = true ∧ g = true) := by
    by_cases hlg : l = true ∧ g = true
    · exact .inr hlg
    · left
      unfold Rel at h
      rcases hx with hx | hx | hx
      · have hd : es.drop i = [] := List.drop_of_length_le hx
        rw [hd] at h
        have n2 : ¬ Less (fs.drop j) [] := less_nil_right _
        have n1 : Less [] (fs.drop j) ↔ j < fs.length := by
          constructor
          · intro hl
            by_cases hj : j < fs.length
            · exact hj
            · rw [List.drop_of_length_le (by omega)] at hl
              exact absurd hl (less_nil_right _)
          · intro hj
            have := drop_at (List.getElem?_eq_getElem hj)
            have pp := pb.drop j
            rw [this] at pp ⊢
            exact less_nil_left pp
        have ni : ¬ i < es.length := by omega
        simp only [n2, n1, or_false] at h
        simp [h.1, h.2, ni]
      · have hd : fs.drop j = [] := List.drop_of_length_le hx
        rw [hd] at h
        have n2 : ¬ Less (es.drop i) [] := less_nil_right _
        have n1 : Less [] (es.drop i) ↔ i < es.length := by
          constructor
          · intro hl
            by_cases hj : i < es.length
            · exact hj
            · rw [List.drop_of_length_le (by omega)] at hl
              exact absurd hl (less_nil_right _)
          · intro hj
            have := drop_at (List.getElem?_eq_getElem hj)
            have pp := pa.drop i
            rw [this] at pp ⊢
            exact less_nil_left pp
        have ni : ¬ j < fs.length := by omega
        simp only [n2, n1, or_false] at h
        simp [h.1, h.2, ni]
      · exact absurd hx hlg
  subst hv
  unfold IsVerdict
  rcases key with ⟨k1, k2⟩ | ⟨rfl, rfl⟩
  · revert k1 k2
    cases (l || decide (j < fs.length)) <;> cases (g || decide (i < es.length)) <;> intro k1 k2 <;> simp [k1, k2, vnum]
  · unfold Rel at h
    simp at h
    simp [h, vnum]
end


set_option maxHeartbeats 4000000 in
set_option maxRecDepth 100000 in
theorem compare24 (b1 g1 c1 b2 g2 c2 : Nat) (es fs : List E) (w : World) (n1 : es.length ≤ 1048576) (n2 : fs.length ≤ 1048576) (k1 : ClkAt w b1 g1 c1 es) (k2 : ClkAt w b2 g2 c2 fs) (ha : Asc es) (hb : Asc fs) (pa : Pos es) (pb : Pos fs) :
    Calls Try.prog 24 #[.pointer (some ⟨b1, 0, none⟩), .pointer (some ⟨b2, 0, none⟩)] w fun e w' => ∃ v, e = .returned (.int .i64 v) ∧ IsVerdict v es fs ∧ Drw w w' := by
  have q1 := k1.cell
  have q2 := k2.cell
  obtain ⟨n, hn⟩ : ∃ n, n = es.length := ⟨_, rfl⟩
  obtain ⟨m, hm⟩ : ∃ m, m = fs.length := ⟨_, rfl⟩
  rw [← hn] at q1 n1
  rw [← hm] at q2 n2
  have HN : Hid (n = es.length) := hn
  have HM : Hid (m = fs.length) := hm
  clear hn hm
  go_enter Try.func24, Try.ntmps24
  go_wp2
  go_quiet (fail)
  go_wp2
  clear q1 q2
  go_loopw [7, 8, 9, 10] (fun sl sg si sj wr => ∃ (i j d : Nat) (l g : Bool), i ≤ n ∧ j ≤ m ∧ sl = .bool l ∧ sg = .bool g ∧ si = .int .i64 i ∧ sj = .int .i64 j ∧ Hid (Rel es fs i j l g) ∧ wr = w.drewN d) (fun _ _ si sj _ => (n - (intOf si).toNat) + (m - (intOf sj).toNat))
  case atStart => exact ⟨0, 0, _, false, false, Nat.zero_le _, Nat.zero_le _, rfl, rfl, rfl, rfl, rel_start, rfl⟩
  case round =>
    obtain ⟨i, j, d, l, g, hin, hjm, rfl, rfl, rfl, rfl, H, rfl⟩ := hrel
    by_cases hi : i < n
    · by_cases hj : j < m
      · by_cases hlg : l = true ∧ g = true
        · obtain ⟨rfl, rfl⟩ := hlg
          have HV : Hid (IsVerdict 4 es fs) := rel_end pa pb H.out (.inr (.inr ⟨rfl, rfl⟩)) (by simp [vnum])
          clear H
          go_wp2
          go_ret
          exact ⟨4, rfl, HV, (Drw.refl w).drewN d⟩
        · obtain ⟨e, he⟩ : ∃ e, es[i]? = some e := ⟨es[i]'(by have := HN.out; omega), List.getElem?_eq_getElem _⟩
          obtain ⟨f, hf⟩ : ∃ f, fs[j]? = some f := ⟨fs[j]'(by have := HM.out; omega), List.getElem?_eq_getElem _⟩
          have x1 := k1.name he
          have x2 := k1.cnt he
          have y1 := k2.name hf
          have y2 := k2.cnt hf
          have hlg' : (l = false ∧ g = false) ∨ (l = false ∧ g = true) ∨ (l = true ∧ g = false) := by cases l <;> cases g <;> simp_all
          clear hlg
          rcases Int.lt_trichotomy (cmpB e.1 f.1) 0 with hc | hc | hc
          · have HR : Hid (Rel es fs (i + 1) j l true) := rel_lt ha hb pa he hf hc H.out
            clear he hf H
            rcases hlg' with ⟨rfl, rfl⟩ | ⟨rfl, rfl⟩ | ⟨rfl, rfl⟩
            all_goals
              go_wp2
              go_quiet ((go_at_call 36; exact quiet_same (cmp36 _ _ _)))
              go_wp2
              go_roundw
              case rel => exact ⟨i + 1, j, _, _, true, by omega, by omega, rfl, rfl, by go_num, rfl, HR, rfl⟩
              case measure => simp [intOf]; omega
          · by_cases hlt : e.2 < f.2
            · have HR : Hid (Rel es fs (i + 1) (j + 1) true g) := rel_eq_lt ha hb he hf hc hlt H.out
              clear he hf H
              rcases hlg' with ⟨rfl, rfl⟩ | ⟨rfl, rfl⟩ | ⟨rfl, rfl⟩
              all_goals
                go_wp2
                go_quiet ((go_at_call 36; exact quiet_same (cmp36 _ _ _)))
                go_wp2
                go_quiet (fail)
                go_wp2
                go_roundw
                case rel => exact ⟨i + 1, j + 1, _, true, _, by omega, by omega, rfl, rfl, by go_num, by go_num, HR, rfl⟩
                case measure => simp [intOf]; omega
            by_cases hgt : f.2 < e.2
            · have HR : Hid (Rel es fs (i + 1) (j + 1) l true) := rel_eq_gt ha hb he hf hc hgt H.out
              clear he hf H
              rcases hlg' with ⟨rfl, rfl⟩ | ⟨rfl, rfl⟩ | ⟨rfl, rfl⟩
              all_goals
                go_wp2
                go_quiet ((go_at_call 36; exact quiet_same (cmp36 _ _ _)))
                go_wp2
                go_quiet (fail)
                go_wp2
                go_quiet (fail)
                go_wp2
                go_roundw
                case rel => exact ⟨i + 1, j + 1, _, _, true, by omega, by omega, rfl, rfl, by go_num, by go_num, HR, rfl⟩
                case measure => simp [intOf]; omega
            · have HR : Hid (Rel es fs (i + 1) (j + 1) l g) := rel_eq_eq ha hb he hf hc hlt hgt H.out
              clear he hf H
              rcases hlg' with ⟨rfl, rfl⟩ | ⟨rfl, rfl⟩ | ⟨rfl, rfl⟩
              all_goals
                go_wp2
                go_quiet ((go_at_call 36; exact quiet_same (cmp36 _ _ _)))
                go_wp2
                go_quiet (fail)
                go_wp2
                go_quiet (fail)
                go_wp2
                go_roundw
                case rel => exact ⟨i + 1, j + 1, _, _, _, by omega, by omega, rfl, rfl, by go_num, by go_num, HR, rfl⟩
                case measure => simp [intOf]; omega
          · have HR : Hid (Rel es fs i (j + 1) true g) := rel_gt ha hb pb he hf hc H.out
            clear he hf H
            rcases hlg' with ⟨rfl, rfl⟩ | ⟨rfl, rfl⟩ | ⟨rfl, rfl⟩
            all_goals
              go_wp2
              go_quiet ((go_at_call 36; exact quiet_same (cmp36 _ _ _)))
              go_wp2
              go_roundw
              case rel => exact ⟨i, j + 1, _, true, _, by omega, by omega, rfl, rfl, rfl, by go_num, HR, rfl⟩
              case measure => simp [intOf]; omega
      · have hjm' : m = j := by omega
        have HV : Hid (IsVerdict (vnum l true) es fs) := by
          have a1 := HN.out
          have a2 := HM.out
          refine rel_end pa pb H.out (.inr (.inl (by omega))) ?_
          rw [decide_eq_false (by omega), decide_eq_true (by omega)]
          simp
        clear H hjm'
        cases l <;> cases g
        all_goals
          go_wp2
          go_ret
          exact ⟨_, rfl, HV, (Drw.refl w).drewN d⟩
    · have HV : Hid (IsVerdict (vnum (l || decide (j < m)) g) es fs) := by
        have a1 := HN.out
        have a2 := HM.out
        refine rel_end pa pb H.out (.inl (by omega)) ?_
        rw [decide_eq_false (show ¬ i < es.length by omega), ← a2]
        simp
      clear H
      by_cases hj : j < m
      · rw [decide_eq_true hj] at HV
        cases l <;> cases g
        all_goals
          go_wp2
          go_ret
          exact ⟨_, rfl, HV, (Drw.refl w).drewN d⟩
      · rw [decide_eq_false hj] at HV
        cases l <;> cases g
        all_goals
          go_wp2
          go_ret
          exact ⟨_, rfl, HV, (Drw.refl w).drewN d⟩

end Go.Proofs.Qxb6602088a
