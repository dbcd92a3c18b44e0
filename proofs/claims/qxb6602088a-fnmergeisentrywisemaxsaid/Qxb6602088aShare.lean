/-
  Seat b6602088a. What the clock laws share: their arguments, mirror (27); a well-formed pair of slices is a clock.
-/
import Derived.Test.Qxb6602088aCompare
import Derived.Test.Qxb6602088aZz
namespace Go.Proofs.Qxb6602088a
open Go.RowKit

/-- What the walk of a clock law is told of its four arguments. -/
structure ClkArgs (w : World) (aoA aoC boA boC : Option Addr) (nA nC mA mC : Nat) (A B : List ByteArray) (C D : List Nat) : Prop where
  hnA : nA ≤ maxLen
  hnC : nC ≤ maxLen
  hmA : mA ≤ maxLen
  hmC : mC ≤ maxLen
  hA : A.length = nA
  hC : C.length = nC
  hB : B.length = mA
  hD : D.length = mC
  sA : ∀ (i : Nat) (x : ByteArray), A[i]? = some x → x.size ≤ maxLen
  sB : ∀ (i : Nat) (x : ByteArray), B[i]? = some x → x.size ≤ maxLen
  rA : Row w aoA (strs A)
  rC : Row w aoC (u64s C)
  rB : Row w boA (strs B)
  rD : Row w boC (u64s D)

theorem below_step {w x y : World} (h : Below w.heap.size w x) (k : Below x.heap.size x y) : Below w.heap.size w y := h.trans (k.mono h.size)

theorem wfto_lt {A : List ByteArray} {C : List Nat} (h : WFto A C A.length) : ∀ (d i : Nat) (x y : ByteArray), A[i]? = some x → A[i + d + 1]? = some y → cmpB x y < 0 := by
  intro d
  induction d with
  | zero =>
    intro i x y hx hy
    exact h.2 i (List.getElem?_eq_some_iff.1 hy).1 x y hx hy
  | succ d ih =>
    intro i x y hx hy
    have hl := (List.getElem?_eq_some_iff.1 hy).1
    obtain ⟨z, hz⟩ : ∃ z, A[i + 1]? = some z := ⟨A[i + 1]'(by omega), List.getElem?_eq_getElem _⟩
    have h1 := h.2 i (by omega) x z hx hz
    have h2 := ih (i + 1) z y hz (by rw [show i + 1 + d + 1 = i + (d + 1) + 1 by omega]; exact hy)
    exact cmpB_trans h1 h2

theorem wf_asc {A : List ByteArray} {C : List Nat} (h : WF A C) : Asc (A.zip C) := by
  unfold Asc
  rw [List.pairwise_iff_getElem]
  intro i j hi hj hij
  simp only [List.length_zip] at hi hj
  obtain ⟨d, rfl⟩ : ∃ d, j = i + d + 1 := ⟨j - i - 1, by omega⟩
  exact wfto_lt h.2 d i _ _ (by simp) (by simp)

theorem wf_pos {A : List ByteArray} {C : List Nat} (h : WF A C) : Pos (A.zip C) := by
  intro e he
  obtain ⟨i, hi, rfl⟩ := List.mem_iff_getElem.1 he
  simp only [List.length_zip] at hi
  have := h.2.1 i (by omega) (C[i]'(by omega)) (by simp)
  simpa using this

theorem wf_of {es : List E} (ha : Asc es) (hp : Pos es) : WF (es.map (·.1)) (es.map (·.2)) := by
  refine ⟨by simp, fun i hi c hc => ?_, fun i hi x y hx hy => ?_⟩
  · rw [List.getElem?_map, Option.map_eq_some_iff] at hc
    obtain ⟨e, he, rfl⟩ := hc
    exact hp e (List.mem_of_getElem? he)
  · rw [List.getElem?_map, Option.map_eq_some_iff] at hx hy
    obtain ⟨e, he, rfl⟩ := hx
    obtain ⟨f, hf, rfl⟩ := hy
    unfold Asc at ha
    rw [List.pairwise_iff_getElem] at ha
    obtain ⟨h1, rfl⟩ := List.getElem?_eq_some_iff.1 he
    obtain ⟨h2, rfl⟩ := List.getElem?_eq_some_iff.1 hf
    exact ha i (i + 1) h1 h2 (by omega)

def mir (v : Int) : Int := if v = 2 then 3 else if v = 3 then 2 else v

set_option maxHeartbeats 400000 in
theorem mirror27 (v : Int) (w : World) : Calls Try.prog 27 #[.int .i64 v] w fun e w' => e = .returned (.int .i64 (mir v)) ∧ w = w' := by
  by_cases h1 : v = 2
  · subst h1
    go_enter Try.func27, Try.ntmps27
    go_wp2
    go_ret
    exact ⟨rfl, rfl⟩
  by_cases h2 : v = 3
  · subst h2
    go_enter Try.func27, Try.ntmps27
    go_wp2
    go_ret
    exact ⟨rfl, rfl⟩
  · have H : Hid (mir v = v) := by show _ = _; unfold mir; rw [if_neg h1, if_neg h2]
    have b1 : (v == 2) = false := beq_eq_false_iff_ne.2 h1
    have b2 : (v == 3) = false := beq_eq_false_iff_ne.2 h2
    go_enter Try.func27, Try.ntmps27
    go_wp2
    go_ret
    exact ⟨by rw [H.out]; rfl, rfl⟩

theorem verdict_mir {v u : Int} {es fs : List E} (h : IsVerdict v es fs) (k : IsVerdict u fs es) : u = mir v := by
  unfold IsVerdict at h k
  unfold mir
  rcases h with ⟨rfl, a, b⟩ | ⟨rfl, a, b⟩ | ⟨rfl, a, b⟩ | ⟨rfl, a, b⟩ <;> simp_all
theorem verdict_self {v : Int} {es : List E} (h : IsVerdict v es es) : v = 1 := by
  have hn : ¬ Less es es := fun ⟨x, hx⟩ => by omega
  unfold IsVerdict at h
  simp_all
theorem verdict_vals {v : Int} {es fs : List E} (h : IsVerdict v es fs) : v = 1 ∨ v = 2 ∨ v = 3 ∨ v = 4 := by
  unfold IsVerdict at h
  rcases h with ⟨rfl, _⟩ | ⟨rfl, _⟩ | ⟨rfl, _⟩ | ⟨rfl, _⟩ <;> simp

end Go.Proofs.Qxb6602088a
