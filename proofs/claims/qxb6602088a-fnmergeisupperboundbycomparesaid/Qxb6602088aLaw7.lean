/-
  Seat b6602088a. FnMergeIsUpperBoundByCompare (7): the walk of the law, out of its callees' contracts.
-/
import Derived.Test.Qxb6602088aShare
import Derived.Test.Qxb6602088aMerge
import Derived.Test.Qxb6602088aMshare
namespace Go.Proofs.Qxb6602088a
open Go.RowKit

def ubA (v : Int) : Int := if v = 1 ∨ v = 3 then 1 else 2
def ubB (v : Int) : Int := if v = 1 ∨ v = 2 then 1 else 2

theorem ub_a {v u : Int} {es fs : List E} (ha : Asc es) (hb : Asc fs) (h : IsVerdict v es fs) (k : IsVerdict u es (merged es fs)) : u = ubA v := by
  have h1 := (merged_not_less ha hb).1
  have h2 := less_merged ha hb
  unfold IsVerdict at h k
  unfold ubA
  rw [h2] at k
  rcases h with ⟨rfl, a, b⟩ | ⟨rfl, a, b⟩ | ⟨rfl, a, b⟩ | ⟨rfl, a, b⟩ <;> simp_all
theorem ub_b {v u : Int} {es fs : List E} (ha : Asc es) (hb : Asc fs) (h : IsVerdict v es fs) (k : IsVerdict u fs (merged es fs)) : u = ubB v := by
  have h1 := (merged_not_less ha hb).2
  have h2 := less_merged' ha hb
  unfold IsVerdict at h k
  unfold ubB
  rw [h2] at k
  rcases h with ⟨rfl, a, b⟩ | ⟨rfl, a, b⟩ | ⟨rfl, a, b⟩ | ⟨rfl, a, b⟩ <;> simp_all

set_option maxHeartbeats 4000000 in
set_option maxRecDepth 100000 in
theorem walk7 (aoA aoC boA boC : Option Addr) (nA nC mA mC cA cC dA dC : Nat) (A B : List ByteArray) (C D : List Nat) (w : World) (I : ClkArgs w aoA aoC boA boC nA nC mA mC A B C D) :
    Calls Try.prog 7 #[.slice aoA nA cA, .slice aoC nC cC, .slice boA mA dA, .slice boC mC dC] w fun e w' => e = .returned (.bool true) ∧ Below w.heap.size w w' := by
  obtain ⟨hnA, hnC, hmA, hmC, hA, hC, hB, hD, hsA, hsB, rA, rC, rB, rD⟩ := I
  go_enter Try.func7, Try.ntmps7
  go_wp2_with fail
  refine (zz28 aoA aoC boA boC nA nC mA mC cA cC dA dC A B _ hnA hnC hmA hmC hA hB hsA hsB rA rB).mono ?_
  rintro e w' ⟨⟨z, rfl⟩, rfl⟩
  cases z with
  | false =>
    go_wp2_with fail
    go_ret
    exact ⟨rfl, Below.refl _ _⟩
  | true =>
    go_wp2_with fail
    by_cases h4 : nA ≤ 4096 ∧ nC ≤ 4096 ∧ mA ≤ 4096 ∧ mC ≤ 4096
    case neg =>
      refine (big11_no aoA aoC boA boC nA nC mA mC cA cC dA dC _ hnA hnC hmA hmC h4).mono ?_
      rintro e w' ⟨rfl, rfl⟩
      clear h4
      go_wp2_with fail
      go_ret
      exact ⟨rfl, Below.refl _ _⟩
    obtain ⟨h1, h2, h3, h4⟩ := h4
    refine (big11 aoA aoC boA boC nA nC mA mC cA cC dA dC A B _ h1 h2 h3 h4 hA hB hsA hsB rA rB).mono ?_
    rintro e w' ⟨z, rfl, rfl⟩
    cases z with
    | true =>
      go_wp2_with fail
      go_ret
      exact ⟨rfl, Below.refl _ _⟩
    | false =>
      go_wp2_with fail
      refine (wf12 aoA aoC nA nC cA cC A C _ (by omega) hnC hA hC hsA rA rC).mono ?_
      rintro e w' ⟨z, rfl, hw1, d1, rfl⟩
      cases z with
      | false =>
        clear hw1
        go_wp2_with fail
        go_ret
        exact ⟨rfl, below_drewN (Below.refl _ _) _⟩
      | true =>
        have W1 : Hid (WF A C) := hw1.1 rfl
        clear hw1
        go_wp2_with fail
        refine (wf12 boA boC mA mC dA dC B D _ (by omega) hmC hB hD hsB (rB.drewN d1) (rD.drewN d1)).mono ?_
        rintro e w' ⟨z, rfl, hw2, d2, rfl⟩
        cases z with
        | false =>
          clear hw2
          go_wp2_with fail
          go_ret
          exact ⟨rfl, below_drewN (Below.refl _ _) _⟩
        | true =>
          have W2 : Hid (WF B D) := hw2.1 rfl
          clear hw2
          have hCn : C.length = nA := by have := W1.out.1; omega
          have hDn : D.length = mA := by have := W2.out.1; omega
          have e1 : nC = nA := by omega
          have e2 : mC = mA := by omega
          subst e1 e2
          rw [World.drewN_drewN]
          have b0 : Below w.heap.size w (w.drewN (d1 + d2)) := below_drewN (Below.refl _ _) _
          go_wp2_with fail
          refine (clone13 aoA _ cA A _ h1 hA (rA.drewN (d1 + d2))).mono ?_
          rintro e w1 ⟨ao1, c1, rfl, r1, b1⟩
          have b1' := below_step b0 b1
          go_wp2_with fail
          refine (clone14 aoC _ cC C _ h1 hCn (rC.later b1')).mono ?_
          rintro e w2 ⟨ao2, c2, rfl, r2, b2⟩
          have b2' := below_step b1' b2
          go_wp2_with fail
          refine (clone13 boA _ dA B _ h3 hB (rB.later b2')).mono ?_
          rintro e w3 ⟨ao3, c3, rfl, r3, b3⟩
          have b3' := below_step b2' b3
          go_wp2_with fail
          refine (clone14 boC _ dC D _ h3 hDn (rD.later b3')).mono ?_
          rintro e w4 ⟨ao4, c4, rfl, r4, b4⟩
          have B4 := below_step b3' b4
          have r1' := ((r1.later b2).later b3).later b4
          have r2' := (r2.later b3).later b4
          have r3' := r3.later b4
          clear r1 r2 r3 b0 b1 b2 b3 b4 b1' b2' b3' rA rB rC rD hnA hnC hmA hmC hsA hsB
          generalize hes : A.zip C = es
          generalize hfs : B.zip D = fs
          have le : es.length = nC := by rw [← hes]; simp [hA, hCn]
          have lf : fs.length = mC := by rw [← hfs]; simp [hB, hDn]
          have aa : Asc es := by rw [← hes]; exact wf_asc W1.out
          have pa : Pos es := by rw [← hes]; exact wf_pos W1.out
          have ab : Asc fs := by rw [← hfs]; exact wf_asc W2.out
          have pb : Pos fs := by rw [← hfs]; exact wf_pos W2.out
          have He : Hid (A.zip C = es) := hes
          have Hf : Hid (B.zip D = fs) := hfs
          have ne : es.length ≤ 4096 := by omega
          have nf : fs.length ≤ 4096 := by omega
          have Hle : Hid (es.length = nC) := le
          have Hlf : Hid (fs.length = mC) := lf
          clear hes hfs le lf
          go_wp2_with fail
          refine (clock15 ao1 ao2 _ c1 c2 A C _ h1 hA hCn r1' r2').mono ?_
          rintro e w5 ⟨p1, g1, rfl, k1, _, _, b5⟩
          rw [He.out] at k1
          have B5 := below_step B4 b5
          go_wp2_with fail
          refine (clock15 ao3 ao4 _ c3 c4 B D _ h3 hB hDn (r3'.later b5) (r4.later b5)).mono ?_
          rintro e w6 ⟨p2, g2, rfl, k2, _, _, b6⟩
          rw [Hf.out] at k2
          have B6 := below_step B5 b6
          have k1' := k1.below b6
          have s1 := (r1'.later b5).later b6
          have s2 := (r2'.later b5).later b6
          have s3 := (r3'.later b5).later b6
          have s4 := (r4.later b5).later b6
          clear r1' r2' r3' r4 k1 b5 b6 B4 B5
          go_wp2_with fail
          refine (compare24 p1 g1 _ p2 g2 _ es fs _ (by omega) (by omega) k1' k2 aa ab pa pb).mono ?_
          rintro e w7 ⟨v, rfl, hv, d3, rfl⟩
          have HV : Hid (IsVerdict v es fs) := hv
          clear hv
          go_wp2_with fail
          refine (clock15 ao1 ao2 _ c1 c2 A C _ h1 hA hCn (s1.drewN _) (s2.drewN _)).mono ?_
          rintro e w8 ⟨p3, g3, rfl, k3, hp3, hg3, b8⟩
          rw [He.out] at k3
          have B8 := below_step (below_drewN B6 d3) b8
          have k1'' := (k1'.drewN d3).below b8
          have k2'' := (k2.drewN d3).below b8
          have l1 := k1'.lt
          have l2 := k2.lt
          have t3 := (s3.drewN d3).later b8
          have t4 := (s4.drewN d3).later b8
          have hsz : w6.heap.size ≤ p3 ∧ w6.heap.size ≤ g3 := ⟨hp3, hg3⟩
          clear s1 s2 s3 s4 k1' k2 hp3 hg3
          go_wp2_with fail
          refine (clock15 ao3 ao4 _ c3 c4 B D _ h3 hB hDn t3 t4).mono ?_
          rintro e w9 ⟨p4, g4, rfl, k4, hp4, hg4, b9⟩
          rw [Hf.out] at k4
          have B9 := below_step B8 b9
          have l3 := k3.lt
          have k1 := k1''.below b9
          have k2 := k2''.below b9
          have k3' := k3.below b9
          clear k1'' k2'' k3 b9 b8 t3 t4
          go_wp2_with fail
          refine (merge16 p3 g3 _ p4 g4 _ es fs _ (by omega) (by omega) k3' k4 aa ab (.inl (by omega)) (fun _ => Hle.out.symm)).mono ?_
          rintro e w10 ⟨rfl, g', c', km, hg', hkept⟩
          have hw6 : w.heap.size ≤ w6.heap.size := B6.size
          have BK : Below w.heap.size w w10 := B9.trans (hkept.toBelow B9.size (by omega) (by omega))
          have k1m := k1.kept hkept (by omega) (by omega) (by omega) (by omega)
          have k2m := k2.kept hkept (by omega) (by omega) (by omega) (by omega)
          have am := merged_asc aa ab
          have pm := merged_pos aa ab pa pb
          have lm := merged_length es fs aa ab
          have Hua : ∀ u, IsVerdict u es (merged es fs) → Hid (u = ubA v) := fun u hu => ub_a aa ab HV.out hu
          have Hub : ∀ u, IsVerdict u fs (merged es fs) → Hid (u = ubB v) := fun u hu => ub_b aa ab HV.out hu
          have hvv := verdict_vals HV.out
          clear k1 k2 k3' k4 hkept B6 B8 B9 HV
          go_wp2_with fail
          refine (compare24 p1 g1 _ p3 g' _ es _ _ (by omega) (by omega) k1m km aa am pa pm).mono ?_
          rintro e w11 ⟨va, rfl, hva, d5, rfl⟩
          have hva' := Hua va hva
          clear hva Hua
          rcases hvv with rfl | rfl | rfl | rfl
          all_goals
            have hva'' := hva'.out
            simp [ubA] at hva''
            subst hva''
            clear hva'
            go_wp2_with fail
            refine (compare24 p2 g2 _ p3 g' _ fs _ _ (by omega) (by omega) (k2m.drewN d5) (km.drewN d5) ab am pb pm).mono ?_
            rintro e w12 ⟨vb, rfl, hvb, d6, rfl⟩
            have hvb' := (Hub vb hvb).out
            simp [ubB] at hvb'
            subst hvb'
            clear hvb Hub
            go_wp2_with fail
            go_ret
            exact ⟨rfl, below_drewN BK _⟩
end Go.Proofs.Qxb6602088a
