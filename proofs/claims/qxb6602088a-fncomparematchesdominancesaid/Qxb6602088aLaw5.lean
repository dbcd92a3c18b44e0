/-
  Seat b6602088a. FnCompareMatchesDominance (5): the walk of the law, out of its callees' contracts.
-/
import Derived.Test.Qxb6602088aShare
import Derived.Test.Qxb6602088aLook
namespace Go.Proofs.Qxb6602088a
open Go.RowKit

theorem zip_fst {A : List ByteArray} {C : List Nat} {es : List E} (h : A.zip C = es) (hl : A.length = C.length) : es.map (·.1) = A := by
  rw [← h]
  exact List.map_fst_zip (by omega)
theorem zip_snd {A : List ByteArray} {C : List Nat} {es : List E} (h : A.zip C = es) (hl : A.length = C.length) : es.map (·.2) = C := by
  rw [← h]
  exact List.map_snd_zip (by omega)

theorem dom_of {es fs : List E} (ha : Asc es) (hb : Asc fs) {v : Int} (h : IsVerdict v es fs) :
    (v = 1 ∧ domB es fs = true ∧ domB fs es = true) ∨ (v = 2 ∧ domB es fs = true ∧ domB fs es = false) ∨ (v = 3 ∧ domB es fs = false ∧ domB fs es = true) ∨ (v = 4 ∧ domB es fs = false ∧ domB fs es = false) := by
  have h1 := domB_iff (fs := fs) ha
  have h2 := domB_iff (fs := es) hb
  unfold IsVerdict at h
  cases e1 : domB es fs <;> cases e2 : domB fs es <;> rw [e1] at h1 <;> rw [e2] at h2 <;> simp_all

set_option maxHeartbeats 4000000 in
set_option maxRecDepth 100000 in
theorem walk5 (aoA aoC boA boC : Option Addr) (nA nC mA mC cA cC dA dC : Nat) (A B : List ByteArray) (C D : List Nat) (w : World) (I : ClkArgs w aoA aoC boA boC nA nC mA mC A B C D) :
    Calls Try.prog 5 #[.slice aoA nA cA, .slice aoC nC cC, .slice boA mA dA, .slice boC mC dC] w fun e w' => e = .returned (.bool true) ∧ Below w.heap.size w w' := by
  obtain ⟨hnA, hnC, hmA, hmC, hA, hC, hB, hD, hsA, hsB, rA, rC, rB, rD⟩ := I
  go_enter Try.func5, Try.ntmps5
  go_wp2_with fail
  refine (zz23 aoA aoC boA boC nA nC mA mC cA cC dA dC A B _ hnA hnC hmA hmC hA hB hsA hsB rA rB).mono ?_
  rintro e w' ⟨⟨z, rfl⟩, rfl⟩
  cases z with
  | false =>
    go_wp2_with fail
    go_ret
    exact ⟨rfl, Below.refl _ _⟩
  | true =>
    go_wp2_with fail
    by_cases h4 : nA ≤ 4096 ∧ nC ≤ 4096 ∧ mA ≤ 4096 ∧ mC ≤ 4096
    case neg =>
      refine (big11_no aoA aoC boA boC nA nC mA mC cA cC dA dC _ hnA hnC hmA hmC h4).mono ?_
      rintro e w' ⟨rfl, rfl⟩
      clear h4
      go_wp2_with fail
      go_ret
      exact ⟨rfl, Below.refl _ _⟩
    obtain ⟨h1, h2, h3, h4⟩ := h4
    refine (big11 aoA aoC boA boC nA nC mA mC cA cC dA dC A B _ h1 h2 h3 h4 hA hB hsA hsB rA rB).mono ?_
    rintro e w' ⟨z, rfl, rfl⟩
    cases z with
    | true =>
      go_wp2_with fail
      go_ret
      exact ⟨rfl, Below.refl _ _⟩
    | false =>
      go_wp2_with fail
      refine (wf12 aoA aoC nA nC cA cC A C _ (by omega) hnC hA hC hsA rA rC).mono ?_
      rintro e w' ⟨z, rfl, hw1, d1, rfl⟩
      cases z with
      | false =>
        clear hw1
        go_wp2_with fail
        go_ret
        exact ⟨rfl, below_drewN (Below.refl _ _) _⟩
      | true =>
        have W1 : Hid (WF A C) := hw1.1 rfl
        clear hw1
        go_wp2_with fail
        refine (wf12 boA boC mA mC dA dC B D _ (by omega) hmC hB hD hsB (rB.drewN d1) (rD.drewN d1)).mono ?_
        rintro e w' ⟨z, rfl, hw2, d2, rfl⟩
        cases z with
        | false =>
          clear hw2
          go_wp2_with fail
          go_ret
          exact ⟨rfl, below_drewN (Below.refl _ _) _⟩
        | true =>
          have W2 : Hid (WF B D) := hw2.1 rfl
          clear hw2
          have hCn : C.length = nA := by have := W1.out.1; omega
          have hDn : D.length = mA := by have := W2.out.1; omega
          have e1 : nC = nA := by omega
          have e2 : mC = mA := by omega
          subst e1 e2
          rw [World.drewN_drewN]
          have b0 : Below w.heap.size w (w.drewN (d1 + d2)) := below_drewN (Below.refl _ _) _
          go_wp2_with fail
          refine (clone13 aoA _ cA A _ h1 hA (rA.drewN (d1 + d2))).mono ?_
          rintro e w1 ⟨ao1, c1, rfl, r1, b1⟩
          have b1' := below_step b0 b1
          go_wp2_with fail
          refine (clone14 aoC _ cC C _ h1 hCn (rC.later b1')).mono ?_
          rintro e w2 ⟨ao2, c2, rfl, r2, b2⟩
          have b2' := below_step b1' b2
          go_wp2_with fail
          refine (clone13 boA _ dA B _ h3 hB (rB.later b2')).mono ?_
          rintro e w3 ⟨ao3, c3, rfl, r3, b3⟩
          have b3' := below_step b2' b3
          go_wp2_with fail
          refine (clone14 boC _ dC D _ h3 hDn (rD.later b3')).mono ?_
          rintro e w4 ⟨ao4, c4, rfl, r4, b4⟩
          have B4 := below_step b3' b4
          have r1' := ((r1.later b2).later b3).later b4
          have r2' := (r2.later b3).later b4
          have r3' := r3.later b4
          clear r1 r2 r3 b0 b1 b2 b3 b4 b1' b2' b3' rA rB rC rD hnA hnC hmA hmC hsA hsB
          generalize hes : A.zip C = es
          generalize hfs : B.zip D = fs
          have le : es.length = nC := by rw [← hes]; simp [hA, hCn]
          have lf : fs.length = mC := by rw [← hfs]; simp [hB, hDn]
          have aa : Asc es := by rw [← hes]; exact wf_asc W1.out
          have pa : Pos es := by rw [← hes]; exact wf_pos W1.out
          have ab : Asc fs := by rw [← hfs]; exact wf_asc W2.out
          have pb : Pos fs := by rw [← hfs]; exact wf_pos W2.out
          have He : Hid (A.zip C = es) := hes
          have Hf : Hid (B.zip D = fs) := hfs
          have ne : es.length ≤ 4096 := by omega
          have nf : fs.length ≤ 4096 := by omega
          have Hle : Hid (es.length = nC) := le
          have Hlf : Hid (fs.length = mC) := lf
          clear hes hfs le lf
          have eA : es.map (·.1) = A := zip_fst He.out (by omega)
          have eC : es.map (·.2) = C := zip_snd He.out (by omega)
          have fA : fs.map (·.1) = B := zip_fst Hf.out (by omega)
          have fC : fs.map (·.2) = D := zip_snd Hf.out (by omega)
          have HeA : Hid (es.map (·.1) = A) := eA
          have HeC : Hid (es.map (·.2) = C) := eC
          have HfA : Hid (fs.map (·.1) = B) := fA
          have HfC : Hid (fs.map (·.2) = D) := fC
          clear eA eC fA fC
          go_wp2_with fail
          refine (clock15 ao1 ao2 _ c1 c2 A C _ h1 hA hCn r1' r2').mono ?_
          rintro e w5 ⟨p1, g1, rfl, k1, _, _, b5⟩
          rw [He.out] at k1
          have B5 := below_step B4 b5
          go_wp2_with fail
          refine (clock15 ao3 ao4 _ c3 c4 B D _ h3 hB hDn (r3'.later b5) (r4.later b5)).mono ?_
          rintro e w6 ⟨p2, g2, rfl, k2, _, _, b6⟩
          rw [Hf.out] at k2
          have B6 := below_step B5 b6
          have k1' := k1.below b6
          have s1 := (r1'.later b5).later b6
          have s2 := (r2'.later b5).later b6
          have s3 := (r3'.later b5).later b6
          have s4 := (r4.later b5).later b6
          clear r1' r2' r3' r4 k1 b5 b6 B4 B5
          go_wp2_with fail
          refine (compare24 p1 g1 _ p2 g2 _ es fs _ (by omega) (by omega) k1' k2 aa ab pa pb).mono ?_
          rintro e w7 ⟨v, rfl, hv, d3, rfl⟩
          have hd := dom_of aa ab hv
          clear hv
          go_wp2_with fail
          refine (dom25 ao1 ao2 ao3 ao4 _ _ c1 c2 c3 c4 A B C D _ (by omega) (by omega) hA hCn hB hDn (s1.drewN _) (s2.drewN _) (s3.drewN _) (s4.drewN _)).mono ?_
          rintro e w8 ⟨rfl, d4, rfl⟩
          rw [He.out, Hf.out]
          go_wp2_with fail
          refine (dom25 ao3 ao4 ao1 ao2 _ _ c3 c4 c1 c2 B A D C _ (by omega) (by omega) hB hDn hA hCn (s3.drewN _) (s4.drewN _) (s1.drewN _) (s2.drewN _)).mono ?_
          rintro e w9 ⟨rfl, d5, rfl⟩
          rw [He.out, Hf.out]
          generalize domB es fs = up at *
          generalize domB fs es = down at *
          rcases hd with ⟨rfl, rfl, rfl⟩ | ⟨rfl, rfl, rfl⟩ | ⟨rfl, rfl, rfl⟩ | ⟨rfl, rfl, rfl⟩
          all_goals
            go_wp2_with fail
            refine (entries17 p1 g1 _ es _ (by omega) (k1'.drewN _)).mono ?_
            rintro e w10 ⟨xA, xC, ex, ey, rfl, vA, vC, b10⟩
            rw [HeA.out] at vA
            rw [HeC.out] at vC
            have B10 := below_step (below_drewN B6 _) b10
            go_wp2_with fail
            refine (entries17 p2 g2 _ fs _ (by omega) ((k2.drewN _).below b10)).mono ?_
            rintro e w11 ⟨yA, yC, fx, fy, rfl, uA, uC, b11⟩
            rw [HfA.out] at uA
            rw [HfC.out] at uC
            have B11 := below_step B10 b11
            rw [Hle.out, Hlf.out]
            go_wp2_with fail
            refine (same21 xA xC ao1 ao2 _ _ ex ey c1 c2 A C _ (by omega) (by omega) hA hCn (vA.later b11) (vC.later b11) (((s1.drewN _).later b10).later b11) (((s2.drewN _).later b10).later b11)).mono ?_
            rintro e w12 ⟨rfl, d6, rfl⟩
            go_wp2_with fail
            refine (same21 yA yC ao3 ao4 _ _ fx fy c3 c4 B D _ (by omega) (by omega) hB hDn (uA.drewN _) (uC.drewN _) ((((s3.drewN _).later b10).later b11).drewN _) ((((s4.drewN _).later b10).later b11).drewN _)).mono ?_
            rintro e w13 ⟨rfl, d7, rfl⟩
            go_wp2_with fail
            go_ret
            exact ⟨rfl, below_drewN B11 _⟩
end Go.Proofs.Qxb6602088a
