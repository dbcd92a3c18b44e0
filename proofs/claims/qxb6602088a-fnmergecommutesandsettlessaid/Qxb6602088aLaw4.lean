/-
  Seat b6602088a. FnMergeCommutesAndSettles (4): the walk of the law, out of its callees' contracts.
-/
import Derived.Test.Qxb6602088aShare
import Derived.Test.Qxb6602088aMerge
import Derived.Test.Qxb6602088aMshare
import Derived.Test.Qxb6602088aClk2
import Derived.Test.Qxb6602088aLook
namespace Go.Proofs.Qxb6602088a
open Go.RowKit

theorem kept_below {w x y : World} {b g : Nat} (h : Below w.heap.size w x) (k : Kept x y b g) (hb : w.heap.size ≤ b) (hg : w.heap.size ≤ g) : Below w.heap.size w y := h.trans (k.toBelow h.size hb hg)

set_option maxHeartbeats 4000000 in
set_option maxRecDepth 100000 in
theorem walk4 (aoA aoC boA boC : Option Addr) (nA nC mA mC cA cC dA dC : Nat) (A B : List ByteArray) (C D : List Nat) (w : World) (I : ClkArgs w aoA aoC boA boC nA nC mA mC A B C D) :
    Calls Try.prog 4 #[.slice aoA nA cA, .slice aoC nC cC, .slice boA mA dA, .slice boC mC dC] w fun e w' => e = .returned (.bool true) ∧ Below w.heap.size w w' := by
  obtain ⟨hnA, hnC, hmA, hmC, hA, hC, hB, hD, hsA, hsB, rA, rC, rB, rD⟩ := I
  go_enter Try.func4, Try.ntmps4
  go_wp2_with fail
  refine (zz22 aoA aoC boA boC nA nC mA mC cA cC dA dC A B _ hnA hnC hmA hmC hA hB hsA hsB rA rB).mono ?_
  rintro e w' ⟨⟨z, rfl⟩, rfl⟩
  cases z with
  | false =>
    go_wp2_with fail
    go_ret
    exact ⟨rfl, Below.refl _ _⟩
  | true =>
    go_wp2_with fail
    by_cases h4 : nA ≤ 4096 ∧ nC ≤ 4096 ∧ mA ≤ 4096 ∧ mC ≤ 4096
    case neg =>
      refine (big11_no aoA aoC boA boC nA nC mA mC cA cC dA dC _ hnA hnC hmA hmC h4).mono ?_
      rintro e w' ⟨rfl, rfl⟩
      clear h4
      go_wp2_with fail
      go_ret
      exact ⟨rfl, Below.refl _ _⟩
    obtain ⟨h1, h2, h3, h4⟩ := h4
    refine (big11 aoA aoC boA boC nA nC mA mC cA cC dA dC A B _ h1 h2 h3 h4 hA hB hsA hsB rA rB).mono ?_
    rintro e w' ⟨z, rfl, rfl⟩
    cases z with
    | true =>
      go_wp2_with fail
      go_ret
      exact ⟨rfl, Below.refl _ _⟩
    | false =>
      go_wp2_with fail
      refine (wf12 aoA aoC nA nC cA cC A C _ (by omega) hnC hA hC hsA rA rC).mono ?_
      rintro e w' ⟨z, rfl, hw1, d1, rfl⟩
      cases z with
      | false =>
        clear hw1
        go_wp2_with fail
        go_ret
        exact ⟨rfl, below_drewN (Below.refl _ _) _⟩
      | true =>
        have W1 : Hid (WF A C) := hw1.1 rfl
        clear hw1
        go_wp2_with fail
        refine (wf12 boA boC mA mC dA dC B D _ (by omega) hmC hB hD hsB (rB.drewN d1) (rD.drewN d1)).mono ?_
        rintro e w' ⟨z, rfl, hw2, d2, rfl⟩
        cases z with
        | false =>
          clear hw2
          go_wp2_with fail
          go_ret
          exact ⟨rfl, below_drewN (Below.refl _ _) _⟩
        | true =>
          have W2 : Hid (WF B D) := hw2.1 rfl
          clear hw2
          have hCn : C.length = nA := by have := W1.out.1; omega
          have hDn : D.length = mA := by have := W2.out.1; omega
          have e1 : nC = nA := by omega
          have e2 : mC = mA := by omega
          subst e1 e2
          rw [World.drewN_drewN]
          have b0 : Below w.heap.size w (w.drewN (d1 + d2)) := below_drewN (Below.refl _ _) _
          go_wp2_with fail
          refine (clone13 aoA _ cA A _ h1 hA (rA.drewN (d1 + d2))).mono ?_
          rintro e w1 ⟨ao1, c1, rfl, r1, b1⟩
          have b1' := below_step b0 b1
          go_wp2_with fail
          refine (clone14 aoC _ cC C _ h1 hCn (rC.later b1')).mono ?_
          rintro e w2 ⟨ao2, c2, rfl, r2, b2⟩
          have b2' := below_step b1' b2
          go_wp2_with fail
          refine (clone13 boA _ dA B _ h3 hB (rB.later b2')).mono ?_
          rintro e w3 ⟨ao3, c3, rfl, r3, b3⟩
          have b3' := below_step b2' b3
          go_wp2_with fail
          refine (clone14 boC _ dC D _ h3 hDn (rD.later b3')).mono ?_
          rintro e w4 ⟨ao4, c4, rfl, r4, b4⟩
          have B4 := below_step b3' b4
          have r1' := ((r1.later b2).later b3).later b4
          have r2' := (r2.later b3).later b4
          have r3' := r3.later b4
          clear r1 r2 r3 b0 b1 b2 b3 b4 b1' b2' b3' rA rB rC rD hnA hnC hmA hmC hsA hsB
          generalize hes : A.zip C = es
          generalize hfs : B.zip D = fs
          have le : es.length = nC := by rw [← hes]; simp [hA, hCn]
          have lf : fs.length = mC := by rw [← hfs]; simp [hB, hDn]
          have aa : Asc es := by rw [← hes]; exact wf_asc W1.out
          have pa : Pos es := by rw [← hes]; exact wf_pos W1.out
          have ab : Asc fs := by rw [← hfs]; exact wf_asc W2.out
          have pb : Pos fs := by rw [← hfs]; exact wf_pos W2.out
          have He : Hid (A.zip C = es) := hes
          have Hf : Hid (B.zip D = fs) := hfs
          have ne : es.length ≤ 4096 := by omega
          have nf : fs.length ≤ 4096 := by omega
          have Hle : Hid (es.length = nC) := le
          have Hlf : Hid (fs.length = mC) := lf
          clear hes hfs le lf
          have BB := Below.refl w4.heap.size w4
          go_wp2_with fail
          refine (clock15 ao1 ao2 _ c1 c2 A C _ h1 hA hCn r1' r2').mono ?_
          rintro e w5 ⟨p1, g1, rfl, k1, hp1, hg1, b5⟩
          rw [He.out] at k1
          have B5 := below_step BB b5
          go_wp2_with fail
          refine (clock15 ao3 ao4 _ c3 c4 B D _ h3 hB hDn (r3'.later B5) (r4.later B5)).mono ?_
          rintro e w6 ⟨p2, g2, rfl, k2, hp2, hg2, b6⟩
          rw [Hf.out] at k2
          have B6 := below_step B5 b6
          have l1 := k1.lt
          have k1' := k1.below b6
          have z6 := b6.size
          go_wp2_with fail
          refine (merge16 p1 g1 _ p2 g2 _ es fs _ (by omega) (by omega) k1' k2 aa ab (.inl (by omega)) (fun _ => Hle.out.symm)).mono ?_
          rintro e w7 ⟨rfl, gm, cm, km, hgm, kp7⟩
          have B7 := kept_below B6 kp7 (by omega) (by omega)
          have hgm' : w4.heap.size ≤ gm := by have := B6.size; omega
          have am := merged_asc aa ab
          have pm := merged_pos aa ab pa pb
          have lm := merged_length es fs aa ab
          have Hcm := merged_comm aa ab pa pb
          have sE := absorb am aa pm pa (fun x => by rw [merged_lk aa ab]; omega)
          have sF := absorb am ab pm pb (fun x => by rw [merged_lk aa ab]; omega)
          have sM := absorb am am pm pm (fun x => Nat.le_refl _)
          have HCM : Hid (merged fs es = merged es fs) := Hcm
          have HE0 : Hid ((raise (merged es fs) es).2 = 0) := sE.1
          have HE1 : Hid (merged (merged es fs) es = merged es fs) := sE.2
          have HF0 : Hid ((raise (merged es fs) fs).2 = 0) := sF.1
          have HF1 : Hid (merged (merged es fs) fs = merged es fs) := sF.2
          have HM0 : Hid ((raise (merged es fs) (merged es fs)).2 = 0) := sM.1
          have HM1 : Hid (merged (merged es fs) (merged es fs) = merged es fs) := sM.2
          clear Hcm sE sF sM k1 k1' k2 b5 b6 kp7 hgm
          generalize merged es fs = M at *
          have lM := km.lt
          go_wp2_with fail
          refine (clock15 ao3 ao4 _ c3 c4 B D _ h3 hB hDn (r3'.later B7) (r4.later B7)).mono ?_
          rintro e w8 ⟨p3, g3, rfl, k3, hp3, hg3, b8⟩
          rw [Hf.out] at k3
          have B8 := below_step B7 b8
          have km8 := km.below b8
          have l3 := k3.lt
          have z8 := b8.size
          go_wp2_with fail
          refine (clock15 ao1 ao2 _ c1 c2 A C _ h1 hA hCn (r1'.later B8) (r2'.later B8)).mono ?_
          rintro e w9 ⟨p4, g4, rfl, k4, hp4, hg4, b9⟩
          rw [He.out] at k4
          have B9 := below_step B8 b9
          have km9 := km8.below b9
          have k3' := k3.below b9
          have z9 := b9.size
          have z7 := B7.size
          go_wp2_with fail
          refine (merge16 p3 g3 _ p4 g4 _ fs es _ (by omega) (by omega) k3' k4 ab aa (.inl (by omega)) (fun _ => Hlf.out.symm)).mono ?_
          rintro e w10 ⟨rfl, gn, cn, kn, hgn, kp10⟩
          rw [HCM.out] at kn
          have B10 := kept_below B9 kp10 (by omega) (by omega)
          have km10 := km9.kept kp10 (by omega) (by omega) (by omega) (by omega)
          clear km km8 km9 k3 k3' k4 b8 b9 kp10 hgn
          have lN := kn.lt
          go_wp2_with fail
          refine (entries17f p1 gm cm M _ (by omega) km10).mono ?_
          rintro e w11 ⟨aA, aC, eA, eC, rfl, qA, qC, b11, fA, fC⟩
          have B11 := below_step B10 b11
          have km11 := km10.below b11
          have kn11 := kn.below b11
          go_wp2_with fail
          refine (entries17f p3 gn cn M _ (by omega) kn11).mono ?_
          rintro e w12 ⟨nA', nC', eA', eC', rfl, uA, uC, b12, _, _⟩
          have B12 := below_step B11 b12
          have km12 := km11.below b12
          have qA12 := qA.later b12
          have qC12 := qC.later b12
          go_wp2_with fail
          refine (same21 aA aC nA' nC' _ _ eA eC eA' eC' (M.map (·.1)) (M.map (·.2)) _ (by omega) (by omega) (by simp) (by simp) qA12 qC12 uA uC).mono ?_
          rintro e w13 ⟨rfl, d13, rfl⟩
          have B13 := below_drewN B12 d13
          have km13 := km12.drewN d13
          have qA13 := qA12.drewN d13
          have qC13 := qC12.drewN d13
          have z12 := b12.size
          have z11 := b11.size
          have lM10 := km10.lt
          clear km10 km11 km12 kn kn11 qA qC qA12 qC12 uA uC b11 b12 B5 B6 B7 B8 B9 B10 B11 B12
          go_wp2_with fail
          refine (clock15 ao3 ao4 _ c3 c4 B D _ h3 hB hDn (r3'.later B13) (r4.later B13)).mono ?_
          rintro e wsa ⟨ps, gs, rfl, kas, hps, hgs, bs⟩
          rw [Hf.out] at kas
          have Bas := below_step B13 bs
          have kmas := km13.below bs
          have qAas := qA13.later bs
          have qCas := qC13.later bs
          have ls := km13.lt
          have zs := bs.size
          have zzs := B13.size
          go_wp2_with fail
          refine (merge16 p1 gm cm ps gs _ M fs _ (by omega) (by omega) kmas kas am ab (.inl (by omega)) (fun h => absurd HF0.out h)).mono ?_
          rintro e wsb ⟨rfl, gms, cms, kmbs, hgms, kps⟩
          rw [HF1.out] at kmbs
          have Bbs := kept_below Bas kps (by omega) (by omega)
          have qAbs := qAas.kept kps (fun x hx => by have := fA x hx; omega)
          have qCbs := qCas.kept kps (fun x hx => by have := fC x hx; omega)
          have hgws : w4.heap.size ≤ gms := by omega
          have hgfs : gms < w10.heap.size ∨ w11.heap.size ≤ gms := by simp only [World.heap_drewN] at *; omega
          go_wp2_with fail
          refine (entries17f p1 gms cms M _ (by omega) kmbs).mono ?_
          rintro e wsc ⟨xAs, xCs, exs, eys, rfl, vAs, vCs, cs, _, _⟩
          have Bcs := below_step Bbs cs
          have kmcs := kmbs.below cs
          have qAcs := qAbs.later cs
          have qCcs := qCbs.later cs
          have zcs := cs.size
          have zks := kps.size
          go_wp2_with fail
          refine (same21 xAs xCs aA aC _ _ exs eys eA eC (M.map (·.1)) (M.map (·.2)) _ (by omega) (by omega) (by simp) (by simp) vAs vCs qAcs qCcs).mono ?_
          rintro e wsd ⟨rfl, ds, rfl⟩
          have Bs := below_drewN Bcs ds
          have kms := kmcs.drewN ds
          have qAs := qAcs.drewN ds
          have qCs := qCcs.drewN ds
          clear kmas kmbs kmcs qAas qAbs qAcs qCas qCbs qCcs vAs vCs kas bs cs kps Bas Bbs Bcs km13 qA13 qC13 hgms
          go_wp2_with fail
          refine (clock15 ao1 ao2 _ c1 c2 A C _ h1 hA hCn (r1'.later Bs) (r2'.later Bs)).mono ?_
          rintro e wua ⟨pu, gu, rfl, kau, hpu, hgu, bu⟩
          rw [He.out] at kau
          have Bau := below_step Bs bu
          have kmau := kms.below bu
          have qAau := qAs.later bu
          have qCau := qCs.later bu
          have lu := kms.lt
          have zu := bu.size
          have zzu := Bs.size
          go_wp2_with fail
          refine (merge16 p1 gms cms pu gu _ M es _ (by omega) (by omega) kmau kau am aa (.inl (by omega)) (fun h => absurd HE0.out h)).mono ?_
          rintro e wub ⟨rfl, gmu, cmu, kmbu, hgmu, kpu⟩
          rw [HE1.out] at kmbu
          have Bbu := kept_below Bau kpu (by omega) (by omega)
          have qAbu := qAau.kept kpu (fun x hx => by have := fA x hx; omega)
          have qCbu := qCau.kept kpu (fun x hx => by have := fC x hx; omega)
          have hgwu : w4.heap.size ≤ gmu := by omega
          have hgfu : gmu < w10.heap.size ∨ w11.heap.size ≤ gmu := by simp only [World.heap_drewN] at *; omega
          go_wp2_with fail
          refine (entries17f p1 gmu cmu M _ (by omega) kmbu).mono ?_
          rintro e wuc ⟨xAu, xCu, exu, eyu, rfl, vAu, vCu, cu, _, _⟩
          have Bcu := below_step Bbu cu
          have kmcu := kmbu.below cu
          have qAcu := qAbu.later cu
          have qCcu := qCbu.later cu
          have zcu := cu.size
          have zku := kpu.size
          go_wp2_with fail
          refine (same21 xAu xCu aA aC _ _ exu eyu eA eC (M.map (·.1)) (M.map (·.2)) _ (by omega) (by omega) (by simp) (by simp) vAu vCu qAcu qCcu).mono ?_
          rintro e wud ⟨rfl, du, rfl⟩
          have Bu := below_drewN Bcu du
          have kmu := kmcu.drewN du
          have qAu := qAcu.drewN du
          have qCu := qCcu.drewN du
          clear kmau kmbu kmcu qAau qAbu qAcu qCau qCbu qCcu vAu vCu kau bu cu kpu Bau Bbu Bcu kms qAs qCs hgmu
          go_wp2_with fail
          refine (merge16 p1 gmu cmu p1 gmu cmu M M _ (by omega) (by omega) kmu kmu am am (.inr ⟨rfl, rfl, rfl, rfl⟩) (fun h => absurd HM0.out h)).mono ?_
          rintro e wv ⟨rfl, gmv, cmv, kmv, hgmv, kpv⟩
          rw [HM1.out] at kmv
          have lmu := kmu.lt
          have Bv := kept_below Bu kpv (by omega) (by omega)
          have qAv := qAu.kept kpv (fun x hx => by have := fA x hx; omega)
          have qCv := qCu.kept kpv (fun x hx => by have := fC x hx; omega)
          go_wp2_with fail
          refine (entries17f p1 gmv cmv M _ (by omega) kmv).mono ?_
          rintro e wz ⟨xAv, xCv, exv, eyv, rfl, vAv, vCv, cv, _, _⟩
          have Bz := below_step Bv cv
          go_wp2_with fail
          refine (same21 xAv xCv aA aC _ _ exv eyv eA eC (M.map (·.1)) (M.map (·.2)) _ (by omega) (by omega) (by simp) (by simp) vAv vCv (qAv.later cv) (qCv.later cv)).mono ?_
          rintro e wzz ⟨rfl, dz, rfl⟩
          go_wp2_with fail
          go_ret
          exact ⟨rfl, below_drewN (below_step B4 Bz) _⟩
end Go.Proofs.Qxb6602088a
