/-
  Seat b6602088a. FnMergeIsEntrywiseMax (3): the walk of the law, out of its callees' contracts.
-/
import Derived.Test.Qxb6602088aShare
import Derived.Test.Qxb6602088aMerge
import Derived.Test.Qxb6602088aMshare
import Derived.Test.Qxb6602088aClk2
import Derived.Test.Qxb6602088aLook
namespace Go.Proofs.Qxb6602088a
open Go.RowKit

theorem zip_fst' {A : List ByteArray} {C : List Nat} {es : List E} (h : A.zip C = es) (hl : A.length = C.length) : es.map (·.1) = A := by
  rw [← h]
  exact List.map_fst_zip (by omega)
theorem zip_snd' {A : List ByteArray} {C : List Nat} {es : List E} (h : A.zip C = es) (hl : A.length = C.length) : es.map (·.2) = C := by
  rw [← h]
  exact List.map_snd_zip (by omega)
theorem zip_self (l : List E) : (l.map (·.1)).zip (l.map (·.2)) = l := by
  induction l with
  | nil => rfl
  | cons a l ih => simp [ih]

theorem merged_names {es fs : List E} (ha : Asc es) (hb : Asc fs) (pa : Pos es) (pb : Pos fs) {e : E} (he : e ∈ merged es fs) : e.1 ∈ es.map (·.1) ∨ e.1 ∈ fs.map (·.1) := by
  have h1 := lk_mem (merged_asc ha hb) he
  have h2 := merged_pos ha hb pa pb e he
  rw [merged_lk ha hb] at h1
  by_cases h : lk es e.1 = 0
  · obtain ⟨f, hf, h3, _⟩ := lk_ne_zero (l := fs) (x := e.1) (by omega)
    exact .inr (List.mem_map.2 ⟨f, hf, h3⟩)
  · obtain ⟨f, hf, h3, _⟩ := lk_ne_zero (l := es) (x := e.1) h
    exact .inl (List.mem_map.2 ⟨f, hf, h3⟩)

set_option maxHeartbeats 4000000 in
set_option maxRecDepth 100000 in
theorem walk3 (aoA aoC boA boC : Option Addr) (nA nC mA mC cA cC dA dC : Nat) (A B : List ByteArray) (C D : List Nat) (w : World) (I : ClkArgs w aoA aoC boA boC nA nC mA mC A B C D) :
    Calls Try.prog 3 #[.slice aoA nA cA, .slice aoC nC cC, .slice boA mA dA, .slice boC mC dC] w fun e w' => e = .returned (.bool true) ∧ Below w.heap.size w w' := by
  obtain ⟨hnA, hnC, hmA, hmC, hA, hC, hB, hD, hsA, hsB, rA, rC, rB, rD⟩ := I
  go_enter Try.func3, Try.ntmps3
  go_wp2_with fail
  refine (zz10 aoA aoC boA boC nA nC mA mC cA cC dA dC A B _ hnA hnC hmA hmC hA hB hsA hsB rA rB).mono ?_
  rintro e w' ⟨⟨z, rfl⟩, rfl⟩
  cases z with
  | false =>
    go_wp2_with fail
    go_ret
    exact ⟨rfl, Below.refl _ _⟩
  | true =>
    go_wp2_with fail
    by_cases h4 : nA ≤ 4096 ∧ nC ≤ 4096 ∧ mA ≤ 4096 ∧ mC ≤ 4096
    case neg =>
      refine (big11_no aoA aoC boA boC nA nC mA mC cA cC dA dC _ hnA hnC hmA hmC h4).mono ?_
      rintro e w' ⟨rfl, rfl⟩
      clear h4
      go_wp2_with fail
      go_ret
      exact ⟨rfl, Below.refl _ _⟩
    obtain ⟨h1, h2, h3, h4⟩ := h4
    refine (big11 aoA aoC boA boC nA nC mA mC cA cC dA dC A B _ h1 h2 h3 h4 hA hB hsA hsB rA rB).mono ?_
    rintro e w' ⟨z, rfl, rfl⟩
    cases z with
    | true =>
      go_wp2_with fail
      go_ret
      exact ⟨rfl, Below.refl _ _⟩
    | false =>
      go_wp2_with fail
      refine (wf12 aoA aoC nA nC cA cC A C _ (by omega) hnC hA hC hsA rA rC).mono ?_
      rintro e w' ⟨z, rfl, hw1, d1, rfl⟩
      cases z with
      | false =>
        clear hw1
        go_wp2_with fail
        go_ret
        exact ⟨rfl, below_drewN (Below.refl _ _) _⟩
      | true =>
        have W1 : Hid (WF A C) := hw1.1 rfl
        clear hw1
        go_wp2_with fail
        refine (wf12 boA boC mA mC dA dC B D _ (by omega) hmC hB hD hsB (rB.drewN d1) (rD.drewN d1)).mono ?_
        rintro e w' ⟨z, rfl, hw2, d2, rfl⟩
        cases z with
        | false =>
          clear hw2
          go_wp2_with fail
          go_ret
          exact ⟨rfl, below_drewN (Below.refl _ _) _⟩
        | true =>
          have W2 : Hid (WF B D) := hw2.1 rfl
          clear hw2
          have hCn : C.length = nA := by have := W1.out.1; omega
          have hDn : D.length = mA := by have := W2.out.1; omega
          have e1 : nC = nA := by omega
          have e2 : mC = mA := by omega
          subst e1 e2
          rw [World.drewN_drewN]
          have b0 : Below w.heap.size w (w.drewN (d1 + d2)) := below_drewN (Below.refl _ _) _
          go_wp2_with fail
          refine (clone13 aoA _ cA A _ h1 hA (rA.drewN (d1 + d2))).mono ?_
          rintro e w1 ⟨ao1, c1, rfl, r1, b1⟩
          have b1' := below_step b0 b1
          go_wp2_with fail
          refine (clone14 aoC _ cC C _ h1 hCn (rC.later b1')).mono ?_
          rintro e w2 ⟨ao2, c2, rfl, r2, b2⟩
          have b2' := below_step b1' b2
          go_wp2_with fail
          refine (clone13 boA _ dA B _ h3 hB (rB.later b2')).mono ?_
          rintro e w3 ⟨ao3, c3, rfl, r3, b3⟩
          have b3' := below_step b2' b3
          go_wp2_with fail
          refine (clone14 boC _ dC D _ h3 hDn (rD.later b3')).mono ?_
          rintro e w4 ⟨ao4, c4, rfl, r4, b4⟩
          have B4 := below_step b3' b4
          have r1' := ((r1.later b2).later b3).later b4
          have r2' := (r2.later b3).later b4
          have r3' := r3.later b4
          have HSA : Hid (∀ x, x ∈ A → x.size ≤ maxLen) := fun x hx => by obtain ⟨i, hi, he⟩ := List.mem_iff_getElem.1 hx; exact hsA i x (by rw [List.getElem?_eq_getElem hi, he])
          have HSB : Hid (∀ x, x ∈ B → x.size ≤ maxLen) := fun x hx => by obtain ⟨i, hi, he⟩ := List.mem_iff_getElem.1 hx; exact hsB i x (by rw [List.getElem?_eq_getElem hi, he])
          clear r1 r2 r3 b0 b1 b2 b3 b4 b1' b2' b3' rA rB rC rD hnA hnC hmA hmC hsA hsB
          generalize hes : A.zip C = es
          generalize hfs : B.zip D = fs
          have le : es.length = nC := by rw [← hes]; simp [hA, hCn]
          have lf : fs.length = mC := by rw [← hfs]; simp [hB, hDn]
          have aa : Asc es := by rw [← hes]; exact wf_asc W1.out
          have pa : Pos es := by rw [← hes]; exact wf_pos W1.out
          have ab : Asc fs := by rw [← hfs]; exact wf_asc W2.out
          have pb : Pos fs := by rw [← hfs]; exact wf_pos W2.out
          have He : Hid (A.zip C = es) := hes
          have Hf : Hid (B.zip D = fs) := hfs
          have ne : es.length ≤ 4096 := by omega
          have nf : fs.length ≤ 4096 := by omega
          have Hle : Hid (es.length = nC) := le
          have Hlf : Hid (fs.length = mC) := lf
          clear hes hfs le lf
          have eA : es.map (·.1) = A := zip_fst' He.out (by omega)
          have eC : es.map (·.2) = C := zip_snd' He.out (by omega)
          have fA : fs.map (·.1) = B := zip_fst' Hf.out (by omega)
          have fC : fs.map (·.2) = D := zip_snd' Hf.out (by omega)
          have HeA : Hid (es.map (·.1) = A) := eA
          have HeC : Hid (es.map (·.2) = C) := eC
          have HfA : Hid (fs.map (·.1) = B) := fA
          have HfC : Hid (fs.map (·.2) = D) := fC
          clear eA eC fA fC
          have BB := Below.refl w4.heap.size w4
          go_wp2_with fail
          refine (clock15 ao1 ao2 _ c1 c2 A C _ h1 hA hCn r1' r2').mono ?_
          rintro e w5 ⟨p1, g1, rfl, k1, hp1, hg1, b5⟩
          rw [He.out] at k1
          have B5 := below_step BB b5
          go_wp2_with fail
          refine (clock15 ao3 ao4 _ c3 c4 B D _ h3 hB hDn (r3'.later B5) (r4.later B5)).mono ?_
          rintro e w6 ⟨p2, g2, rfl, k2, hp2, hg2, b6⟩
          rw [Hf.out] at k2
          have B6 := below_step B5 b6
          have l1 := k1.lt
          have k1' := k1.below b6
          have z6 := b6.size
          go_wp2_with fail
          refine (merge16 p1 g1 _ p2 g2 _ es fs _ (by omega) (by omega) k1' k2 aa ab (.inl (by omega)) (fun _ => Hle.out.symm)).mono ?_
          rintro e w7 ⟨rfl, gm, cm, km, hgm, kp7⟩
          have B7 : Below w4.heap.size w4 w7 := B6.trans (kp7.toBelow B6.size (by omega) (by omega))
          have k2' := k2.kept kp7 (by omega) (by omega) (by omega) (by omega)
          have am := merged_asc aa ab
          have pm := merged_pos aa ab pa pb
          have lm := merged_length es fs aa ab
          have hlk := fun x => merged_lk aa ab x
          have hnm := fun e he => merged_names aa ab pa pb (e := e) he
          have HLK : Hid (∀ x, lk (merged es fs) x = max (lk es x) (lk fs x)) := hlk
          have HNM : Hid (∀ e, e ∈ merged es fs → e.1 ∈ es.map (·.1) ∨ e.1 ∈ fs.map (·.1)) := hnm
          have HMS : Hid (∀ (i : Nat) (x : ByteArray), ((merged es fs).map (·.1))[i]? = some x → x.size ≤ maxLen) := by
            intro i x hx
            obtain ⟨e, he, rfl⟩ := List.mem_map.1 (List.mem_of_getElem? hx)
            rcases hnm e he with h | h
            · rw [HeA.out] at h; exact HSA.out _ h
            · rw [HfA.out] at h; exact HSB.out _ h
          have HWF : Hid (WF ((merged es fs).map (·.1)) ((merged es fs).map (·.2))) := wf_of am pm
          clear hlk hnm k1 k1' k2 b5 b6 kp7 hgm
          generalize merged es fs = M at *
          go_wp2_with fail
          refine (entries17 p1 gm cm M _ (by omega) km).mono ?_
          rintro e w8 ⟨xA, xC, ex, ey, rfl, vA, vC, b8⟩
          have B8 := below_step B7 b8
          have k28 := k2'.below b8
          have s1 := r1'.later B8
          have s2 := r2'.later B8
          have s3 := r3'.later B8
          have s4 := r4.later B8
          clear r1' r2' r3' r4 k2' b8 B5 B6 B7 km
          obtain ⟨nM, hnM⟩ : ∃ nM, nM = M.length := ⟨_, rfl⟩
          rw [← hnM]
          have HnM : Hid (nM = M.length) := hnM
          have bM : nM ≤ 8192 := by omega
          clear hnM
          go_wp2_with fail
          refine (wf12 xA xC nM nM ex ey (M.map (·.1)) (M.map (·.2)) _ (by omega) (by unfold maxLen; omega) (by simp [HnM.out]) (by simp [HnM.out]) HMS.out vA vC).mono ?_
          rintro e w9 ⟨z, rfl, hz, d9, rfl⟩
          obtain rfl : z = true := hz.2 HWF.out
          clear hz
          go_wp2_with fail
          go_loopw [13] (fun i wr => ∃ k : Nat, k ≤ nM ∧ i = .int .i64 k ∧ wr = w8.drewN d9) (fun i _ => nM - (intOf i).toNat)
          case atStart => exact ⟨0, Nat.zero_le _, rfl, rfl⟩
          case round =>
            obtain ⟨k, hk, rfl, rfl⟩ := hrel
            by_cases hlt : k < nM
            · obtain ⟨e, he⟩ : ∃ e, M[k]? = some e := ⟨M[k]'(by have := HnM.out; omega), List.getElem?_eq_getElem _⟩
              obtain ⟨bx, ox, hxx, gx⟩ := vA k (.string e.1) (strs_at (by simp [he]))
              have hor : hasB A e.1 = true ∨ (hasB A e.1 = false ∧ hasB B e.1 = true) := by
                rcases HNM.out e (List.mem_of_getElem? he) with h | h
                · rw [HeA.out] at h; exact .inl (hasB_mem.2 h)
                · rw [HfA.out] at h
                  cases hc : hasB A e.1
                  · exact .inr ⟨rfl, hasB_mem.2 h⟩
                  · exact .inl rfl
              have Q1 : ∀ y, Calls Try.prog 18 #[.slice ao1 nC c1, .string e.1] (w8.drewN y) fun e' w' => e' = .returned (.bool (hasB A e.1)) ∧ w8.drewN y = w' := fun y => has18 ao1 _ c1 A e.1 _ (by omega) hA (s1.drewN y)
              have Q2 : ∀ y, Calls Try.prog 18 #[.slice ao3 mC c3, .string e.1] (w8.drewN y) fun e' w' => e' = .returned (.bool (hasB B e.1)) ∧ w8.drewN y = w' := fun y => has18 ao3 _ c3 B e.1 _ (by omega) hB (s3.drewN y)
              have HQ1 : Hid (∀ y, Calls Try.prog 18 #[.slice ao1 nC c1, .string e.1] (w8.drewN y) fun e' w' => e' = .returned (.bool (hasB A e.1)) ∧ w8.drewN y = w') := Q1
              have HQ2 : Hid (∀ y, Calls Try.prog 18 #[.slice ao3 mC c3, .string e.1] (w8.drewN y) fun e' w' => e' = .returned (.bool (hasB B e.1)) ∧ w8.drewN y = w') := Q2
              subst hxx
              clear he Q1 Q2
              rcases hor with ht | ⟨hn, ht⟩
              · rw [ht] at HQ1
                clear ht
                go_wp2_with fail
                refine (HQ1.out _).mono ?_
                rintro e' w' ⟨rfl, rfl⟩
                go_wp2_with fail
                go_roundw
                case rel => exact ⟨k + 1, by omega, by go_num, by first | rfl | trivial⟩
                case measure => simp [intOf]; omega
              · rw [hn] at HQ1
                rw [ht] at HQ2
                clear ht hn
                go_wp2_with fail
                refine (HQ1.out _).mono ?_
                rintro e' w' ⟨rfl, rfl⟩
                go_wp2_with fail
                refine (HQ2.out _).mono ?_
                rintro e' w' ⟨rfl, rfl⟩
                go_wp2_with fail
                go_roundw
                case rel => exact ⟨k + 1, by omega, by go_num, by first | rfl | trivial⟩
                case measure => simp [intOf]; omega
            · go_wp2_with fail
              clear hk hlt
              go_loopw [14] (fun i wr => ∃ k d : Nat, k ≤ nC ∧ i = .int .i64 k ∧ wr = w8.drewN d) (fun i _ => nC - (intOf i).toNat)
              case atStart => exact ⟨0, d9, Nat.zero_le _, rfl, rfl⟩
              case round =>
                obtain ⟨k, d, hk, rfl, rfl⟩ := hrel
                by_cases hlt : k < nC
                · obtain ⟨x, hx⟩ : ∃ x, A[k]? = some x := ⟨A[k]'(by omega), List.getElem?_eq_getElem _⟩
                  obtain ⟨z, hz⟩ : ∃ z, C[k]? = some z := ⟨C[k]'(by omega), List.getElem?_eq_getElem _⟩
                  have hez : lk es x = z := by
                    have h := zip_at hx hz
                    rw [He.out] at h
                    exact lk_mem aa (List.mem_of_getElem? h)
                  obtain ⟨v2, hv2⟩ : ∃ v2, v2 = lk fs x := ⟨_, rfl⟩
                  obtain ⟨u, hu⟩ : ∃ u, u = lk M x := ⟨_, rfl⟩
                  have hmx : max z v2 = u := by rw [hu, HLK.out, hez, hv2]
                  have Q1 : Hid (∀ y, Calls Try.prog 19 #[.slice xA nM ex, .slice xC nM ey, .string x] (w8.drewN y) fun e' w' => e' = .returned (.int .u64 (u : Int)) ∧ w8.drewN y = w') := fun y => by
                    have h := lookup19 xA xC nM ex ey (M.map (·.1)) (M.map (·.2)) x (w8.drewN y) (by omega) (by simp [HnM.out]) (by simp [HnM.out]) (vA.drewN y) (vC.drewN y)
                    rw [zip_self, ← hu] at h
                    exact h
                  have Q2 : Hid (∀ y, Calls Try.prog 19 #[.slice ao3 mC c3, .slice ao4 mC c4, .string x] (w8.drewN y) fun e' w' => e' = .returned (.int .u64 (v2 : Int)) ∧ w8.drewN y = w') := fun y => by
                    have h := lookup19 ao3 ao4 mC c3 c4 B D x (w8.drewN y) (by omega) hB hDn (s3.drewN y) (s4.drewN y)
                    rw [Hf.out, ← hv2] at h
                    exact h
                  have Q3 : Hid (∀ w, Calls Try.prog 20 #[.int .u64 (z : Int), .int .u64 (v2 : Int)] w fun e' w' => e' = .returned (.int .u64 (u : Int)) ∧ w = w') := fun w => by
                    have h := max20 z v2 w
                    rw [hmx] at h
                    exact h
                  obtain ⟨bx, ox, hx1, gx⟩ := s1 k _ (strs_at hx)
                  obtain ⟨bz, oz, hz1, gz⟩ := s2 k _ (u64s_at hz)
                  subst hx1 hz1
                  clear hx hz hez hv2 hu hmx
                  go_wp2_with fail
                  go_quiet (first | (go_at_call_of 19 xA; exact quiet_same (Q1.out _)) | (go_at_call_of 19 ao3; exact quiet_same (Q2.out _)) | (go_at_call 20; exact quiet_same (Q3.out _)))
                  go_wp2_with fail
                  go_roundw
                  case rel => exact ⟨k + 1, _, by omega, by go_num, rfl⟩
                  case measure => simp [intOf]; omega
                · go_wp2_with fail
                  clear hk hlt
                  go_loopw [16] (fun i wr => ∃ k d : Nat, k ≤ mC ∧ i = .int .i64 k ∧ wr = w8.drewN d) (fun i _ => mC - (intOf i).toNat)
                  case atStart => exact ⟨0, d, Nat.zero_le _, rfl, rfl⟩
                  case round =>
                    obtain ⟨k3, d3, hk, rfl, rfl⟩ := hrel
                    by_cases hlt : k3 < mC
                    · obtain ⟨x, hx⟩ : ∃ x, B[k3]? = some x := ⟨B[k3]'(by omega), List.getElem?_eq_getElem _⟩
                      obtain ⟨z, hz⟩ : ∃ z, D[k3]? = some z := ⟨D[k3]'(by omega), List.getElem?_eq_getElem _⟩
                      have hez : lk fs x = z := by
                        have h := zip_at hx hz
                        rw [Hf.out] at h
                        exact lk_mem ab (List.mem_of_getElem? h)
                      obtain ⟨v2, hv2⟩ : ∃ v2, v2 = lk es x := ⟨_, rfl⟩
                      obtain ⟨u, hu⟩ : ∃ u, u = lk M x := ⟨_, rfl⟩
                      have hmx : max v2 z = u := by rw [hu, HLK.out, hez, hv2]
                      have Q1 : Hid (∀ y, Calls Try.prog 19 #[.slice xA nM ex, .slice xC nM ey, .string x] (w8.drewN y) fun e' w' => e' = .returned (.int .u64 (u : Int)) ∧ w8.drewN y = w') := fun y => by
                        have h := lookup19 xA xC nM ex ey (M.map (·.1)) (M.map (·.2)) x (w8.drewN y) (by omega) (by simp [HnM.out]) (by simp [HnM.out]) (vA.drewN y) (vC.drewN y)
                        rw [zip_self, ← hu] at h
                        exact h
                      have Q2 : Hid (∀ y, Calls Try.prog 19 #[.slice ao1 nC c1, .slice ao2 nC c2, .string x] (w8.drewN y) fun e' w' => e' = .returned (.int .u64 (v2 : Int)) ∧ w8.drewN y = w') := fun y => by
                        have h := lookup19 ao1 ao2 nC c1 c2 A C x (w8.drewN y) (by omega) hA hCn (s1.drewN y) (s2.drewN y)
                        rw [He.out, ← hv2] at h
                        exact h
                      have Q3 : Hid (∀ w, Calls Try.prog 20 #[.int .u64 (v2 : Int), .int .u64 (z : Int)] w fun e' w' => e' = .returned (.int .u64 (u : Int)) ∧ w = w') := fun w => by
                        have h := max20 v2 z w
                        rw [hmx] at h
                        exact h
                      obtain ⟨bx, ox, hx1, gx⟩ := s3 k3 _ (strs_at hx)
                      obtain ⟨bz, oz, hz1, gz⟩ := s4 k3 _ (u64s_at hz)
                      subst hx1 hz1
                      clear hx hz hez hv2 hu hmx
                      go_wp2_with fail
                      go_quiet (first | (go_at_call_of 19 xA; exact quiet_same (Q1.out _)) | (go_at_call_of 19 ao1; exact quiet_same (Q2.out _)) | (go_at_call 20; exact quiet_same (Q3.out _)))
                      go_wp2_with fail
                      go_roundw
                      case rel => exact ⟨k3 + 1, _, by omega, by go_num, rfl⟩
                      case measure => simp [intOf]; omega
                    · go_wp2_with fail
                      refine (entries17 p2 g2 _ fs _ (by omega) (k28.drewN _)).mono ?_
                      rintro e w11 ⟨yA, yC, fx, fy, rfl, uA, uC, b11⟩
                      rw [HfA.out] at uA
                      rw [HfC.out] at uC
                      have B11 := below_step (below_drewN B8 _) b11
                      rw [Hlf.out]
                      go_wp2_with fail
                      refine (same21 yA yC ao3 ao4 _ _ fx fy c3 c4 B D _ (by omega) (by omega) hB hDn uA uC ((s3.drewN _).later b11) ((s4.drewN _).later b11)).mono ?_
                      rintro e w13 ⟨rfl, d7, rfl⟩
                      go_wp2_with fail
                      go_ret
                      exact ⟨rfl, below_drewN (below_step B4 B11) _⟩
end Go.Proofs.Qxb6602088a
