/-
  Seat b6602088a. (*Clock).Merge (16) by its contract.
-/
import Derived.Test.Qxb6602088aMrel
import Derived.Test.Qxb6602088aGrow
namespace Go.Proofs.Qxb6602088a
open Go.RowKit

/-- Nothing that was there has turned, but for the blocks b and g. -/
structure Kept (w w' : World) (b g : Nat) : Prop where
  os : w'.os = w.os
  tape : w'.tape = w.tape
  output : w'.output = w.output
  size : w.heap.size ≤ w'.heap.size
  block : ∀ k, k < w.heap.size → k ≠ b → k ≠ g → w'.heap[k]? = w.heap[k]?

theorem Kept.refl (w : World) (b g : Nat) : Kept w w b g := ⟨rfl, rfl, rfl, Nat.le_refl _, fun _ _ _ _ => rfl⟩
theorem Kept.drewN {w w' : World} {b g : Nat} (h : Kept w w' b g) (n : Nat) : Kept w (w'.drewN n) b g := ⟨h.os, h.tape, h.output, h.size, h.block⟩
theorem Kept.drew {w w' : World} {b g : Nat} (h : Kept w w' b g) : Kept w w'.drew b g := ⟨h.os, h.tape, h.output, h.size, h.block⟩
theorem Kept.alloc {w w' : World} {b g : Nat} (h : Kept w w' b g) (o : Obj) : Kept w (w'.alloc o) b g :=
  ⟨h.os, h.tape, h.output, by have := h.size; simp; omega, fun k hk h1 h2 => by rw [Below.heap_alloc _ _ _ (by have := h.size; omega)]; exact h.block k hk h1 h2⟩
theorem Kept.setCell {w w' : World} {b g : Nat} (h : Kept w w' b g) {a : Addr} (ha : a.block = b ∨ a.block = g ∨ w.heap.size ≤ a.block) (u : Value) : Kept w (w'.setCell a u) b g :=
  ⟨h.os, h.tape, h.output, by have := h.size; simp [World.setCell]; omega, fun k hk h1 h2 => by rw [Below.heap_setCell _ _ _ _ (by rcases ha with ha | ha | ha <;> omega)]; exact h.block k hk h1 h2⟩
theorem Kept.below {w w' x : World} {b g : Nat} (h : Kept w w' b g) (k : Below w'.heap.size w' x) : Kept w x b g :=
  ⟨k.os.trans h.os, k.tape.trans h.tape, k.output.trans h.output, Nat.le_trans h.size k.size, fun i hi h1 h2 => (k.block i (Nat.lt_of_lt_of_le hi h.size)).trans (h.block i hi h1 h2)⟩
theorem Kept.toBelow {w w' : World} {b g B : Nat} (h : Kept w w' b g) (hB : B ≤ w.heap.size) (hb : B ≤ b) (hg : B ≤ g) : Below B w w' := ⟨h.os, h.tape, h.output, h.size, fun k hk => h.block k (by omega) (by omega) (by omega)⟩
theorem ClkAt.kept {w w' : World} {b g b1 g1 c : Nat} {es : List E} (h : ClkAt w b1 g1 c es) (k : Kept w w' b g) (h1 : b1 ≠ b) (h2 : b1 ≠ g) (h3 : g1 ≠ b) (h4 : g1 ≠ g) : ClkAt w' b1 g1 c es :=
  h.later (k.block b1 h.lt.1 h1 h2) (k.block g1 h.lt.2.1 h3 h4)

theorem ClkAt.alloc {w : World} {b g c : Nat} {es : List E} (h : ClkAt w b g c es) (o : Obj) : ClkAt (w.alloc o) b g c es := h.below ((Below.refl _ _).alloc (Nat.le_refl _) o)

theorem flat_set_cnt {es : List E} {i v : Nat} {a : E} (h : es[i]? = some a) : flat (es.set i (a.1, v)) = (flat es).set (i * 2 + 1) (.int .u64 (v : Int)) := by
  rw [flat_set _ (List.getElem?_eq_some_iff.1 h).1]
  congr 1
  have hn := flat_name h
  obtain ⟨hl, he⟩ := List.getElem?_eq_some_iff.1 hn
  rw [← he]
  exact List.set_getElem_self hl

/-- A counter is raised in place. -/
theorem ClkAt.setCnt {w : World} {b g c i v : Nat} {es : List E} {a : E} (h : ClkAt w b g c es) (hi : es[i]? = some a) : ClkAt (w.setCell ⟨g, i * 2 + 1, none⟩ (.int .u64 (v : Int))) b g c (es.set i (a.1, v)) := by
  have hl := h.lt
  refine ⟨?_, ?_⟩
  · rw [Below.heap_setCell _ _ _ _ hl.2.2, List.length_set]; exact h.hdr
  · have := (h.row.stored (i * 2 + 1) (.int .u64 (v : Int))).1
    rw [flat_set_cnt hi, List.length_set]
    exact this

theorem flat_inj : ∀ {l m : List E}, flat l = flat m → l = m
  | [], [], _ => rfl
  | [], b :: m, h => by rw [flat_cons] at h; simp [flat] at h
  | a :: l, [], h => by rw [flat_cons] at h; simp [flat] at h
  | a :: l, b :: m, h => by
    rw [flat_cons, flat_cons] at h
    simp only [List.cons.injEq, Value.string.injEq, Value.int.injEq, true_and] at h
    have : a = b := Prod.ext h.1 (by omega)
    rw [this, flat_inj h.2.2]

theorem ClkAt.same {w : World} {b g c : Nat} {es fs : List E} (h : ClkAt w b g c es) (k : ClkAt w b g c fs) : es = fs := by
  have h1 := h.hdr
  rw [k.hdr] at h1
  simp at h1
  obtain ⟨cur, hg, _, _, _, ht⟩ := h.block
  obtain ⟨cur', hg', _, _, _, ht'⟩ := k.block
  rw [hg] at hg'
  simp at hg'
  subst hg'
  apply flat_inj
  rw [← ht, ← ht', h1]

theorem ClkAt.cntFree {w : World} {b g c i : Nat} {es : List E} (h : ClkAt w b g c es) : w.frozen? ⟨g, i, none⟩ = false := h.row.frozenAt i

/-- The two clocks behind 'a[i].counter = max(a[i].counter, e.counter)'. -/
theorem round_eq {w W : World} {b1 g1 c1 b2 g2 c2 i j : Nat} {es cur fs : List E} {a f : E} {v : Int} (k1 : ClkAt W b1 g1 c1 cur) (k2 : ClkAt W b2 g2 c2 fs) (hk : Kept w W b1 g1)
    (hal : g1 ≠ g2 ∨ (b1 = b2 ∧ g1 = g2 ∧ c1 = c2 ∧ es = fs)) (hi : cur[i]? = some a) (hj : fs[j]? = some f) (hc : cmpB a.1 f.1 = 0) (hb : Asc fs) (hv : v = (if a.2 < f.2 then (f.2 : Int) else (a.2 : Int))) :
    ClkAt (W.setCell ⟨g1, i * 2 + 1, none⟩ (.int .u64 v)) b1 g1 c1 (cur.set i (a.1, max a.2 f.2)) ∧ ClkAt (W.setCell ⟨g1, i * 2 + 1, none⟩ (.int .u64 v)) b2 g2 c2 fs ∧ Kept w (W.setCell ⟨g1, i * 2 + 1, none⟩ (.int .u64 v)) b1 g1 := by
  have hv' : v = ((max a.2 f.2 : Nat) : Int) := by rw [hv]; split <;> omega
  subst hv'
  have r1 := k1.setCnt (v := max a.2 f.2) hi
  refine ⟨r1, ?_, hk.setCell (.inr (.inl rfl)) _⟩
  rcases hal with hne | ⟨rfl, rfl, rfl, _⟩
  · have hb2 : b2 ≠ g1 := by
      rintro rfl
      obtain ⟨q, hq, _⟩ := k1.block
      have := k2.hdr
      rw [hq] at this
      simp at this
    exact k2.later (Below.heap_setCell _ _ _ _ hb2) (Below.heap_setCell _ _ _ _ (Ne.symm hne))
  · have e := k1.same k2
    subst e
    have e1 := (cmpB_eq _ _).1 hc
    have h1 := lk_mem hb (List.mem_of_getElem? hi)
    have h2 := lk_mem hb (List.mem_of_getElem? hj)
    rw [e1, h2] at h1
    have e2 : (a.1, max a.2 f.2) = a := by rw [h1]; simp
    rw [e2] at r1
    have e3 : cur.set i a = cur := by
      obtain ⟨hl, he⟩ := List.getElem?_eq_some_iff.1 hi
      rw [← he]
      exact List.set_getElem_self hl
    rw [e3] at r1
    exact r1

theorem owns_base {w : World} {base : Nat} {e : TypeId} {size g n cap : Nat} {xs : List Value} (h : w.ownsRow base e size (.slice (some ⟨g, 0, none⟩) n cap) n xs) : w.ownsRow 0 e size (.slice (some ⟨g, 0, none⟩) n cap) n xs := by
  obtain ⟨h1, h2 | ⟨g', cap', cur, hv, _, r⟩⟩ := h
  · obtain ⟨h3, _⟩ := h2; cases h3
  · exact ⟨h1, .inr ⟨g', cap', cur, hv, Nat.zero_le _, r⟩⟩

/-- The clocks and the new row behind 'merged[k] = e'. -/
theorem round_put {w W : World} {b1 g1 c1 b2 g2 c2 h N G r : Nat} {cur fs : List E} {xs : List Value} {u v : Value} (hown : W.ownsRow 0 50 2 (.slice (some ⟨h, 0, none⟩) N G) N xs) (k1 : ClkAt W b1 g1 c1 cur) (k2 : ClkAt W b2 g2 c2 fs) (hk : Kept w W b1 g1)
    (l1 : b1 < h ∧ g1 < h ∧ b1 ≠ g1) (l2 : b2 < h ∧ g2 < h ∧ b2 ≠ g2) (hws : w.heap.size ≤ h) :
    ((W.setCell ⟨h, r * 2, none⟩ u).setCell ⟨h, r * 2 + 1, none⟩ v).ownsRow 0 50 2 (.slice (some ⟨h, 0, none⟩) N G) N ((xs.set (r * 2) u).set (r * 2 + 1) v) ∧
    ClkAt ((W.setCell ⟨h, r * 2, none⟩ u).setCell ⟨h, r * 2 + 1, none⟩ v) b1 g1 c1 cur ∧ ClkAt ((W.setCell ⟨h, r * 2, none⟩ u).setCell ⟨h, r * 2 + 1, none⟩ v) b2 g2 c2 fs ∧ Kept w ((W.setCell ⟨h, r * 2, none⟩ u).setCell ⟨h, r * 2 + 1, none⟩ v) b1 g1 := by
  have hb : ∀ k, k < h → ((W.setCell ⟨h, r * 2, none⟩ u).setCell ⟨h, r * 2 + 1, none⟩ v).heap[k]? = W.heap[k]? := fun k hk => by
    rw [Below.heap_setCell _ _ _ _ (by simp; omega), Below.heap_setCell _ _ _ _ (by simp; omega)]
  exact ⟨((hown.stored (r * 2) u).1.stored (r * 2 + 1) v).1, k1.later (hb _ l1.1) (hb _ l1.2.1), k2.later (hb _ l2.1) (hb _ l2.2.1), (hk.setCell (.inr (.inr hws)) _).setCell (.inr (.inr hws)) _⟩

set_option maxHeartbeats 4000000 in
set_option maxRecDepth 100000 in
theorem merge16 (b1 g1 c1 b2 g2 c2 : Nat) (es fs : List E) (w : World) (n1 : es.length ≤ 1048576) (n2 : fs.length ≤ 1048576) (k1 : ClkAt w b1 g1 c1 es) (k2 : ClkAt w b2 g2 c2 fs) (ha : Asc es) (hb : Asc fs)
    (hal : g1 ≠ g2 ∨ (b1 = b2 ∧ g1 = g2 ∧ c1 = c2 ∧ es = fs)) (hfull : (raise es fs).2 ≠ 0 → c1 = es.length) :
    Calls Try.prog 16 #[.pointer (some ⟨b1, 0, none⟩), .pointer (some ⟨b2, 0, none⟩)] w fun e w' => e = .returned (.tuple #[]) ∧ ∃ g' c', ClkAt w' b1 g' c' (merged es fs) ∧ (g' = g1 ∨ w.heap.size ≤ g') ∧ Kept w w' b1 g1 := by
  have q1 := k1.cell
  have q2 := k2.cell
  obtain ⟨n, hn⟩ : ∃ n, n = es.length := ⟨_, rfl⟩
  obtain ⟨m, hm⟩ : ∃ m, m = fs.length := ⟨_, rfl⟩
  rw [← hn] at q1 n1
  rw [← hm] at q2 n2
  have HN : Hid (n = es.length) := hn
  have HM : Hid (m = fs.length) := hm
  have HA : Hid (g1 ≠ g2 ∨ (b1 = b2 ∧ g1 = g2 ∧ c1 = c2 ∧ es = fs)) := hal
  have HF : Hid ((raise es fs).2 ≠ 0 → c1 = es.length) := hfull
  clear hn hm hal hfull
  go_enter Try.func16, Try.ntmps16
  go_wp2
  go_quiet (fail)
  go_wp2
  clear q1 q2
  go_loopw [6, 7, 25] (fun sm si sj wr => ∃ (i j mis : Nat) (cur : List E), i ≤ n ∧ j ≤ m ∧ mis ≤ m ∧ sm = .int .i64 mis ∧ si = .int .i64 i ∧ sj = .int .i64 j ∧ Hid (MRel es fs cur i j mis) ∧ ClkAt wr b1 g1 c1 cur ∧ ClkAt wr b2 g2 c2 fs ∧ Kept w wr b1 g1) (fun _ _ sj _ => m - (intOf sj).toNat)
  case atStart => exact ⟨0, 0, 0, es, Nat.zero_le _, Nat.zero_le _, Nat.zero_le _, rfl, rfl, rfl, MRel.start, k1.drewN _, k2.drewN _, (Kept.refl _ _ _).drewN _⟩
  case round =>
    clear k1 k2
    obtain ⟨i0, j, mis, cur, hi0, hj, hmis, rfl, rfl, rfl, H0, k1, k2, hk⟩ := hrel
    by_cases hjm : j < m
    · obtain ⟨f, hf⟩ : ∃ f, fs[j]? = some f := ⟨fs[j]'(by have := HM.out; omega), List.getElem?_eq_getElem _⟩
      have y1 := k2.name hf
      have y2 := k2.cnt hf
      have hlt1 := k1.lt
      have hlt2 := k2.lt
      go_wp2
      generalize hW : wr.alloc (Obj.cells #[Value.string f.fst, Value.int IntKind.u64 ↑f.snd] 50) = W1
      have z1 : W1.cell? ⟨wr.heap.size, 0, none⟩ = some (.string f.1) := by rw [← hW, cell_of_row _ _ _ _ _ _ (heap_alloc_new wr _)]; rfl
      have z2 : W1.cell? ⟨wr.heap.size, 1, none⟩ = some (.int .u64 (f.2 : Int)) := by rw [← hW, cell_of_row _ _ _ _ _ _ (heap_alloc_new wr _)]; rfl
      have k1' : ClkAt W1 b1 g1 c1 cur := by rw [← hW]; exact k1.alloc _
      have k2' : ClkAt W1 b2 g2 c2 fs := by rw [← hW]; exact k2.alloc _
      have hk' : Kept w W1 b1 g1 := by rw [← hW]; exact hk.alloc _
      have hws := hk.size
      generalize wr.heap.size = p at *
      clear hW k1 k2 hk y1 y2 hlt1 hlt2
      go_loopw [7, 10] (fun si so wq => ∃ (i d : Nat) (o : Int), i ≤ n ∧ o < 0 ∧ si = .int .i64 i ∧ so = .int .i64 o ∧ Hid (MRel es fs cur i j mis) ∧ wq = W1.drewN d) (fun si _ _ => n - (intOf si).toNat)
      case atStart => exact ⟨i0, 0, -1, hi0, by omega, rfl, rfl, H0, rfl⟩
      case round =>
        obtain ⟨i, d, o, hin, ho, rfl, rfl, H, rfl⟩ := hrel
        by_cases hi : i < n
        · obtain ⟨a, hai⟩ : ∃ a, cur[i]? = some a := ⟨cur[i]'(by have := HN.out; have := H.out.len; omega), List.getElem?_eq_getElem _⟩
          have x1 := k1'.name hai
          have x2 := k1'.cnt hai
          rcases Int.lt_trichotomy (cmpB a.1 f.1) 0 with hc | hc | hc
          · have HR : Hid (MRel es fs cur (i + 1) j mis) := H.out.adv hai hf hc
            clear hai hf H
            go_wp2
            go_quiet ((go_at_call 36; exact quiet_same (cmp36 _ _ _)))
            go_wp2
            go_roundw
            case rel => exact ⟨i + 1, _, _, by omega, hc, by go_num, rfl, HR, rfl⟩
            case measure => simp [intOf]; omega
          · have HR : Hid (MRel es fs (cur.set i (a.1, max a.2 f.2)) (i + 1) (j + 1) mis) := H.out.eq hai hf hc
            have HX : Hid (cur[i]? = some a ∧ fs[j]? = some f ∧ cmpB a.1 f.1 = 0) := ⟨hai, hf, hc⟩
            have fz := k1'.cntFree (i := i * 2 + 1)
            clear hai hf H
            go_wp2
            go_quiet ((go_at_call 36; exact quiet_same (cmp36 _ _ _)))
            go_wp2
            go_region
            go_wp2
            go_roundw
            case rel =>
              have R := round_eq (v := if a.2 < f.2 then (f.2 : Int) else (a.2 : Int)) (k1'.drewN (d + nq + 1)) (k2'.drewN (d + nq + 1)) (hk'.drewN (d + nq + 1)) HA.out HX.out.1 HX.out.2.1 HX.out.2.2 hb rfl
              exact ⟨i + 1, j + 1, mis, _, by omega, by omega, hmis, rfl, by go_num, by go_num, HR, R.1, R.2.1, R.2.2⟩
            case measure => simp [intOf]; omega
          · have HR : Hid (MRel es fs cur i (j + 1) (mis + 1)) := H.out.gt hai hf hc
            have hml := HR.out.le
            have e0 : (cmpB a.1 f.1 == 0) = false := beq_eq_false_iff_ne.2 (by omega)
            clear hai hf H
            go_wp2
            go_quiet ((go_at_call 36; exact quiet_same (cmp36 _ _ _)))
            go_wp2
            go_roundw
            case rel => exact ⟨i, j + 1, mis + 1, cur, by omega, by omega, by have := HM.out; omega, by go_num, rfl, by go_num, HR, k1'.drewN _, k2'.drewN _, hk'.drewN _⟩
            case measure => simp [intOf]; omega
        · have HR : Hid (MRel es fs cur i (j + 1) (mis + 1)) := H.out.out (by have := HN.out; have := H.out.len; omega) hf
          have hml := HR.out.le
          have e0 : (o == 0) = false := beq_eq_false_iff_ne.2 (by omega)
          clear hf H
          go_wp2
          go_roundw
          case rel => exact ⟨i, j + 1, mis + 1, cur, by omega, by omega, by have := HM.out; omega, by go_num, rfl, by go_num, HR, k1'.drewN _, k2'.drewN _, hk'.drewN _⟩
          case measure => simp [intOf]; omega
    · obtain ⟨ecur, emis⟩ := H0.out.fin (by have := HM.out; omega)
      by_cases hz : mis = 0
      · subst hz
        have HF1 : Hid (merged es fs = cur) := by show _ = _; unfold merged; rw [if_pos emis.symm, ecur]
        clear ecur emis H0
        go_wp2
        exact bodyPost_ret (results_none rfl _ _ _) rfl ⟨rfl, g1, c1, by rw [HF1.out]; exact k1, .inl rfl, hk⟩
      · have hne : g1 ≠ g2 := by
          rcases HA.out with h | ⟨_, _, _, rfl⟩
          · exact h
          · exfalso
            rw [raise_missing es es ha ha, List.filter_eq_nil_iff.2 (by intro y hy; simp [has_iff.2 (mem_names.2 ⟨y, hy, rfl⟩)])] at emis
            exact hz (by simpa using emis)
        have hc1 : c1 = n := by rw [HF.out (by rw [← emis]; exact hz)]; exact HN.out.symm
        subst hc1
        have hzb : ((mis : Int) == 0) = false := beq_eq_false_iff_ne.2 (by omega)
        obtain ⟨F, hF⟩ : ∃ F, F = (wback cur.reverse fs.reverse).reverse := ⟨_, rfl⟩
        have HFm : Hid (merged es fs = F) := by show _ = _; unfold merged; rw [if_neg (by rw [← emis]; exact hz), hF, ecur]
        have HFl : Hid (F.length = c1 + mis) := by show _ = _; rw [hF, List.length_reverse, ecur, wback_full ha hb, ← emis]; have := HN.out; omega
        have HFF : Hid (F = (wback cur.reverse fs.reverse).reverse) := hF
        have hcl : cur.length = c1 := by rw [ecur, raise_length]; exact HN.out.symm
        have HCL : Hid (cur.length = c1) := hcl
        have hrow := k1.row
        rw [hcl] at hrow
        clear ecur emis H0 hF
        go_wp2_with fail
        refine (grow37 g1 c1 mis cur _ hcl (by omega) n1 (by omega) hrow).mono ?_
        rintro e w2 ⟨G, xs, rfl, hown, hxt, hb2⟩
        have hG : c1 + mis ≤ G ∧ G ≤ maxLen := by
          obtain ⟨_, h2 | ⟨g', cap', cu, hv, _, hg, hn', hm', _⟩⟩ := hown
          · obtain ⟨h3, _⟩ := h2; cases h3
          · cases hv; exact ⟨hn', hm'⟩
        have hG1 := hG.1
        have hG2 := hG.2
        unfold maxLen at hG2
        have k1' := k1.below hb2
        have k2' := k2.below hb2
        have hk' := hk.below hb2
        have l1 := k1.lt
        have l2 := k2.lt
        have hws := hk.size
        generalize wr.heap.size = h at *
        clear hcl hrow k1 k2 hk hb2 hG
        go_wp2_with fail
        go_loopw [7, 12, 13] (fun si sj sk wq => ∃ (p q r : Nat) (I J K : Int) (xs : List Value), p ≤ c1 ∧ q ≤ m ∧ r ≤ c1 + mis ∧ I = p - 1 ∧ J = q - 1 ∧ K = r - 1 ∧ si = .int .i64 I ∧ sj = .int .i64 J ∧ sk = .int .i64 K ∧ Hid (WRel F cur fs xs p q r) ∧
            wq.ownsRow 0 50 2 (.slice (some ⟨h, 0, none⟩) (c1 + mis) G) (c1 + mis) xs ∧ ClkAt wq b1 g1 c1 cur ∧ ClkAt wq b2 g2 c2 fs ∧ Kept w wq b1 g1) (fun si sj _ _ => (intOf si + 1).toNat + (intOf sj + 1).toNat)
        case atStart =>
          refine ⟨c1, m, c1 + mis, _, _, _, xs, Nat.le_refl _, Nat.le_refl _, Nat.le_refl _, rfl, rfl, rfl, rfl, rfl, by go_num, ?_, owns_base hown, k1', k2', hk'⟩
          have hs := WRel.start (xs := xs) HFF.out (by rw [HCL.out]; exact hxt) (by rw [hown.1, HFl.out])
          rw [HCL.out, HFl.out, ← HM.out] at hs
          exact hs
        case round =>
          clear hown hxt k1' k2' hk' xs
          obtain ⟨p, q, r, I, J, K, xs, hp, hq, hr, eI, eJ, eK, rfl, rfl, rfl, H, hown, k1, k2, hk⟩ := hrel
          have hl := hown.1
          cases q with
          | zero =>
            obtain rfl : J = -1 := by omega
            have HX : Hid (xs = flat F) := H.out.fin
            have x0 := k1.cell
            have f0 := k1.free
            clear H eI eJ eK
            go_wp2
            go_end0
            have hx := HX.out
            subst hx
            refine ⟨rfl, h, G, ⟨?_, ?_⟩, .inr hws, hk.setCell (.inl rfl) _⟩
            · rw [HFm.out, HFl.out]
              exact one_setCell k1.hdr
            · rw [HFm.out, HFl.out]
              exact owns_setCell_ne hown (by simp; omega) _
          | succ q =>
            obtain rfl : J = (q : Int) := by omega
            clear eJ
            have hrp := H.out.pos
            obtain ⟨r, rfl⟩ : ∃ r', r = r' + 1 := ⟨r - 1, by omega⟩
            obtain rfl : K = (r : Int) := by omega
            clear eK hrp
            obtain ⟨f, hf⟩ : ∃ f, fs[q]? = some f := ⟨fs[q]'(by have := HM.out; omega), List.getElem?_eq_getElem _⟩
            have y1 := k2.name hf
            have y2 := k2.cnt hf
            have fz0 := hown.frozenAt (r * 2)
            have fz1 := hown.frozenAt (r * 2 + 1)
            have cl0 := hown.cellAt (r * 2) (by omega)
            have cl1 := hown.cellAt (r * 2 + 1) (by omega)
            rw [List.getElem?_eq_getElem (by omega)] at cl0 cl1
            cases p with
            | zero =>
              obtain rfl : I = -1 := by omega
              have HR : Hid (WRel F cur fs ((xs.set (r * 2) (.string f.1)).set (r * 2 + 1) (.int .u64 (f.2 : Int))) 0 q r) := H.out.only hf
              clear eI hf H
              go_wp2
              go_roundw
              case rel =>
                have R := round_put (r := r) (u := .string f.1) (v := .int .u64 (f.2 : Int)) hown k1 k2 hk l1 l2 hws
                exact ⟨0, q, r, _, _, _, _, by omega, by omega, by omega, rfl, rfl, rfl, rfl, rfl, rfl, HR, R.1, R.2.1, R.2.2.1, R.2.2.2⟩
              case measure => simp [intOf] <;> omega
            | succ p =>
              obtain rfl : I = (p : Int) := by omega
              obtain ⟨a, hai⟩ : ∃ a, cur[p]? = some a := ⟨cur[p]'(by have := HCL.out; omega), List.getElem?_eq_getElem _⟩
              have x1 := k1.name hai
              have x2 := k1.cnt hai
              clear eI
              rcases Int.lt_trichotomy (cmpB a.1 f.1) 0 with hc | hc | hc
              · have HR : Hid (WRel F cur fs ((xs.set (r * 2) (.string f.1)).set (r * 2 + 1) (.int .u64 (f.2 : Int))) (p + 1) q r) := H.out.lt hai hf hc
                have e0 : (cmpB a.1 f.1 == 0) = false := beq_eq_false_iff_ne.2 (by omega)
                clear hf hai H
                go_wp2
                go_quiet ((go_at_call 36; exact Calls.quiet_of_same ((cmp36 _ _ _).mono fun e w' hh => ⟨hh.1, hh.2.symm⟩)))
                go_wp2
                go_roundw
                case rel =>
                  have R := round_put (r := r) (u := .string f.1) (v := .int .u64 (f.2 : Int)) (W := wr.drewN nq) hown (k1.drewN _) (k2.drewN _) (hk.drewN _) l1 l2 hws
                  exact ⟨p + 1, q, r, _, _, _, _, by omega, by omega, by omega, by omega, rfl, rfl, rfl, rfl, rfl, HR, R.1, R.2.1, R.2.2.1, R.2.2.2⟩
                case measure => simp [intOf] <;> omega
              · have HR : Hid (WRel F cur fs ((xs.set (r * 2) (.string a.1)).set (r * 2 + 1) (.int .u64 (a.2 : Int))) p q r) := H.out.eq hai hf hc
                clear hf hai H
                go_wp2
                go_quiet ((go_at_call 36; exact Calls.quiet_of_same ((cmp36 _ _ _).mono fun e w' hh => ⟨hh.1, hh.2.symm⟩)))
                go_wp2
                go_roundw
                case rel =>
                  have R := round_put (r := r) (u := .string a.1) (v := .int .u64 (a.2 : Int)) (W := wr.drewN nq) hown (k1.drewN _) (k2.drewN _) (hk.drewN _) l1 l2 hws
                  exact ⟨p, q, r, _, _, _, _, by omega, by omega, by omega, rfl, rfl, rfl, rfl, rfl, rfl, HR, R.1, R.2.1, R.2.2.1, R.2.2.2⟩
                case measure => simp [intOf] <;> omega
              · have HR : Hid (WRel F cur fs ((xs.set (r * 2) (.string a.1)).set (r * 2 + 1) (.int .u64 (a.2 : Int))) p (q + 1) r) := H.out.gt hai hf hc
                clear hf hai H
                go_wp2
                go_quiet ((go_at_call 36; exact Calls.quiet_of_same ((cmp36 _ _ _).mono fun e w' hh => ⟨hh.1, hh.2.symm⟩)))
                go_wp2
                go_roundw
                case rel =>
                  have R := round_put (r := r) (u := .string a.1) (v := .int .u64 (a.2 : Int)) (W := wr.drewN nq) hown (k1.drewN _) (k2.drewN _) (hk.drewN _) l1 l2 hws
                  exact ⟨p, q + 1, r, _, _, _, _, by omega, by omega, by omega, rfl, by omega, rfl, rfl, rfl, rfl, HR, R.1, R.2.1, R.2.2.1, R.2.2.2⟩
                case measure => simp [intOf] <;> omega
end Go.Proofs.Qxb6602088a
