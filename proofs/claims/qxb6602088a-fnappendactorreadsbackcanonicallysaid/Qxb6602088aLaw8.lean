/-
  Seat b6602088a. FnAppendActorReadsBackCanonically (8): the walk of the law, out of its callees' contracts.
-/
import Derived.Test.Qxb6602088aRead
import Derived.OpenShut
namespace Go.Proofs.Qxb6602088a
open Go.RowKit

set_option maxHeartbeats 1000000 in
set_option maxRecDepth 100000 in
theorem walk8 (ao : Option Addr) (n c : Nat) (bs : List Nat) (s : ByteArray) (w : World) (hn : n ≤ maxLen) (hs : s.size ≤ maxLen) (hl : bs.length = n) (hr : Row w ao (u8s bs)) :
    Calls Try.prog 8 #[.slice ao n c, .string s] w fun e w' => e = .returned (.bool true) ∧ Below w.heap.size w w' := by
  by_cases hsz : n + s.size ≤ 1048576
  · have hd : decide (n + s.size ≤ 1048576) = true := decide_eq_true hsz
    have hn1 : n ≤ 1048576 := by omega
    have hs1 : s.size ≤ 1048576 := by omega
    have hel := enc_len s
    obtain ⟨m, hm⟩ : ∃ m, (enc s).length = m + 1 := ⟨(enc s).length - 1, by omega⟩
    have HM : Hid ((enc s).length = m + 1) := hm
    have hm2 : m ≤ 6291457 := by omega
    have hm1 : 1 ≤ m := by omega
    clear hel
    go_enter Try.func8, Try.ntmps8
    go_wp2_with fail
    refine (zz29 ao n c s _ hn hs).mono ?_
    rintro e w' ⟨rfl, rfl⟩
    go_wp2_with fail
    refine (clone30 ao n c bs _ hn1 hl hr).mono ?_
    rintro e w1 ⟨ao1, c1, rfl, hown1, hb1⟩
    have hr1 := Row.of_owns' hown1
    go_wp2_with fail
    refine (clone30 ao1 n c1 bs _ hn1 hl hr1).mono ?_
    rintro e w2 ⟨ao2, c2, rfl, hown2, hb2⟩
    go_wp2_with fail
    have hs12 := hb2.size
    refine (append31c w1.heap.size ao2 n c2 _ s _ hs12 hown2 hn1 hs1).mono ?_
    rintro e w3 ⟨ao3, c3, rfl, hr3, hb3, hc3, hc3m⟩
    rw [hm] at hc3 ⊢
    have hB : Below w.heap.size w w3 := ((hb1.trans (hb2.mono hb1.size)).trans (hb3.mono hb1.size))
    have q1 : Row w3 ao1 (u8s bs) := hr1.later (hb2.trans hb3)
    have q3 : Row w3 ao3 (u8s (bs ++ enc s)) := by rw [u8s_append]; exact hr3
    clear hr1 hr3 hown1 hown2 hb1 hb2 hb3 hr hm
    obtain ⟨b3, o3, rfl, g3'⟩ := q3 n _ (u8s_at (l := bs ++ enc s) (z := 34) (by rw [List.getElem?_append_right (by omega), hl, Nat.sub_self]; exact enc_first s))
    clear g3'
    go_wp2_with fail
    go_loopw [6] (fun i wr => ∃ k d : Nat, k ≤ n ∧ i = .int .i64 k ∧ wr = w3.drewN d) (fun i _ => n - (intOf i).toNat)
    case atStart => exact ⟨0, 0, Nat.zero_le _, rfl, rfl⟩
    case round =>
      obtain ⟨k, d, hk, rfl, rfl⟩ := hrel
      by_cases hlt : k < n
      · obtain ⟨z, hz⟩ : ∃ z : Nat, bs[k]? = some z := ⟨bs[k]'(by omega), by simp [show k < bs.length by omega]⟩
        obtain ⟨b1, o1, rfl, g1⟩ := q1 k _ (u8s_at hz)
        have g3 := q3.at (u8s_at (l := bs ++ enc s) (i := k) (z := z) (by rw [List.getElem?_append_left (by omega)]; exact hz))
        clear hz
        go_wp2_with fail
        go_quiet (fail)
        go_wp2_with fail
        go_roundw
        case rel => exact ⟨k + 1, _, by omega, by go_num, rfl⟩
        case measure => simp [intOf]; omega
      · go_wp2_with fail
        have q5 : Row (w3.drewN d) (some ⟨b3, o3 + n, none⟩) (u8s (enc s)) := by
          intro i v hv
          refine ⟨_, _, rfl, ?_⟩
          have h := q3.at (i := n + i) (v := v) (by rw [u8s_append, List.getElem?_append_right (by simp [u8s]; omega)]; simp [u8s, hl]; simpa [u8s] using hv)
          rw [← Nat.add_assoc] at h
          exact h
        refine (read32 s (some ⟨b3, o3 + n, none⟩) m (c3 - n) _ hs1 HM hm2 hm1 q5).mono ?_
        rintro e w5 ⟨ao5, c5, rfl, hr5, hb5⟩
        have hB5 : Below w.heap.size w w5 := (below_drewN hB d).trans (hb5.mono (below_drewN hB d).size)
        clear q5 hb5 q3 q1 hk hlt
        go_wp2_with fail
        go_loopw [9] (fun i wr => ∃ k d : Nat, k ≤ s.size ∧ i = .int .i64 k ∧ wr = w5.drewN d) (fun i _ => s.size - (intOf i).toNat)
        case atStart => exact ⟨0, 0, Nat.zero_le _, rfl, rfl⟩
        case round =>
          obtain ⟨k2, d2, hk, rfl, rfl⟩ := hrel
          by_cases hlt : k2 < s.size
          · obtain ⟨b5, o5, rfl, g5⟩ := hr5 k2 (.int .u8 (s[k2].toNat : Int)) (by simp only [u8s, nats, List.getElem?_map]; rw [List.getElem?_eq_getElem (by simpa using hlt)]; rfl)
            go_wp2_with fail
            go_quiet (fail)
            go_wp2_with fail
            go_roundw
            case rel => exact ⟨k2 + 1, _, by omega, by go_num, rfl⟩
            case measure => simp [intOf]; omega
          · go_wp2_with fail
            go_ret
            exact ⟨rfl, below_drewN hB5 _⟩
  · have hd : decide (n + s.size ≤ 1048576) = false := decide_eq_false hsz
    go_enter Try.func8, Try.ntmps8
    go_wp2_with fail
    refine (zz29 ao n c s _ hn hs).mono ?_
    rintro e w' ⟨rfl, rfl⟩
    go_wp2_with fail
    go_ret
    exact ⟨rfl, Below.refl _ _⟩
end Go.Proofs.Qxb6602088a
