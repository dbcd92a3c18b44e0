/-
  Seat b6602088a. FnAppendActorIgnoresPrefix (9): the walk of the law, out of its callees' contracts.
-/
import Derived.Test.Qxb6602088aEnc
import Derived.OpenShut
namespace Go.Proofs.Qxb6602088a
open Go.RowKit

set_option maxHeartbeats 1000000 in
set_option maxRecDepth 100000 in
theorem walk9 (ao : Option Addr) (n c : Nat) (bs : List Nat) (s : ByteArray) (w : World) (hn : n ≤ maxLen) (hs : s.size ≤ maxLen) (hl : bs.length = n) (hr : Row w ao (u8s bs)) :
    Calls Try.prog 9 #[.slice ao n c, .string s] w fun e w' => e = .returned (.bool true) ∧ Below w.heap.size w w' := by
  by_cases hsz : n + s.size ≤ 1048576
  · have hd : decide (n + s.size ≤ 1048576) = true := decide_eq_true hsz
    have hn1 : n ≤ 1048576 := by omega
    have hs1 : s.size ≤ 1048576 := by omega
    have hel := enc_len s
    go_enter Try.func9, Try.ntmps9
    go_wp2_with fail
    refine (zz33 ao n c s _ hn hs).mono ?_
    rintro e w' ⟨rfl, rfl⟩
    go_wp2_with fail
    refine (clone30 ao n c bs _ hn1 hl hr).mono ?_
    rintro e w1 ⟨ao1, c1, rfl, hown1, hb1⟩
    have hr1 := Row.of_owns' hown1
    go_wp2_with fail
    refine (clone30 ao1 n c1 bs _ hn1 hl hr1).mono ?_
    rintro e w2 ⟨ao2, c2, rfl, hown2, hb2⟩
    go_wp2_with fail
    have hs12 := hb2.size
    refine (append31 w1.heap.size ao2 n c2 _ s _ hs12 hown2 hn1 hs1).mono ?_
    rintro e w3 ⟨ao3, c3, rfl, hr3, hb3⟩
    go_wp2_with fail
    refine (append31 w3.heap.size none 0 0 [] s _ (Nat.le_refl _) (World.ownsRow_nil _ _ _ _) (by omega) hs1).mono ?_
    rintro e w4 ⟨ao4, c4, rfl, hr4, hb4⟩
    have hB : Below w.heap.size w w4 := (((hb1.trans (hb2.mono hb1.size)).trans (hb3.mono hb1.size)).trans (hb4.mono (by have := hb1.size; have := hb3.size; omega)))
    have q1 : Row w4 ao1 (u8s bs) := (hr1.later (hb2.trans hb3)).later hb4
    have q3 : Row w4 ao3 (u8s (bs ++ enc s)) := by rw [u8s_append]; exact hr3.later hb4
    have q4 : Row w4 ao4 (u8s (enc s)) := by simpa using hr4
    clear hr1 hr3 hr4 hown1 hown2 hb1 hb2 hb3 hb4 hr
    go_wp2_with fail
    have hne : (enc s).length = (enc s).length := rfl
    clear hne
    go_loopw [7] (fun i wr => ∃ k d : Nat, k ≤ n ∧ i = .int .i64 k ∧ wr = w4.drewN d) (fun i _ => n - (intOf i).toNat)
    case atStart => exact ⟨0, 0, Nat.zero_le _, rfl, rfl⟩
    case round =>
      obtain ⟨k, d, hk, rfl, rfl⟩ := hrel
      by_cases hlt : k < n
      · obtain ⟨z, hz⟩ : ∃ z : Nat, bs[k]? = some z := ⟨bs[k]'(by omega), by simp [show k < bs.length by omega]⟩
        obtain ⟨b1, o1, rfl, g1⟩ := q1 k _ (u8s_at hz)
        obtain ⟨b3, o3, rfl, g3⟩ := q3 k _ (u8s_at (l := bs ++ enc s) (i := k) (z := z) (by rw [List.getElem?_append_left (by omega)]; exact hz))
        clear hz
        go_wp2_with fail
        go_quiet (fail)
        go_wp2_with fail
        go_roundw
        case rel => exact ⟨k + 1, _, by omega, by go_num, rfl⟩
        case measure => simp [intOf]; omega
      · have em0 : (enc s).length ≤ 6291458 := by omega
        go_wp2_with fail
        clear hk hlt
        go_loopw [8] (fun i wr => ∃ k d : Nat, k ≤ (enc s).length ∧ i = .int .i64 k ∧ wr = w4.drewN d) (fun i _ => (enc s).length - (intOf i).toNat)
        case atStart => exact ⟨0, d, Nat.zero_le _, rfl, rfl⟩
        case round =>
          obtain ⟨k2, d2, hk, rfl, rfl⟩ := hrel
          by_cases hlt : k2 < (enc s).length
          · obtain ⟨z, hz⟩ : ∃ z : Nat, (enc s)[k2]? = some z := ⟨(enc s)[k2]'(by omega), by simp⟩
            obtain ⟨b4, o4, rfl, g4⟩ := q4 k2 _ (u8s_at hz)
            obtain ⟨b3, o3, rfl, g3⟩ := q3 (n + k2) _ (u8s_at (l := bs ++ enc s) (z := z) (by rw [List.getElem?_append_right (by omega)]; rw [hl, Nat.add_sub_cancel_left]; exact hz))
            clear hz
            go_wp2_with fail
            go_quiet (fail)
            go_wp2_with fail
            go_roundw
            case rel => exact ⟨k2 + 1, _, by omega, by go_num, rfl⟩
            case measure => simp [intOf]; omega
          · obtain ⟨b4, o4, rfl, g4⟩ := q4 0 _ (u8s_at (enc_first s))
            have g4' : w4.cell? ⟨b4, o4, none⟩ = some (.int .u8 34) := g4
            have g5 : w4.cell? ⟨b4, o4 + ((enc s).length - 1), none⟩ = some (.int .u8 34) := q4.at (u8s_at (enc_last s))
            have em : 0 < (enc s).length := by omega
            clear g4
            go_wp2_with fail
            clear hk hlt g4' g5
            go_loopw [9] (fun i wr => ∃ k d : Nat, k ≤ (enc s).length ∧ i = .int .i64 k ∧ wr = w4.drewN d) (fun i _ => (enc s).length - (intOf i).toNat)
            case atStart => exact ⟨0, d2, Nat.zero_le _, rfl, rfl⟩
            case round =>
              obtain ⟨k3, d3, hk, rfl, rfl⟩ := hrel
              by_cases hlt : k3 < (enc s).length
              · obtain ⟨z, hz⟩ : ∃ z : Nat, (enc s)[k3]? = some z := ⟨(enc s)[k3]'(by omega), by simp⟩
                have g4 := q4.at (u8s_at hz)
                have hz32 := enc_ge s k3 z hz
                clear hz
                go_wp2_with fail
                go_roundw
                case rel => exact ⟨k3 + 1, _, by omega, by go_num, rfl⟩
                case measure => simp [intOf]; omega
              · go_wp2_with fail
                clear hk hlt
                go_loopw [10, 11] (fun p i wr => ∃ k d : Nat, k ≤ s.size ∧ i = .int .i64 k ∧ p = .bool (plainAll (s.data.toList.take k)) ∧ wr = w4.drewN d) (fun _ i _ => s.size - (intOf i).toNat)
                case atStart => exact ⟨0, d3, Nat.zero_le _, rfl, by simp [plainAll], rfl⟩
                case round =>
                  obtain ⟨k4, d4, hk, rfl, rfl, rfl⟩ := hrel
                  by_cases hlt : k4 < s.size
                  · have HP : Hid (plainAll (s.data.toList.take (k4 + 1)) = (plainAll (s.data.toList.take k4) && plainC s[k4])) := plainAll_snoc s k4 hlt
                    by_cases h1 : (s[k4].toNat : Int) < 32
                    · go_wp2_with fail
                      go_roundw
                      case rel => exact ⟨k4 + 1, _, by omega, by go_num, by rw [HP.out]; simp [plainC]; omega, rfl⟩
                      case measure => simp [intOf]; omega
                    by_cases h2 : (s[k4].toNat : Int) = 34
                    · go_wp2_with fail
                      go_roundw
                      case rel => exact ⟨k4 + 1, _, by omega, by go_num, by rw [HP.out]; simp [plainC]; omega, rfl⟩
                      case measure => simp [intOf]; omega
                    by_cases h3 : (s[k4].toNat : Int) = 92
                    · go_wp2_with fail
                      go_roundw
                      case rel => exact ⟨k4 + 1, _, by omega, by go_num, by rw [HP.out]; simp [plainC]; omega, rfl⟩
                      case measure => simp [intOf]; omega
                    · have h2' : ((s[k4].toNat : Int) == 34) = false := by simpa using h2
                      have h3' : ((s[k4].toNat : Int) == 92) = false := by simpa using h3
                      go_wp2_with fail
                      go_roundw
                      case rel => exact ⟨k4 + 1, _, by omega, by go_num, by rw [HP.out]; simp [plainC]; omega, rfl⟩
                      case measure => simp [intOf]; omega
                  · have ht : s.data.toList.take k4 = s.data.toList := List.take_of_length_le (by simp; omega)
                    rw [ht]
                    by_cases hp : plainAll s.data.toList = true
                    · have hpl := enc_plain_len s hp
                      rw [hp]
                      have hpl' : ((enc s).length : Int) = (s.size : Int) + 2 := by omega
                      have HPL : Hid ((enc s).length = s.size + 2) := hpl
                      clear hpl ht
                      go_wp2_with fail
                      clear hk hlt hpl'
                      go_loopw [12] (fun i wr => ∃ k d : Nat, k ≤ s.size ∧ i = .int .i64 k ∧ wr = w4.drewN d) (fun i _ => s.size - (intOf i).toNat)
                      case atStart => exact ⟨0, d4, Nat.zero_le _, rfl, rfl⟩
                      case round =>
                        obtain ⟨k5, d5, hk, rfl, rfl⟩ := hrel
                        by_cases hlt : k5 < s.size
                        · have g4 := q4.at (u8s_at (enc_plain_at s hp k5 hlt))
                          have hb5 : (k5 : Int) + 1 < ((enc s).length : Int) := by have := HPL.out; omega
                          go_wp2_with fail
                          go_quiet (fail)
                          go_wp2_with fail
                          go_roundw
                          case rel => exact ⟨k5 + 1, _, by omega, by go_num, rfl⟩
                          case measure => simp [intOf]; omega
                        · go_wp2_with fail
                          go_ret
                          exact ⟨rfl, below_drewN hB _⟩
                    · have hp' : plainAll s.data.toList = false := by simpa using hp
                      go_wp2_with fail
                      go_ret
                      exact ⟨rfl, below_drewN hB _⟩
  · have hd : decide (n + s.size ≤ 1048576) = false := decide_eq_false hsz
    go_enter Try.func9, Try.ntmps9
    go_wp2_with fail
    refine (zz33 ao n c s _ hn hs).mono ?_
    rintro e w' ⟨rfl, rfl⟩
    go_wp2_with fail
    go_ret
    exact ⟨rfl, Below.refl _ _⟩
end Go.Proofs.Qxb6602088a
