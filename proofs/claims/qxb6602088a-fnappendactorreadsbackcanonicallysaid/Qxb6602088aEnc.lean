/-
  Seat b6602088a. Plain facts on what appendActor writes ('enc'): no Go in sight.
-/
import Derived.Test.Qxb6602088aBytes
namespace Go.Proofs.Qxb6602088a
open Go.RowKit

theorem u8s_append (a b : List Nat) : u8s (a ++ b) = u8s a ++ u8s b := by simp [u8s]
theorem u8s_at {l : List Nat} {i z : Nat} (h : l[i]? = some z) : (u8s l)[i]? = some (.int .u8 (z : Int)) := by simp [u8s, h]

theorem escAll_len (l : List UInt8) : l.length ≤ (escAll l).length ∧ (escAll l).length ≤ 6 * l.length := by
  induction l with
  | nil => simp [escAll]
  | cons a l ih =>
    have h := esc_len a.toNat
    have e : escAll (a :: l) = esc a.toNat ++ escAll l := by simp [escAll]
    rw [e]
    simp only [List.length_append, List.length_cons]
    omega

theorem enc_len (s : ByteArray) : s.size + 2 ≤ (enc s).length ∧ (enc s).length ≤ 6 * s.size + 2 := by
  have h := escAll_len s.data.toList
  have e : s.data.toList.length = s.size := by simp
  rw [enc_length]
  omega

theorem enc_first (s : ByteArray) : (enc s)[0]? = some 34 := by simp [enc]
theorem enc_last (s : ByteArray) : (enc s)[(enc s).length - 1]? = some 34 := by
  rw [enc_length]
  have e : (escAll s.data.toList).length + 2 - 1 = (34 :: escAll s.data.toList).length := by simp
  rw [e, enc]
  simp

theorem hexd_ge (n : Nat) : 32 ≤ hexd n := by unfold hexd; split <;> omega

theorem esc_ge (c : Nat) : ∀ x ∈ esc c, 32 ≤ x := by
  intro x hx
  unfold esc at hx
  split at hx
  · rename_i h; simp at hx; rcases hx with rfl | rfl <;> omega
  split at hx
  · simp at hx; omega
  split at hx
  · simp at hx; omega
  split at hx
  · simp at hx; omega
  split at hx
  · simp at hx; omega
  split at hx
  · simp at hx; omega
  split at hx
  · have h1 := hexd_ge (c / 16)
    have h2 := hexd_ge (c % 16)
    simp at hx
    omega
  · simp at hx; omega

theorem enc_ge (s : ByteArray) : ∀ (i x : Nat), (enc s)[i]? = some x → 32 ≤ x := by
  intro i x h
  have hm := List.mem_of_getElem? h
  simp only [enc, List.cons_append, List.mem_cons, List.mem_append, List.not_mem_nil, or_false] at hm
  rcases hm with rfl | hm | rfl
  · omega
  · simp only [escAll, List.mem_flatMap] at hm
    obtain ⟨c, _, hc⟩ := hm
    exact esc_ge _ x hc
  · omega

/-- A byte that is written as it stands. -/
def plainC (c : UInt8) : Bool := !(decide (c.toNat < 32) || c.toNat == 34 || c.toNat == 92)
def plainAll (l : List UInt8) : Bool := l.all plainC

theorem plainAll_snoc (s : ByteArray) (k : Nat) (h : k < s.size) : plainAll (s.data.toList.take (k + 1)) = (plainAll (s.data.toList.take k) && plainC s[k]) := by
  rw [take_snoc s k h]; simp [plainAll]

theorem esc_plain (c : UInt8) (h : plainC c = true) : esc c.toNat = [c.toNat] := by
  simp [plainC] at h
  unfold esc
  rw [if_neg (by omega), if_neg (by omega), if_neg (by omega), if_neg (by omega), if_neg (by omega), if_neg (by omega), if_neg (by omega)]

theorem escAll_plain (l : List UInt8) (h : plainAll l = true) : escAll l = l.map (·.toNat) := by
  induction l with
  | nil => rfl
  | cons a l ih =>
    simp [plainAll] at h
    have e : escAll (a :: l) = esc a.toNat ++ escAll l := by simp [escAll]
    rw [e, esc_plain a h.1, ih (by simpa [plainAll] using h.2)]
    rfl

theorem enc_plain_len (s : ByteArray) (h : plainAll s.data.toList = true) : (enc s).length = s.size + 2 := by
  rw [enc_length, escAll_plain _ h]; simp

theorem enc_plain_at (s : ByteArray) (h : plainAll s.data.toList = true) (k : Nat) (hk : k < s.size) : (enc s)[k + 1]? = some s[k].toNat := by
  rw [enc, escAll_plain _ h]
  have hk' : k < s.data.toList.length := by simpa using hk
  simp only [List.cons_append, List.getElem?_cons_succ]
  rw [List.getElem?_append_left (by simpa using hk)]
  rw [List.getElem?_map, List.getElem?_eq_getElem hk']
  rfl

end Go.Proofs.Qxb6602088a
