/- 'isDigits' and 'ZZIsDigits': the contract over plain lists of bytes. -/
import Derived.Test.Qxb6601084aRows
import Derived.WalkKit
import Derived.RowKit3
namespace Go.Proofs.Qxb6601084a
open Go.RowKit

/-- Is this byte a decimal digit? -/
def dgB (c : UInt8) : Bool := decide (48 ≤ (c.toNat : Int) ∧ (c.toNat : Int) ≤ 57)
/-- What isDigits answers. -/
def isDig (s : ByteArray) : Bool := s.data.toList.all dgB && decide (0 < s.size)

theorem take_snoc (s : ByteArray) (k : Nat) (h : k < s.size) : s.data.toList.take (k + 1) = s.data.toList.take k ++ [s[k]] := by
  rw [List.take_succ_eq_append_getElem (by simpa using h)]; rfl
theorem all_step (s : ByteArray) (k : Nat) (h : k < s.size) (ha : (s.data.toList.take k).all dgB = true) (h1 : 48 ≤ (s[k].toNat : Int)) (h2 : (s[k].toNat : Int) ≤ 57) :
    (s.data.toList.take (k + 1)).all dgB = true := by
  rw [take_snoc s k h, List.all_append, ha]; simp [dgB, h1, h2]
theorem all_stop (s : ByteArray) (k : Nat) (h : k < s.size) (h1 : (s[k].toNat : Int) < 48 ∨ 57 < (s[k].toNat : Int)) : isDig s = false := by
  unfold isDig
  have e : s.data.toList.all dgB = false := by
    rw [List.all_eq_false]
    refine ⟨s[k], ?_, ?_⟩
    · exact List.getElem_mem (l := s.data.toList) (n := k) (by simpa using h)
    · unfold dgB; simp; omega
  rw [e]; rfl
theorem all_done (s : ByteArray) (ha : (s.data.toList.take s.size).all dgB = true) : isDig s = !s.toList.isEmpty := by
  unfold isDig
  rw [List.take_of_length_le (by simp)] at ha
  have hl : s.data.toList.length = s.size := by simp
  rw [ha, ByteArray.toList_eq]
  match h : s.data.toList, hl with
  | [], hl => simp at hl; simp [← hl]
  | _ :: _, hl => simp at hl; simp; omega

set_option maxHeartbeats 400000 in
theorem isDigits_any (s : ByteArray) (w : World) (hs : s.size ≤ maxLen) :
    Calls Try.prog 20 #[.string s] w fun e w' => e = .returned (.bool (isDig s)) ∧ w' = w := by
  unfold maxLen at hs
  go_enter Try.func20, Try.ntmps20
  go_wp2
  go_loop [3] (fun i => ∃ k : Nat, k ≤ s.size ∧ i = .int .i64 k ∧ Hid ((s.data.toList.take k).all dgB = true)) (fun i => s.size - (intOf i).toNat)
  case atStart => exact ⟨0, Nat.zero_le _, rfl, rfl⟩
  case round =>
    obtain ⟨k, hk, rfl, ha⟩ := hrel
    by_cases hlt : k < s.size
    · by_cases h1 : (s[k].toNat : Int) < 48
      · have hf := all_stop s k hlt (.inl h1)
        go_wp2
        go_ret
        exact ⟨rfl, rfl⟩
      · by_cases h2 : 57 < (s[k].toNat : Int)
        · have hf := all_stop s k hlt (.inr h2)
          go_wp2
          go_ret
          exact ⟨rfl, rfl⟩
        · go_wp2
          go_round
          case rel => exact ⟨k + 1, by omega, by go_num, all_step s k hlt ha.out (by omega) (by omega)⟩
          case measure => simp [intOf]; omega
    · have hk' : k = s.size := by omega
      have ha' := all_done s (by rw [← hk']; exact ha.out)
      go_wp2
      go_ret
      exact ⟨rfl, rfl⟩

/-- The shim on top. -/
theorem zzdig (s : ByteArray) (w : World) (hs : s.size ≤ maxLen) :
    Calls Try.prog 15 #[.string s] w fun e w' => e = .returned (.bool (isDig s)) ∧ w' = w := by
  go_enter Try.func15, Try.ntmps15
  go_wp2_with (go_at_call 20; refine (isDigits_any _ _ hs).mono ?_; rintro e w' ⟨rfl, rfl⟩)
  go_ret
  exact ⟨rfl, rfl⟩
end Go.Proofs.Qxb6601084a
