/- 'FnIsDigitsMatchesCountModel': the walk. -/
import Derived.Test.Qxb6601084aDigits
namespace Go.Proofs.Qxb6601084a
open Go.RowKit

/-- How many of these bytes are digits. -/
def cnt (l : List UInt8) : Nat := (l.filter dgB).length
theorem cnt_le (l : List UInt8) : cnt l ≤ l.length := List.length_filter_le _ _
theorem cnt_yes (s : ByteArray) (k : Nat) (h : k < s.size) (h1 : 48 ≤ (s[k].toNat : Int)) (h2 : (s[k].toNat : Int) ≤ 57) :
    cnt (s.data.toList.take (k + 1)) = cnt (s.data.toList.take k) + 1 := by
  have e : dgB s[k] = true := by simp [dgB, h1, h2]
  rw [take_snoc s k h]; unfold cnt; simp [List.filter_append, e]
theorem cnt_no (s : ByteArray) (k : Nat) (h : k < s.size) (h1 : (s[k].toNat : Int) < 48 ∨ 57 < (s[k].toNat : Int)) :
    cnt (s.data.toList.take (k + 1)) = cnt (s.data.toList.take k) := by
  have e : dgB s[k] = false := by unfold dgB; simp; omega
  rw [take_snoc s k h]; unfold cnt; simp [List.filter_append, e]
theorem cnt_all (l : List UInt8) : cnt l = l.length ↔ l.all dgB = true := by
  unfold cnt
  rw [List.length_filter_eq_length_iff, List.all_eq_true]
theorem isDig_zero (s : ByteArray) (h : s.size = 0) : isDig s = false := by unfold isDig; simp [h]
theorem isDig_yes (s : ByteArray) (h : 0 < s.size) (hc : cnt (s.data.toList.take s.size) = s.size) : isDig s = true := by
  have hl : s.data.toList.length = s.size := by simp
  rw [List.take_of_length_le (by omega)] at hc
  unfold isDig
  rw [(cnt_all _).1 (by omega)]; simp [h]
theorem isDig_no (s : ByteArray) (hc : ¬ cnt (s.data.toList.take s.size) = s.size) : isDig s = false := by
  have hl : s.data.toList.length = s.size := by simp
  rw [List.take_of_length_le (by omega)] at hc
  unfold isDig
  have : s.data.toList.all dgB = false := by
    rw [Bool.eq_false_iff]; intro h; exact hc (by have := (cnt_all _).2 h; omega)
  rw [this]; rfl

set_option maxHeartbeats 800000 in
theorem count_walk (s : ByteArray) (w : World) (hs : s.size ≤ maxLen) :
    Calls Try.prog 8 #[.string s] w fun e w' => e = .returned (.bool true) ∧ w' = w := by
  have hs' := hs
  unfold maxLen at hs
  by_cases hbig : (1048576 : Int) < (s.size : Int)
  · go_enter Try.func8, Try.ntmps8
    go_wp2
    go_ret
    exact ⟨rfl, rfl⟩
  go_enter Try.func8, Try.ntmps8
  go_wp2
  go_loop [3, 4] (fun n i => ∃ k : Nat, k ≤ s.size ∧ i = .int .i64 k ∧ n = .int .i64 (cnt (s.data.toList.take k) : Nat)) (fun _ i => s.size - (intOf i).toNat)
  case atStart => exact ⟨0, Nat.zero_le _, rfl, rfl⟩
  case round =>
    obtain ⟨k, hk, rfl, rfl⟩ := hrel
    have hc := cnt_le (s.data.toList.take k)
    have hl : (s.data.toList.take k).length ≤ k := List.length_take_le _ _
    by_cases hlt : k < s.size
    · by_cases h1 : (s[k].toNat : Int) < 48
      · have HS : Hid _ := cnt_no s k hlt (.inl h1)
        go_wp2
        go_round
        case rel => exact ⟨k + 1, by omega, by go_num, by rw [HS.out]⟩
        case measure => simp [intOf]; omega
      · by_cases h2 : 57 < (s[k].toNat : Int)
        · have HS : Hid _ := cnt_no s k hlt (.inr h2)
          have h3 : (s[k].toNat : Int) ≤ 255 := by have := s[k].toNat_lt; omega
          go_wp2
          go_round
          case rel => exact ⟨k + 1, by omega, by go_num, by rw [HS.out]⟩
          case measure => simp [intOf]; omega
        · have HS : Hid _ := cnt_yes s k hlt (by omega) (by omega)
          go_wp2
          go_round
          case rel => exact ⟨k + 1, by omega, by go_num, by rw [HS.out]; go_num⟩
          case measure => simp [intOf]; omega
    · obtain rfl : k = s.size := by omega
      by_cases hz : s.size = 0
      · have hd := isDig_zero s hz
        have hz' : ¬ (0 : Int) < (s.size : Int) := by omega
        have H : Hid _ := hz
        clear hz
        go_wp2_with (go_at_call 15; refine (zzdig s _ hs').mono ?_; rintro e w' ⟨rfl, rfl⟩)
        go_ret
        exact ⟨rfl, rfl⟩
      · have hz' : (0 : Int) < (s.size : Int) := by omega
        clear hz
        by_cases hn : cnt (s.data.toList.take s.size) = s.size
        · have hd := isDig_yes s (by omega) hn
          go_wp2_with (go_at_call 15; refine (zzdig s _ hs').mono ?_; rintro e w' ⟨rfl, rfl⟩)
          go_ret
          exact ⟨rfl, rfl⟩
        · have hd := isDig_no s hn
          have hn' : ((cnt (s.data.toList.take s.size) : Int) == (s.size : Int)) = false := by simp; omega
          clear hn
          go_wp2_with (go_at_call 15; refine (zzdig s _ hs').mono ?_; rintro e w' ⟨rfl, rfl⟩)
          go_ret
          exact ⟨rfl, rfl⟩
end Go.Proofs.Qxb6601084a
