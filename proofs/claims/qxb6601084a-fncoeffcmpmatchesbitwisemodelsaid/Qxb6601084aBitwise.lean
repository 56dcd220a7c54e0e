/- 'bit128b1', 'cmpBitwiseB1': the contracts. -/
import Derived.Test.Qxb6601084aBits
import Derived.Test.Qxb6601084aCmp
import Derived.WalkSmall
namespace Go.Proofs.Qxb6601084a
open Go.RowKit

/-- The number of two words. -/
def whole (hi lo : Nat) : Nat := hi * 2 ^ 64 + lo
/-- A word. -/
def Word (n : Nat) : Prop := n < 2 ^ 64

theorem andOne (n k : Nat) (h : Word n) : bits BinOp.and IntKind.u64 ((n : Int) / 2 ^ k) 1 = ((n / 2 ^ k % 2 : Nat) : Int) := by
  unfold Word at h
  have e : (n : Int) / 2 ^ k = ((n / 2 ^ k : Nat) : Int) := by
    rw [Int.natCast_ediv, Int.natCast_pow]; rfl
  have hle : n / 2 ^ k ≤ n := Nat.div_le_self _ _
  rw [e, and_one_u64 _ (Int.natCast_nonneg _) (by omega), Int.natCast_emod]; rfl

theorem ret_i64 {a b : Int} (h : b = a) : Ending.returned (.int .i64 a) = .returned (.int .i64 b) := by rw [h]
theorem ret_u64 {a b : Int} (h : a = b) : Ending.returned (.int .u64 a) = .returned (.int .u64 b) := by rw [h]

set_option maxHeartbeats 400000 in
theorem bit_any (hi lo i : Nat) (hh : Word hi) (hl : Word lo) (h' : i < 128) (w : World) :
    Calls Try.prog 18 #[.int .u64 hi, .int .u64 lo, .int .i64 i] w fun e w' => e = .returned (.int .u64 (Bits.bitAt (whole hi lo) i : Nat)) ∧ w' = w := by
  by_cases h : 64 ≤ i
  · have g : (64 : Int) ≤ (i : Int) := by omega
    go_enter Try.func18, Try.ntmps18
    go_wp2
    go_ret
    exact ⟨ret_u64 ((andOne hi (i - 64) hh).trans (by rw [Bits.bitAt_hi hi lo i h hl]; rfl)), rfl⟩
  · have g : (i : Int) < 64 := by omega
    go_enter Try.func18, Try.ntmps18
    go_wp2
    go_ret
    exact ⟨ret_u64 ((andOne lo i hl).trans (by rw [Bits.bitAt_lo hi lo i (by omega)]; rfl)), rfl⟩

theorem whole_lt {ch cl xh xl : Nat} (h1 : Word cl) (h2 : Word xl) (h : whole ch cl < whole xh xl) : cmpI ch cl xh xl = -1 := by
  unfold whole at h; unfold Word at h1 h2
  by_cases g : ch < xh
  · exact cmpI_a (by omega)
  · obtain rfl : ch = xh := by omega
    exact cmpI_c (by omega)
theorem whole_gt {ch cl xh xl : Nat} (h1 : Word cl) (h2 : Word xl) (h : whole xh xl < whole ch cl) : cmpI ch cl xh xl = 1 := by
  unfold whole at h; unfold Word at h1 h2
  by_cases g : xh < ch
  · exact cmpI_b (by omega)
  · obtain rfl : ch = xh := by omega
    exact cmpI_d (by omega)
theorem whole_eq {ch cl xh xl : Nat} (h1 : Word cl) (h2 : Word xl) (h : whole ch cl = whole xh xl) : cmpI ch cl xh xl = 0 := by
  unfold whole at h; unfold Word at h1 h2
  obtain rfl : ch = xh := by omega
  obtain rfl : cl = xl := by omega
  exact cmpI_e
theorem whole_top {h l : Nat} (h1 : Word h) (h2 : Word l) : whole h l / 2 ^ 128 = 0 := by
  unfold Word at h1 h2; unfold whole
  exact Bits.top _ (by omega)

set_option maxHeartbeats 800000 in
theorem bitwise_any (ch cl xh xl : Nat) (h1 : Word ch) (h2 : Word cl) (h3 : Word xh) (h4 : Word xl) (w : World) :
    Calls Try.prog 12 #[.int .u64 ch, .int .u64 cl, .int .u64 xh, .int .u64 xl] w fun e w' => e = .returned (.int .i64 (cmpI ch cl xh xl)) ∧ w' = w := by
  go_enter Try.func12, Try.ntmps12
  go_wp2
  go_loop [9] (fun i => ∃ m : Nat, m ≤ 128 ∧ i = .int .i64 ((m : Int) - 1) ∧ Hid (whole ch cl / 2 ^ m = whole xh xl / 2 ^ m)) (fun i => (intOf i + 1).toNat)
  case atStart => exact ⟨128, Nat.le_refl _, rfl, (whole_top h1 h2).trans (whole_top h3 h4).symm⟩
  case round =>
    obtain ⟨m, hm, rfl, ha⟩ := hrel
    cases m with
    | zero =>
      have hv := whole_eq h2 h4 (by have := ha.out; simpa using this)
      rw [show (((0 : Nat) : Int) - 1) = -1 from rfl]
      go_wp2
      go_ret
      exact ⟨rfl, rfl⟩
    | succ j =>
      rw [show (((j + 1 : Nat) : Int) - 1) = (j : Int) from by omega]
      obtain ⟨p, hp⟩ : ∃ p, p = Bits.bitAt (whole ch cl) j := ⟨_, rfl⟩
      obtain ⟨q, hq⟩ : ∃ q, q = Bits.bitAt (whole xh xl) j := ⟨_, rfl⟩
      have k1 := bit_any ch cl j h1 h2 (by omega)
      have k2 := bit_any xh xl j h3 h4 (by omega)
      rw [← hp] at k1
      rw [← hq] at k2
      have lp : p ≤ 1 := by rw [hp]; exact Bits.bitAt_le _ _
      have lq : q ≤ 1 := by rw [hq]; exact Bits.bitAt_le _ _
      have HP : Hid _ := hp
      have HQ : Hid _ := hq
      clear hp hq
      have hj : (0 : Int) ≤ (j : Int) := by omega
      rcases (show (p = 0 ∧ q = 0) ∨ (p = 0 ∧ q = 1) ∨ (p = 1 ∧ q = 0) ∨ (p = 1 ∧ q = 1) from by omega) with ⟨rfl, rfl⟩ | ⟨rfl, rfl⟩ | ⟨rfl, rfl⟩ | ⟨rfl, rfl⟩
      · go_wp2_with fail
        refine (k1 _).mono ?_
        rintro e w' ⟨rfl, hw⟩; subst hw
        go_wp2_with fail
        refine (k2 _).mono ?_
        rintro e w' ⟨rfl, hw⟩; subst hw
        go_wp2
        go_round
        case rel => exact ⟨j, by omega, by go_num, Bits.step _ _ _ ha.out (HP.out.symm.trans HQ.out)⟩
        case measure => simp [intOf]
      · have hv := whole_lt h2 h4 (Bits.decides _ _ _ ha.out HP.out.symm (by rw [← HQ.out]; decide))
        go_wp2_with fail
        refine (k1 _).mono ?_
        rintro e w' ⟨rfl, hw⟩; subst hw
        go_wp2_with fail
        refine (k2 _).mono ?_
        rintro e w' ⟨rfl, hw⟩; subst hw
        go_wp2
        go_ret
        exact ⟨ret_i64 hv, rfl⟩
      · have hv := whole_gt h2 h4 (Bits.decides _ _ _ ha.out.symm HQ.out.symm (by rw [← HP.out]; decide))
        go_wp2_with fail
        refine (k1 _).mono ?_
        rintro e w' ⟨rfl, hw⟩; subst hw
        go_wp2_with fail
        refine (k2 _).mono ?_
        rintro e w' ⟨rfl, hw⟩; subst hw
        go_wp2
        go_ret
        exact ⟨ret_i64 hv, rfl⟩
      · go_wp2_with fail
        refine (k1 _).mono ?_
        rintro e w' ⟨rfl, hw⟩; subst hw
        go_wp2_with fail
        refine (k2 _).mono ?_
        rintro e w' ⟨rfl, hw⟩; subst hw
        go_wp2
        go_round
        case rel => exact ⟨j, by omega, by go_num, Bits.step _ _ _ ha.out (HP.out.symm.trans HQ.out)⟩
        case measure => simp [intOf]
end Go.Proofs.Qxb6601084a
