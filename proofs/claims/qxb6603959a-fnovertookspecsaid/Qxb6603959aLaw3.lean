/- FnOvertookSpec: the law's walk, its main ways. -/
import Derived.Test.Qxb6603959aEarly3
import Derived.Test.Qxb6603959aToZZ
import Derived.Test.Qxb6603959aOverAll
namespace Go.Proofs.Qxb6603959a
open Go.RowKit

theorem below_two (w : World) (A B : Obj) : Below w.heap.size w ((w.alloc A).alloc B) := ((Below.refl _ w).alloc (Nat.le_refl _) A).alloc (by simp) B

/-- The law's own variable behind the two calls. -/
theorem law3_mem {w w1 w2 : World} {A : Array Value} {B : Obj} {v1 v2 v3 : Value} (hb1 : Below ((w.alloc (.cells A 25)).alloc B).heap.size ((w.alloc (.cells A 25)).alloc B) w1) (hb2 : Below w1.heap.size w1 w2) (h1 : A[1]? = some v1) (h2 : A[2]? = some v2) (h3 : A[3]? = some v3) :
    Below w.heap.size w w2 ∧ w2.cell? ⟨w.heap.size, 1, none⟩ = some v1 ∧ w2.cell? ⟨w.heap.size, 2, none⟩ = some v2 ∧ w2.cell? ⟨w.heap.size, 3, none⟩ = some v3 := by
  have hz1 := hb1.size
  have hz2 := hb2.size
  simp at hz1
  have hr := (row_new w A 25).alloc B
  have hk : ∀ (j : Nat) (v : Value), A[j]? = some v → w2.cell? ⟨w.heap.size, j, none⟩ = some v := fun j v h => by
    rw [hb2.cell (p := ⟨w.heap.size, j, none⟩) (by show w.heap.size < _; omega), hb1.cell (p := ⟨w.heap.size, j, none⟩) (by simp; omega), hr.cell (Array.getElem?_eq_some_iff.1 h).1]
    simp [h]
  exact ⟨((below_two w _ B).trans (hb1.mono (by simp; omega))).trans (hb2.mono (by omega)), hk 1 _ h1, hk 2 _ h2, hk 3 _ h3⟩

attribute [local go_sem ↓] load25_pre
attribute [local go_sem] load25_new load25_old

set_option maxHeartbeats 4000000 in
theorem law3_match (P : Prg) (o2 : Option Addr) (b off n1 c1 n2 c2 k : Nat) (X1 X2 : Nat → El) (w : World) (hb : b < w.heap.size) (hL : Lies w b off n1 X1) (hS2 : Src 0 w o2 n2 X2) (hn : n1 + n2 ≤ 16384) (hk : k < n1) (hM : (X1 k).a ≤ P.ma) :
    Calls Try.prog 3 #[.agg #[.int .u8 P.st, .int .u64 P.ma, .int .u64 P.nx, .slice (some ⟨b, off, none⟩) n1 c1, .int .i64 P.wi, .int .i64 P.fl, .int .i64 P.ak, .int .u64 P.sd, .int .u64 P.lr, .bool P.ro, .slice o2 n2 c2, .int .u64 P.rh, .int .u64 P.hf, .int .u64 P.hl, .int .u64 P.hz, .int .i64 P.tk, .int .u64 P.sn, .int .i64 P.ra, .bool P.av, .int .u64 P.rd, .int .u64 P.cm], .int .i64 k] w fun e w' => e = .returned (.bool true) ∧ Below w.heap.size w w' := by
  have g : (n1 : Int) + (n2 : Int) ≤ 16384 := by omega
  have hk0 : (0 : Int) ≤ (k : Int) := by omega
  have hk1 : (k : Int) < (n1 : Int) := by omega
  have hS1 : Src 0 w (some ⟨b, off, none⟩) n1 X1 := .inr ⟨b, off, rfl, Nat.zero_le _, hb, hL⟩
  obtain ⟨v, hv⟩ : ∃ v, overB P.ma P.nx X1 k = v := ⟨_, rfl⟩
  go_enter Try.func3, Try.ntmps3
  go_wp2_with fail
  refine (bytes5_true P (some ⟨b, off, none⟩) o2 n1 c1 n2 c2 k _ (by omega)).mono ?_
  rintro e w' ⟨rfl, c, rfl⟩
  go_wp2_with fail
  refine (toZZ P (some ⟨b, off, none⟩) o2 n1 c1 n2 c2 X1 X2 _ (by omega) (by omega) (hS1.below (below_two w _ _)) (hS2.below (below_two w _ _))).mono ?_
  rintro e w1 ⟨q1, q2, d1, d2, rfl, hR1, hR2, hb1⟩
  go_wp2_with fail
  refine (zzOver P q1 q2 n1 d1 n2 d2 k X1 X2 _ (by omega) (by omega) (hR1.mono (Nat.zero_le _)) (hR2.mono (Nat.zero_le _)) hk).mono ?_
  rintro e w2 ⟨rfl, hb2⟩
  rw [hv]
  obtain ⟨hbl, k1, k2, k3⟩ := law3_mem hb1 hb2 rfl rfl rfl
  have hL2 := hL.below hbl hb
  obtain ⟨i, hi⟩ : ∃ i, i = (X1 k).a := ⟨_, rfl⟩
  obtain ⟨e0, _⟩ := hL2 k hk
  rw [← hi] at e0
  have HV : Hid (overB P.ma P.nx X1 k = v) := hv
  have HI : Hid (i = (X1 k).a) := hi
  rw [← hi] at hM
  clear hv hi hb1 hb2 hR1 hR2 hS1 hS2 hL
  go_wp2
  go_loop [8, 9, 10] (fun s h j => ∃ m : Nat, m ≤ k ∧ j = .int .i64 m ∧ s = .bool (decide (0 < m)) ∧ h = .int .u64 (hiAt X1 m)) (fun _ _ j => k - (intOf j).toNat)
  case atStart => exact ⟨0, Nat.zero_le _, rfl, rfl, rfl⟩
  case round =>
    obtain ⟨m, hm, rfl, rfl, rfl⟩ := hrel
    by_cases hlt : m < k
    · have hlt' : (m : Int) < (k : Int) := by omega
      have hm0 : (0 : Int) ≤ (m : Int) := by omega
      have hm1 : (m : Int) < (n1 : Int) := by omega
      obtain ⟨_, e1, _⟩ := hL2 m (by omega)
      by_cases hz : m = 0
      · subst hz
        have HU : Hid _ := hiAt_one X1
        rw [show decide (0 < 0) = false from rfl]
        simp only [Nat.zero_mul, Nat.add_zero, Int.natCast_zero] at e1 ⊢
        go_wp2
        go_round
        case rel => exact ⟨1, by omega, rfl, rfl, by rw [HU.out]⟩
        case measure => simp [intOf]; omega
      · rw [show decide (0 < m) = true from decide_eq_true (by omega)]
        by_cases hu : hiAt X1 m < (X1 m).b
        · have HU : Hid _ := hiAt_up hu
          clear hz
          go_wp2
          go_round
          case rel => exact ⟨m + 1, by omega, by go_num, by simp, by rw [HU.out]⟩
          case measure => simp [intOf]; omega
        · have HU : Hid _ := hiAt_stay (X := X1) (m := m) (by omega) (by omega)
          clear hz
          go_wp2
          go_round
          case rel => exact ⟨m + 1, by omega, by go_num, by simp, by rw [HU.out]⟩
          case measure => simp [intOf]; omega
    · obtain rfl : m = k := by omega
      have hv' : v = true := by rw [← HV.out]; unfold overB; rw [← HI.out]; simp [hM]
      subst hv'
      by_cases hz : m = 0
      · subst hz
        rw [show decide (0 < 0) = false from rfl]
        go_wp2
        go_ret
        exact ⟨by simp, hbl⟩
      · rw [show decide (0 < m) = true from decide_eq_true (by omega)]
        clear hz
        by_cases hh : i ≤ hiAt X1 m
        · go_wp2
          go_ret
          exact ⟨by simp, hbl⟩
        · have hh' : decide (i ≤ hiAt X1 m) = false := decide_eq_false hh
          clear hh
          go_wp2
          go_ret
          exact ⟨by simp, hbl⟩

set_option maxHeartbeats 4000000 in
theorem law3_next (P : Prg) (o2 : Option Addr) (b off n1 c1 n2 c2 k : Nat) (X1 X2 : Nat → El) (w : World) (hb : b < w.heap.size) (hL : Lies w b off n1 X1) (hS2 : Src 0 w o2 n2 X2) (hn : n1 + n2 ≤ 16384) (hk : k < n1) (hM : P.ma < (X1 k).a) (hX : P.nx ≤ (X1 k).a) :
    Calls Try.prog 3 #[.agg #[.int .u8 P.st, .int .u64 P.ma, .int .u64 P.nx, .slice (some ⟨b, off, none⟩) n1 c1, .int .i64 P.wi, .int .i64 P.fl, .int .i64 P.ak, .int .u64 P.sd, .int .u64 P.lr, .bool P.ro, .slice o2 n2 c2, .int .u64 P.rh, .int .u64 P.hf, .int .u64 P.hl, .int .u64 P.hz, .int .i64 P.tk, .int .u64 P.sn, .int .i64 P.ra, .bool P.av, .int .u64 P.rd, .int .u64 P.cm], .int .i64 k] w fun e w' => e = .returned (.bool true) ∧ Below w.heap.size w w' := by
  have g : (n1 : Int) + (n2 : Int) ≤ 16384 := by omega
  have hk0 : (0 : Int) ≤ (k : Int) := by omega
  have hk1 : (k : Int) < (n1 : Int) := by omega
  have hS1 : Src 0 w (some ⟨b, off, none⟩) n1 X1 := .inr ⟨b, off, rfl, Nat.zero_le _, hb, hL⟩
  obtain ⟨v, hv⟩ : ∃ v, overB P.ma P.nx X1 k = v := ⟨_, rfl⟩
  go_enter Try.func3, Try.ntmps3
  go_wp2_with fail
  refine (bytes5_true P (some ⟨b, off, none⟩) o2 n1 c1 n2 c2 k _ (by omega)).mono ?_
  rintro e w' ⟨rfl, c, rfl⟩
  go_wp2_with fail
  refine (toZZ P (some ⟨b, off, none⟩) o2 n1 c1 n2 c2 X1 X2 _ (by omega) (by omega) (hS1.below (below_two w _ _)) (hS2.below (below_two w _ _))).mono ?_
  rintro e w1 ⟨q1, q2, d1, d2, rfl, hR1, hR2, hb1⟩
  go_wp2_with fail
  refine (zzOver P q1 q2 n1 d1 n2 d2 k X1 X2 _ (by omega) (by omega) (hR1.mono (Nat.zero_le _)) (hR2.mono (Nat.zero_le _)) hk).mono ?_
  rintro e w2 ⟨rfl, hb2⟩
  rw [hv]
  obtain ⟨hbl, k1, k2, k3⟩ := law3_mem hb1 hb2 rfl rfl rfl
  have hL2 := hL.below hbl hb
  obtain ⟨i, hi⟩ : ∃ i, i = (X1 k).a := ⟨_, rfl⟩
  obtain ⟨e0, _⟩ := hL2 k hk
  rw [← hi] at e0
  have HV : Hid (overB P.ma P.nx X1 k = v) := hv
  have HI : Hid (i = (X1 k).a) := hi
  rw [← hi] at hM hX
  clear hv hi hb1 hb2 hR1 hR2 hS1 hS2 hL
  go_wp2
  go_loop [8, 9, 10] (fun s h j => ∃ m : Nat, m ≤ k ∧ j = .int .i64 m ∧ s = .bool (decide (0 < m)) ∧ h = .int .u64 (hiAt X1 m)) (fun _ _ j => k - (intOf j).toNat)
  case atStart => exact ⟨0, Nat.zero_le _, rfl, rfl, rfl⟩
  case round =>
    obtain ⟨m, hm, rfl, rfl, rfl⟩ := hrel
    by_cases hlt : m < k
    · have hlt' : (m : Int) < (k : Int) := by omega
      have hm0 : (0 : Int) ≤ (m : Int) := by omega
      have hm1 : (m : Int) < (n1 : Int) := by omega
      obtain ⟨_, e1, _⟩ := hL2 m (by omega)
      by_cases hz : m = 0
      · subst hz
        have HU : Hid _ := hiAt_one X1
        rw [show decide (0 < 0) = false from rfl]
        simp only [Nat.zero_mul, Nat.add_zero, Int.natCast_zero] at e1 ⊢
        go_wp2
        go_round
        case rel => exact ⟨1, by omega, rfl, rfl, by rw [HU.out]⟩
        case measure => simp [intOf]; omega
      · rw [show decide (0 < m) = true from decide_eq_true (by omega)]
        by_cases hu : hiAt X1 m < (X1 m).b
        · have HU : Hid _ := hiAt_up hu
          clear hz
          go_wp2
          go_round
          case rel => exact ⟨m + 1, by omega, by go_num, by simp, by rw [HU.out]⟩
          case measure => simp [intOf]; omega
        · have HU : Hid _ := hiAt_stay (X := X1) (m := m) (by omega) (by omega)
          clear hz
          go_wp2
          go_round
          case rel => exact ⟨m + 1, by omega, by go_num, by simp, by rw [HU.out]⟩
          case measure => simp [intOf]; omega
    · obtain rfl : m = k := by omega
      have hv' : v = true := by rw [← HV.out]; unfold overB; rw [← HI.out]; simp [hX]
      subst hv'
      by_cases hz : m = 0
      · subst hz
        rw [show decide (0 < 0) = false from rfl]
        go_wp2
        go_ret
        exact ⟨by simp, hbl⟩
      · rw [show decide (0 < m) = true from decide_eq_true (by omega)]
        clear hz
        by_cases hh : i ≤ hiAt X1 m
        · go_wp2
          go_ret
          exact ⟨by simp, hbl⟩
        · have hh' : decide (i ≤ hiAt X1 m) = false := decide_eq_false hh
          clear hh
          go_wp2
          go_ret
          exact ⟨by simp, hbl⟩

set_option maxHeartbeats 4000000 in
theorem law3_in (P : Prg) (o2 : Option Addr) (b off n1 c1 n2 c2 k : Nat) (X1 X2 : Nat → El) (w : World) (hb : b < w.heap.size) (hL : Lies w b off n1 X1) (hS2 : Src 0 w o2 n2 X2) (hn : n1 + n2 ≤ 16384) (hk : k < n1) (hM : P.ma < (X1 k).a) (hX : (X1 k).a < P.nx) :
    Calls Try.prog 3 #[.agg #[.int .u8 P.st, .int .u64 P.ma, .int .u64 P.nx, .slice (some ⟨b, off, none⟩) n1 c1, .int .i64 P.wi, .int .i64 P.fl, .int .i64 P.ak, .int .u64 P.sd, .int .u64 P.lr, .bool P.ro, .slice o2 n2 c2, .int .u64 P.rh, .int .u64 P.hf, .int .u64 P.hl, .int .u64 P.hz, .int .i64 P.tk, .int .u64 P.sn, .int .i64 P.ra, .bool P.av, .int .u64 P.rd, .int .u64 P.cm], .int .i64 k] w fun e w' => e = .returned (.bool true) ∧ Below w.heap.size w w' := by
  have g : (n1 : Int) + (n2 : Int) ≤ 16384 := by omega
  have hk0 : (0 : Int) ≤ (k : Int) := by omega
  have hk1 : (k : Int) < (n1 : Int) := by omega
  have hS1 : Src 0 w (some ⟨b, off, none⟩) n1 X1 := .inr ⟨b, off, rfl, Nat.zero_le _, hb, hL⟩
  obtain ⟨v, hv⟩ : ∃ v, overB P.ma P.nx X1 k = v := ⟨_, rfl⟩
  go_enter Try.func3, Try.ntmps3
  go_wp2_with fail
  refine (bytes5_true P (some ⟨b, off, none⟩) o2 n1 c1 n2 c2 k _ (by omega)).mono ?_
  rintro e w' ⟨rfl, c, rfl⟩
  go_wp2_with fail
  refine (toZZ P (some ⟨b, off, none⟩) o2 n1 c1 n2 c2 X1 X2 _ (by omega) (by omega) (hS1.below (below_two w _ _)) (hS2.below (below_two w _ _))).mono ?_
  rintro e w1 ⟨q1, q2, d1, d2, rfl, hR1, hR2, hb1⟩
  go_wp2_with fail
  refine (zzOver P q1 q2 n1 d1 n2 d2 k X1 X2 _ (by omega) (by omega) (hR1.mono (Nat.zero_le _)) (hR2.mono (Nat.zero_le _)) hk).mono ?_
  rintro e w2 ⟨rfl, hb2⟩
  rw [hv]
  obtain ⟨hbl, k1, k2, k3⟩ := law3_mem hb1 hb2 rfl rfl rfl
  have hL2 := hL.below hbl hb
  obtain ⟨i, hi⟩ : ∃ i, i = (X1 k).a := ⟨_, rfl⟩
  obtain ⟨e0, _⟩ := hL2 k hk
  rw [← hi] at e0
  have HV : Hid (overB P.ma P.nx X1 k = v) := hv
  have HI : Hid (i = (X1 k).a) := hi
  rw [← hi] at hM hX
  clear hv hi hb1 hb2 hR1 hR2 hS1 hS2 hL
  go_wp2
  go_loop [8, 9, 10] (fun s h j => ∃ m : Nat, m ≤ k ∧ j = .int .i64 m ∧ s = .bool (decide (0 < m)) ∧ h = .int .u64 (hiAt X1 m)) (fun _ _ j => k - (intOf j).toNat)
  case atStart => exact ⟨0, Nat.zero_le _, rfl, rfl, rfl⟩
  case round =>
    obtain ⟨m, hm, rfl, rfl, rfl⟩ := hrel
    by_cases hlt : m < k
    · have hlt' : (m : Int) < (k : Int) := by omega
      have hm0 : (0 : Int) ≤ (m : Int) := by omega
      have hm1 : (m : Int) < (n1 : Int) := by omega
      obtain ⟨_, e1, _⟩ := hL2 m (by omega)
      by_cases hz : m = 0
      · subst hz
        have HU : Hid _ := hiAt_one X1
        rw [show decide (0 < 0) = false from rfl]
        simp only [Nat.zero_mul, Nat.add_zero, Int.natCast_zero] at e1 ⊢
        go_wp2
        go_round
        case rel => exact ⟨1, by omega, rfl, rfl, by rw [HU.out]⟩
        case measure => simp [intOf]; omega
      · rw [show decide (0 < m) = true from decide_eq_true (by omega)]
        by_cases hu : hiAt X1 m < (X1 m).b
        · have HU : Hid _ := hiAt_up hu
          clear hz
          go_wp2
          go_round
          case rel => exact ⟨m + 1, by omega, by go_num, by simp, by rw [HU.out]⟩
          case measure => simp [intOf]; omega
        · have HU : Hid _ := hiAt_stay (X := X1) (m := m) (by omega) (by omega)
          clear hz
          go_wp2
          go_round
          case rel => exact ⟨m + 1, by omega, by go_num, by simp, by rw [HU.out]⟩
          case measure => simp [intOf]; omega
    · obtain rfl : m = k := by omega
      by_cases hz : m = 0
      · subst hz
        have hv' : v = false := by rw [← HV.out]; unfold overB; rw [← HI.out]; simp; omega
        subst hv'
        rw [show decide (0 < 0) = false from rfl]
        go_wp2
        go_ret
        exact ⟨by simp; omega, hbl⟩
      · have HA := hiAt_any X1 i m (by omega)
        rw [show decide (0 < m) = true from decide_eq_true (by omega)]
        by_cases hh : i ≤ hiAt X1 m
        · have hv' : v = true := by rw [← HV.out]; unfold overB; rw [← HI.out, HA]; simp [hh]
          subst hv'
          clear HA hz
          go_wp2
          go_ret
          exact ⟨by simp, hbl⟩
        · have hv' : v = false := by rw [← HV.out]; unfold overB; rw [← HI.out, HA]; simp; omega
          subst hv'
          have hh' : decide (i ≤ hiAt X1 m) = false := decide_eq_false hh
          clear HA hz hh
          go_wp2
          go_ret
          exact ⟨by simp; omega, hbl⟩

end Go.Proofs.Qxb6603959a
