/- FnSnapshotReportedPastMatch: the law's walk, its main ways. -/
import Derived.Test.Qxb6603959aEarly
import Derived.Test.Qxb6603959aToZZ
import Derived.Test.Qxb6603959aRep
namespace Go.Proofs.Qxb6603959a
open Go.RowKit

theorem toZZ2 (P : Prg) (o1 o2 : Option Addr) (n1 c1 n2 c2 : Nat) (X1 X2 : Nat → El) (w : World) (hn1 : n1 ≤ 16384) (hn2 : n2 ≤ 16384) (hS1 : Src 0 w o1 n1 X1) (hS2 : Src 0 w o2 n2 X2) :
    Calls Try.prog 7 #[.agg #[.int .u8 2, .int .u64 P.ma, .int .u64 P.nx, .slice o1 n1 c1, .int .i64 P.wi, .int .i64 P.fl, .int .i64 P.ak, .int .u64 P.sd, .int .u64 P.lr, .bool P.ro, .slice o2 n2 c2, .int .u64 P.rh, .int .u64 P.hf, .int .u64 P.hl, .int .u64 P.hz, .int .i64 P.tk, .int .u64 P.sn, .int .i64 P.ra, .bool P.av, .int .u64 P.rd, .int .u64 P.cm]] w fun e w' => ∃ (o1' o2' : Option Addr) (c1' c2' : Nat), e = .returned (.agg #[.int .u8 2, .int .u64 P.ma, .int .u64 P.nx, .slice o1' n1 c1', .int .i64 P.wi, .int .i64 P.fl, .int .i64 P.ak, .int .u64 P.sd, .int .u64 P.lr, .bool P.ro, .slice o2' n2 c2', .int .u64 P.rh, .int .u64 P.hf, .int .u64 P.hl, .int .u64 P.hz, .int .i64 P.tk, .int .u64 P.sn, .int .i64 P.ra, .bool P.av, .int .u64 P.rd, .int .u64 P.cm]) ∧
      Src w.heap.size w' o1' n1 X1 ∧ Src w.heap.size w' o2' n2 X2 ∧ Below w.heap.size w w' :=
  toZZ { P with st := 2 } o1 o2 n1 c1 n2 c2 X1 X2 w hn1 hn2 hS1 hS2

theorem below_two (w : World) (A B : Obj) : Below w.heap.size w ((w.alloc A).alloc B) := ((Below.refl _ w).alloc (Nat.le_refl _) A).alloc (by simp) B

/-- The law's own variable behind the two calls. -/
theorem law4_mem {w w1 w2 : World} {A : Array Value} {B : Obj} {v1 v16 : Value} (hb1 : Below ((w.alloc (.cells A 25)).alloc B).heap.size ((w.alloc (.cells A 25)).alloc B) w1) (hb2 : Below w1.heap.size w1 w2) (h1 : A[1]? = some v1) (h16 : A[16]? = some v16) :
    w.heap.size < w2.heap.size ∧ Below w.heap.size w w2 ∧ w2.cell? ⟨w.heap.size, 1, none⟩ = some v1 ∧ w2.cell? ⟨w.heap.size, 16, none⟩ = some v16 := by
  have hz1 := hb1.size
  have hz2 := hb2.size
  simp at hz1
  have hr := (row_new w A 25).alloc B
  have e1 : 1 < A.size := (Array.getElem?_eq_some_iff.1 h1).1
  have e16 : 16 < A.size := (Array.getElem?_eq_some_iff.1 h16).1
  refine ⟨by omega, ((below_two w _ B).trans (hb1.mono (by simp; omega))).trans (hb2.mono (by omega)), ?_, ?_⟩
  · rw [hb2.cell (p := ⟨w.heap.size, 1, none⟩) (by show w.heap.size < _; omega), hb1.cell (p := ⟨w.heap.size, 1, none⟩) (by simp; omega), hr.cell e1]
    simp [h1]
  · rw [hb2.cell (p := ⟨w.heap.size, 16, none⟩) (by show w.heap.size < _; omega), hb1.cell (p := ⟨w.heap.size, 16, none⟩) (by simp; omega), hr.cell e16]
    simp [h16]

/-- Cells put into a row, one behind the other. -/
def putAt (c : Array Value) : Nat → List Value → Array Value
  | _, [] => c
  | o, v :: r => putAt (c.setIfInBounds o v) (o + 1) r
theorem setCells_alloc (w : World) (t : TypeId) : ∀ (vs : List Value) (o : Nat) (c : Array Value), (w.alloc (.cells c t)).setCells w.heap.size o vs = w.alloc (.cells (putAt c o vs) t)
  | [], _, _ => rfl
  | v :: vs, o, c => by
    show ((w.alloc (.cells c t)).setCell ⟨w.heap.size, o, none⟩ v).setCells w.heap.size (o + 1) vs = _
    rw [World.setCell_alloc_at _ _ _ _ _ rfl]
    exact setCells_alloc w t vs (o + 1) _
theorem putAt_rec (xst : Int) (xma : Int) (xnx : Int) (o1 : Option Addr) (n1 c1 : Nat) (xwi : Int) (xfl : Int) (xak : Int) (xsd : Int) (xlr : Int) (xro : Bool) (o2 : Option Addr) (n2 c2 : Nat) (xrh : Int) (xhf : Int) (xhl : Int) (xhz : Int) (xtk : Int) (xsn : Int) (xra : Int) (xav : Bool) (xrd : Int) (xcm : Int) : putAt #[.int .u8 0, .int .u64 0, .int .u64 0, .slice none 0 0, .int .i64 0, .int .i64 0, .int .i64 0, .int .u64 0, .int .u64 0, .bool false, .slice none 0 0, .int .u64 0, .int .u64 0, .int .u64 0, .int .u64 0, .int .i64 0, .int .u64 0, .int .i64 0, .bool false, .int .u64 0, .int .u64 0] 0 [.int .u8 xst, .int .u64 xma, .int .u64 xnx, .slice o1 n1 c1, .int .i64 xwi, .int .i64 xfl, .int .i64 xak, .int .u64 xsd, .int .u64 xlr, .bool xro, .slice o2 n2 c2, .int .u64 xrh, .int .u64 xhf, .int .u64 xhl, .int .u64 xhz, .int .i64 xtk, .int .u64 xsn, .int .i64 xra, .bool xav, .int .u64 xrd, .int .u64 xcm] = #[.int .u8 xst, .int .u64 xma, .int .u64 xnx, .slice o1 n1 c1, .int .i64 xwi, .int .i64 xfl, .int .i64 xak, .int .u64 xsd, .int .u64 xlr, .bool xro, .slice o2 n2 c2, .int .u64 xrh, .int .u64 xhf, .int .u64 xhl, .int .u64 xhz, .int .i64 xtk, .int .u64 xsn, .int .i64 xra, .bool xav, .int .u64 xrd, .int .u64 xcm] := by kernel_rfl
/-- A store of a whole record into the block that was laid last. -/
theorem store30_new (w : World) (n : Nat) (hn : n = w.heap.size) (xst : Int) (xma : Int) (xnx : Int) (o1 : Option Addr) (n1 c1 : Nat) (xwi : Int) (xfl : Int) (xak : Int) (xsd : Int) (xlr : Int) (xro : Bool) (o2 : Option Addr) (n2 c2 : Nat) (xrh : Int) (xhf : Int) (xhl : Int) (xhz : Int) (xtk : Int) (xsn : Int) (xra : Int) (xav : Bool) (xrd : Int) (xcm : Int) : (StoreS 30 (.pointer (some ⟨n, 0, none⟩)) (.agg #[.int .u8 xst, .int .u64 xma, .int .u64 xnx, .slice o1 n1 c1, .int .i64 xwi, .int .i64 xfl, .int .i64 xak, .int .u64 xsd, .int .u64 xlr, .bool xro, .slice o2 n2 c2, .int .u64 xrh, .int .u64 xhf, .int .u64 xhl, .int .u64 xhz, .int .i64 xtk, .int .u64 xsn, .int .i64 xra, .bool xav, .int .u64 xrd, .int .u64 xcm])).run Try.prog (w.alloc (.cells #[.int .u8 0, .int .u64 0, .int .u64 0, .slice none 0 0, .int .i64 0, .int .i64 0, .int .i64 0, .int .u64 0, .int .u64 0, .bool false, .slice none 0 0, .int .u64 0, .int .u64 0, .int .u64 0, .int .u64 0, .int .i64 0, .int .u64 0, .int .i64 0, .bool false, .int .u64 0, .int .u64 0] 30)) = .ok () (w.alloc (.cells #[.int .u8 xst, .int .u64 xma, .int .u64 xnx, .slice o1 n1 c1, .int .i64 xwi, .int .i64 xfl, .int .i64 xak, .int .u64 xsd, .int .u64 xlr, .bool xro, .slice o2 n2 c2, .int .u64 xrh, .int .u64 xhf, .int .u64 xhl, .int .u64 xhz, .int .i64 xtk, .int .u64 xsn, .int .i64 xra, .bool xav, .int .u64 xrd, .int .u64 xcm] 30)) := by
  subst hn
  rw [store30 w.heap.size xst xma xnx o1 n1 c1 xwi xfl xak xsd xlr xro o2 n2 c2 xrh xhf xhl xhz xtk xsn xra xav xrd xcm _ (there_new w _ 30 21 rfl)]
  rw [setCells_alloc, putAt_rec]

attribute [local go_sem ↓] store30_pre load25_pre
attribute [local go_sem] store30_new load25_new load25_old

set_option maxHeartbeats 2000000 in
theorem law4_failed_above (P : Prg) (o1 o2 : Option Addr) (n1 c1 n2 c2 : Nat) (X1 X2 : Nat → El) (ra : Int) (w : World) (hS1 : Src 0 w o1 n1 X1) (hS2 : Src 0 w o2 n2 X2) (hn : n1 + n2 ≤ 16384) (hm0 : 0 ≤ P.ma) (hm1 : P.ma ≤ 18446744073709551614) (hs0 : 0 ≤ P.sn) (hs1 : P.sn ≤ 18446744073709551614) (hc : P.ma < P.sn) :
    Calls Try.prog 4 #[.agg #[.int .u8 2, .int .u64 P.ma, .int .u64 P.nx, .slice o1 n1 c1, .int .i64 P.wi, .int .i64 P.fl, .int .i64 P.ak, .int .u64 P.sd, .int .u64 P.lr, .bool P.ro, .slice o2 n2 c2, .int .u64 P.rh, .int .u64 P.hf, .int .u64 P.hl, .int .u64 P.hz, .int .i64 P.tk, .int .u64 P.sn, .int .i64 P.ra, .bool P.av, .int .u64 P.rd, .int .u64 P.cm], .bool true, .int .i64 ra] w fun e w' => e = .returned (.bool true) ∧ Below w.heap.size w w' := by
  have g : (n1 : Int) + (n2 : Int) ≤ 16384 := by omega
  have t1 : (P.ma == 18446744073709551615) = false := by simp; omega
  have t2 : (P.sn == 18446744073709551615) = false := by simp; omega
  go_enter Try.func4, Try.ntmps4
  go_wp2_with fail
  refine (bytes8_true { P with st := 2 } o1 o2 n1 c1 n2 c2 true ra _ (by omega)).mono ?_
  rintro e w' ⟨rfl, c, rfl⟩
  go_wp2_with fail
  refine (toZZ2 P o1 o2 n1 c1 n2 c2 X1 X2 _ (by omega) (by omega) (hS1.below (below_two w _ _)) (hS2.below (below_two w _ _))).mono ?_
  rintro e w1 ⟨q1, q2, d1, d2, rfl, hR1, hR2, hb1⟩
  go_wp2_with fail
  refine (reported P q1 q2 n1 d1 n2 d2 X1 X2 true ra _ (by omega) (by omega) (hR1.mono (Nat.zero_le _)) (hR2.mono (Nat.zero_le _)) hm0 hm1 hs1).mono ?_
  rintro e w2 ⟨nx, ra', s1, s2, u1, u2, rfl, hnx, hf, hb2⟩
  obtain ⟨hz, hbl, k1, k16⟩ := law4_mem hb1 hb2 rfl rfl
  have a1 : P.ma < nx := by omega
  have a3 : nx ≤ P.sn + 1 := by omega
  clear hnx hf hb1 hb2 hR1 hR2 hS1 hS2
  go_wp2
  go_ret
  exact ⟨by simp, hbl.alloc (by omega) _⟩

set_option maxHeartbeats 2000000 in
theorem law4_failed_not (P : Prg) (o1 o2 : Option Addr) (n1 c1 n2 c2 : Nat) (X1 X2 : Nat → El) (ra : Int) (w : World) (hS1 : Src 0 w o1 n1 X1) (hS2 : Src 0 w o2 n2 X2) (hn : n1 + n2 ≤ 16384) (hm0 : 0 ≤ P.ma) (hm1 : P.ma ≤ 18446744073709551614) (hs0 : 0 ≤ P.sn) (hs1 : P.sn ≤ 18446744073709551614) (hc : P.sn ≤ P.ma) :
    Calls Try.prog 4 #[.agg #[.int .u8 2, .int .u64 P.ma, .int .u64 P.nx, .slice o1 n1 c1, .int .i64 P.wi, .int .i64 P.fl, .int .i64 P.ak, .int .u64 P.sd, .int .u64 P.lr, .bool P.ro, .slice o2 n2 c2, .int .u64 P.rh, .int .u64 P.hf, .int .u64 P.hl, .int .u64 P.hz, .int .i64 P.tk, .int .u64 P.sn, .int .i64 P.ra, .bool P.av, .int .u64 P.rd, .int .u64 P.cm], .bool true, .int .i64 ra] w fun e w' => e = .returned (.bool true) ∧ Below w.heap.size w w' := by
  have g : (n1 : Int) + (n2 : Int) ≤ 16384 := by omega
  have t1 : (P.ma == 18446744073709551615) = false := by simp; omega
  have t2 : (P.sn == 18446744073709551615) = false := by simp; omega
  go_enter Try.func4, Try.ntmps4
  go_wp2_with fail
  refine (bytes8_true { P with st := 2 } o1 o2 n1 c1 n2 c2 true ra _ (by omega)).mono ?_
  rintro e w' ⟨rfl, c, rfl⟩
  go_wp2_with fail
  refine (toZZ2 P o1 o2 n1 c1 n2 c2 X1 X2 _ (by omega) (by omega) (hS1.below (below_two w _ _)) (hS2.below (below_two w _ _))).mono ?_
  rintro e w1 ⟨q1, q2, d1, d2, rfl, hR1, hR2, hb1⟩
  go_wp2_with fail
  refine (reported P q1 q2 n1 d1 n2 d2 X1 X2 true ra _ (by omega) (by omega) (hR1.mono (Nat.zero_le _)) (hR2.mono (Nat.zero_le _)) hm0 hm1 hs1).mono ?_
  rintro e w2 ⟨nx, ra', s1, s2, u1, u2, rfl, hnx, hf, hb2⟩
  obtain ⟨hz, hbl, k1, k16⟩ := law4_mem hb1 hb2 rfl rfl
  have a1 : P.ma < nx := by omega
  have a3 : nx ≤ P.ma + 1 := by omega
  clear hnx hf hb1 hb2 hR1 hR2 hS1 hS2
  go_wp2
  go_ret
  exact ⟨by simp, hbl.alloc (by omega) _⟩

set_option maxHeartbeats 2000000 in
theorem law4_done_above (P : Prg) (o1 o2 : Option Addr) (n1 c1 n2 c2 : Nat) (X1 X2 : Nat → El) (ra : Int) (w : World) (hS1 : Src 0 w o1 n1 X1) (hS2 : Src 0 w o2 n2 X2) (hn : n1 + n2 ≤ 16384) (hm0 : 0 ≤ P.ma) (hm1 : P.ma ≤ 18446744073709551614) (hs0 : 0 ≤ P.sn) (hs1 : P.sn ≤ 18446744073709551614) (hc : P.ma < P.sn) :
    Calls Try.prog 4 #[.agg #[.int .u8 2, .int .u64 P.ma, .int .u64 P.nx, .slice o1 n1 c1, .int .i64 P.wi, .int .i64 P.fl, .int .i64 P.ak, .int .u64 P.sd, .int .u64 P.lr, .bool P.ro, .slice o2 n2 c2, .int .u64 P.rh, .int .u64 P.hf, .int .u64 P.hl, .int .u64 P.hz, .int .i64 P.tk, .int .u64 P.sn, .int .i64 P.ra, .bool P.av, .int .u64 P.rd, .int .u64 P.cm], .bool false, .int .i64 ra] w fun e w' => e = .returned (.bool true) ∧ Below w.heap.size w w' := by
  have g : (n1 : Int) + (n2 : Int) ≤ 16384 := by omega
  have t1 : (P.ma == 18446744073709551615) = false := by simp; omega
  have t2 : (P.sn == 18446744073709551615) = false := by simp; omega
  go_enter Try.func4, Try.ntmps4
  go_wp2_with fail
  refine (bytes8_true { P with st := 2 } o1 o2 n1 c1 n2 c2 false ra _ (by omega)).mono ?_
  rintro e w' ⟨rfl, c, rfl⟩
  go_wp2_with fail
  refine (toZZ2 P o1 o2 n1 c1 n2 c2 X1 X2 _ (by omega) (by omega) (hS1.below (below_two w _ _)) (hS2.below (below_two w _ _))).mono ?_
  rintro e w1 ⟨q1, q2, d1, d2, rfl, hR1, hR2, hb1⟩
  go_wp2_with fail
  refine (reported P q1 q2 n1 d1 n2 d2 X1 X2 false ra _ (by omega) (by omega) (hR1.mono (Nat.zero_le _)) (hR2.mono (Nat.zero_le _)) hm0 hm1 hs1).mono ?_
  rintro e w2 ⟨nx, ra', s1, s2, u1, u2, rfl, hnx, hf, hb2⟩
  obtain ⟨hz, hbl, k1, k16⟩ := law4_mem hb1 hb2 rfl rfl
  have a1 : P.ma < nx := by omega
  have a2 : P.sn < nx := hf rfl; have a3 : nx ≤ P.sn + 1 := by omega
  clear hnx hf hb1 hb2 hR1 hR2 hS1 hS2
  go_wp2
  go_ret
  exact ⟨by simp, hbl.alloc (by omega) _⟩

set_option maxHeartbeats 2000000 in
theorem law4_done_not (P : Prg) (o1 o2 : Option Addr) (n1 c1 n2 c2 : Nat) (X1 X2 : Nat → El) (ra : Int) (w : World) (hS1 : Src 0 w o1 n1 X1) (hS2 : Src 0 w o2 n2 X2) (hn : n1 + n2 ≤ 16384) (hm0 : 0 ≤ P.ma) (hm1 : P.ma ≤ 18446744073709551614) (hs0 : 0 ≤ P.sn) (hs1 : P.sn ≤ 18446744073709551614) (hc : P.sn ≤ P.ma) :
    Calls Try.prog 4 #[.agg #[.int .u8 2, .int .u64 P.ma, .int .u64 P.nx, .slice o1 n1 c1, .int .i64 P.wi, .int .i64 P.fl, .int .i64 P.ak, .int .u64 P.sd, .int .u64 P.lr, .bool P.ro, .slice o2 n2 c2, .int .u64 P.rh, .int .u64 P.hf, .int .u64 P.hl, .int .u64 P.hz, .int .i64 P.tk, .int .u64 P.sn, .int .i64 P.ra, .bool P.av, .int .u64 P.rd, .int .u64 P.cm], .bool false, .int .i64 ra] w fun e w' => e = .returned (.bool true) ∧ Below w.heap.size w w' := by
  have g : (n1 : Int) + (n2 : Int) ≤ 16384 := by omega
  have t1 : (P.ma == 18446744073709551615) = false := by simp; omega
  have t2 : (P.sn == 18446744073709551615) = false := by simp; omega
  go_enter Try.func4, Try.ntmps4
  go_wp2_with fail
  refine (bytes8_true { P with st := 2 } o1 o2 n1 c1 n2 c2 false ra _ (by omega)).mono ?_
  rintro e w' ⟨rfl, c, rfl⟩
  go_wp2_with fail
  refine (toZZ2 P o1 o2 n1 c1 n2 c2 X1 X2 _ (by omega) (by omega) (hS1.below (below_two w _ _)) (hS2.below (below_two w _ _))).mono ?_
  rintro e w1 ⟨q1, q2, d1, d2, rfl, hR1, hR2, hb1⟩
  go_wp2_with fail
  refine (reported P q1 q2 n1 d1 n2 d2 X1 X2 false ra _ (by omega) (by omega) (hR1.mono (Nat.zero_le _)) (hR2.mono (Nat.zero_le _)) hm0 hm1 hs1).mono ?_
  rintro e w2 ⟨nx, ra', s1, s2, u1, u2, rfl, hnx, hf, hb2⟩
  obtain ⟨hz, hbl, k1, k16⟩ := law4_mem hb1 hb2 rfl rfl
  have a1 : P.ma < nx := by omega
  have a2 : P.sn < nx := hf rfl; have a3 : nx ≤ P.ma + 1 := by omega
  clear hnx hf hb1 hb2 hR1 hR2 hS1 hS2
  go_wp2
  go_ret
  exact ⟨by simp, hbl.alloc (by omega) _⟩

end Go.Proofs.Qxb6603959a
