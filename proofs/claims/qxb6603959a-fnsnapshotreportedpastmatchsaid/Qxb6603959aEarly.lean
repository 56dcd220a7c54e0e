/- FnSnapshotReportedPastMatch: the law's walk, its early ways. -/
import Derived.Test.Qxb6603959aBytes
import Derived.Test.Qxb6603959aLoad
namespace Go.Proofs.Qxb6603959a
open Go.RowKit
attribute [local go_sem ↓] load25_pre
attribute [local go_sem] load25_new load25_old

set_option maxHeartbeats 1000000 in
theorem law4_long (P : Prg) (o1 o2 : Option Addr) (n1 c1 n2 c2 : Nat) (failed : Bool) (ra : Int) (w : World) (h : 1048576 < n1 + n2) (h1 : n1 ≤ maxLen) (h2 : n2 ≤ maxLen) :
    Calls Try.prog 4 #[.agg #[.int .u8 P.st, .int .u64 P.ma, .int .u64 P.nx, .slice o1 n1 c1, .int .i64 P.wi, .int .i64 P.fl, .int .i64 P.ak, .int .u64 P.sd, .int .u64 P.lr, .bool P.ro, .slice o2 n2 c2, .int .u64 P.rh, .int .u64 P.hf, .int .u64 P.hl, .int .u64 P.hz, .int .i64 P.tk, .int .u64 P.sn, .int .i64 P.ra, .bool P.av, .int .u64 P.rd, .int .u64 P.cm], .bool failed, .int .i64 ra] w fun e w' => e = .returned (.bool true) ∧ Below w.heap.size w w' := by
  go_enter Try.func4, Try.ntmps4
  go_wp2_with (go_at_call 8; refine (bytes8_false P o1 o2 n1 c1 n2 c2 failed ra _ h h1 h2).mono ?_; rintro e w' ⟨rfl, c, rfl⟩)
  go_ret
  exact ⟨rfl, ((Below.refl _ w).alloc (Nat.le_refl _) _).alloc (by simp) _⟩

set_option maxHeartbeats 1000000 in
theorem law4_many (P : Prg) (o1 o2 : Option Addr) (n1 c1 n2 c2 : Nat) (failed : Bool) (ra : Int) (w : World) (h : n1 + n2 ≤ 1048576) (h' : 16384 < n1 + n2) :
    Calls Try.prog 4 #[.agg #[.int .u8 P.st, .int .u64 P.ma, .int .u64 P.nx, .slice o1 n1 c1, .int .i64 P.wi, .int .i64 P.fl, .int .i64 P.ak, .int .u64 P.sd, .int .u64 P.lr, .bool P.ro, .slice o2 n2 c2, .int .u64 P.rh, .int .u64 P.hf, .int .u64 P.hl, .int .u64 P.hz, .int .i64 P.tk, .int .u64 P.sn, .int .i64 P.ra, .bool P.av, .int .u64 P.rd, .int .u64 P.cm], .bool failed, .int .i64 ra] w fun e w' => e = .returned (.bool true) ∧ Below w.heap.size w w' := by
  have g : 16384 < (n1 : Int) + (n2 : Int) := by omega
  go_enter Try.func4, Try.ntmps4
  go_wp2_with (go_at_call 8; refine (bytes8_true P o1 o2 n1 c1 n2 c2 failed ra _ h).mono ?_; rintro e w' ⟨rfl, c, rfl⟩)
  go_ret
  exact ⟨rfl, ((Below.refl _ w).alloc (Nat.le_refl _) _).alloc (by simp) _⟩

set_option maxHeartbeats 1000000 in
theorem law4_state (P : Prg) (o1 o2 : Option Addr) (n1 c1 n2 c2 : Nat) (failed : Bool) (ra : Int) (w : World) (h : n1 + n2 ≤ 16384) (h' : (P.st != 2) = true) :
    Calls Try.prog 4 #[.agg #[.int .u8 P.st, .int .u64 P.ma, .int .u64 P.nx, .slice o1 n1 c1, .int .i64 P.wi, .int .i64 P.fl, .int .i64 P.ak, .int .u64 P.sd, .int .u64 P.lr, .bool P.ro, .slice o2 n2 c2, .int .u64 P.rh, .int .u64 P.hf, .int .u64 P.hl, .int .u64 P.hz, .int .i64 P.tk, .int .u64 P.sn, .int .i64 P.ra, .bool P.av, .int .u64 P.rd, .int .u64 P.cm], .bool failed, .int .i64 ra] w fun e w' => e = .returned (.bool true) ∧ Below w.heap.size w w' := by
  have g : (n1 : Int) + (n2 : Int) ≤ 16384 := by omega
  go_enter Try.func4, Try.ntmps4
  go_wp2_with (go_at_call 8; refine (bytes8_true P o1 o2 n1 c1 n2 c2 failed ra _ (by omega)).mono ?_; rintro e w' ⟨rfl, c, rfl⟩)
  go_ret
  exact ⟨rfl, ((Below.refl _ w).alloc (Nat.le_refl _) _).alloc (by simp) _⟩

set_option maxHeartbeats 1000000 in
theorem law4_max (P : Prg) (o1 o2 : Option Addr) (n1 c1 n2 c2 : Nat) (failed : Bool) (ra : Int) (w : World) (h : n1 + n2 ≤ 16384) (h' : (P.ma == 18446744073709551615) = true) :
    Calls Try.prog 4 #[.agg #[.int .u8 2, .int .u64 P.ma, .int .u64 P.nx, .slice o1 n1 c1, .int .i64 P.wi, .int .i64 P.fl, .int .i64 P.ak, .int .u64 P.sd, .int .u64 P.lr, .bool P.ro, .slice o2 n2 c2, .int .u64 P.rh, .int .u64 P.hf, .int .u64 P.hl, .int .u64 P.hz, .int .i64 P.tk, .int .u64 P.sn, .int .i64 P.ra, .bool P.av, .int .u64 P.rd, .int .u64 P.cm], .bool failed, .int .i64 ra] w fun e w' => e = .returned (.bool true) ∧ Below w.heap.size w w' := by
  have g : (n1 : Int) + (n2 : Int) ≤ 16384 := by omega
  go_enter Try.func4, Try.ntmps4
  go_wp2_with (go_at_call 8; refine (bytes8_true { P with st := 2 } o1 o2 n1 c1 n2 c2 failed ra _ (by omega)).mono ?_; rintro e w' ⟨rfl, c, rfl⟩)
  go_ret
  exact ⟨rfl, ((Below.refl _ w).alloc (Nat.le_refl _) _).alloc (by simp) _⟩

set_option maxHeartbeats 1000000 in
theorem law4_max2 (P : Prg) (o1 o2 : Option Addr) (n1 c1 n2 c2 : Nat) (failed : Bool) (ra : Int) (w : World) (h : n1 + n2 ≤ 16384) (h' : (P.ma == 18446744073709551615) = false) (h'' : (P.sn == 18446744073709551615) = true) :
    Calls Try.prog 4 #[.agg #[.int .u8 2, .int .u64 P.ma, .int .u64 P.nx, .slice o1 n1 c1, .int .i64 P.wi, .int .i64 P.fl, .int .i64 P.ak, .int .u64 P.sd, .int .u64 P.lr, .bool P.ro, .slice o2 n2 c2, .int .u64 P.rh, .int .u64 P.hf, .int .u64 P.hl, .int .u64 P.hz, .int .i64 P.tk, .int .u64 P.sn, .int .i64 P.ra, .bool P.av, .int .u64 P.rd, .int .u64 P.cm], .bool failed, .int .i64 ra] w fun e w' => e = .returned (.bool true) ∧ Below w.heap.size w w' := by
  have g : (n1 : Int) + (n2 : Int) ≤ 16384 := by omega
  go_enter Try.func4, Try.ntmps4
  go_wp2_with (go_at_call 8; refine (bytes8_true { P with st := 2 } o1 o2 n1 c1 n2 c2 failed ra _ (by omega)).mono ?_; rintro e w' ⟨rfl, c, rfl⟩)
  go_ret
  exact ⟨rfl, ((Below.refl _ w).alloc (Nat.le_refl _) _).alloc (by simp) _⟩
end Go.Proofs.Qxb6603959a
