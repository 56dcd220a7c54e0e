/- The two bounds on total length. -/
import Derived.Test.Qxb6603959aRec
namespace Go.Proofs.Qxb6603959a
open Go.RowKit

theorem bytes8_true (P : Prg) (o1 o2 : Option Addr) (n1 c1 n2 c2 : Nat) (failed : Bool) (ra : Int) (w : World) (h : n1 + n2 ≤ 1048576) :
    Calls Try.prog 8 #[.agg #[.int .u8 P.st, .int .u64 P.ma, .int .u64 P.nx, .slice o1 n1 c1, .int .i64 P.wi, .int .i64 P.fl, .int .i64 P.ak, .int .u64 P.sd, .int .u64 P.lr, .bool P.ro, .slice o2 n2 c2, .int .u64 P.rh, .int .u64 P.hf, .int .u64 P.hl, .int .u64 P.hz, .int .i64 P.tk, .int .u64 P.sn, .int .i64 P.ra, .bool P.av, .int .u64 P.rd, .int .u64 P.cm], .bool failed, .int .i64 ra] w fun e w' => e = .returned (.bool true) ∧ ∃ c : Array Value, w' = w.alloc (.cells c 25) := by
  have g1 : (n1 : Int) ≤ 1048576 := by omega
  have g2 : (n2 : Int) ≤ 1048576 := by omega
  have g3 : (n1 : Int) + (n2 : Int) ≤ 1048576 := by omega
  clear h
  go_enter Try.func8, Try.ntmps8
  go_wp2
  go_ret
  exact ⟨rfl, _, rfl⟩

theorem bytes8_false (P : Prg) (o1 o2 : Option Addr) (n1 c1 n2 c2 : Nat) (failed : Bool) (ra : Int) (w : World) (h : 1048576 < n1 + n2) (_h1 : n1 ≤ maxLen) (_h2 : n2 ≤ maxLen) :
    Calls Try.prog 8 #[.agg #[.int .u8 P.st, .int .u64 P.ma, .int .u64 P.nx, .slice o1 n1 c1, .int .i64 P.wi, .int .i64 P.fl, .int .i64 P.ak, .int .u64 P.sd, .int .u64 P.lr, .bool P.ro, .slice o2 n2 c2, .int .u64 P.rh, .int .u64 P.hf, .int .u64 P.hl, .int .u64 P.hz, .int .i64 P.tk, .int .u64 P.sn, .int .i64 P.ra, .bool P.av, .int .u64 P.rd, .int .u64 P.cm], .bool failed, .int .i64 ra] w fun e w' => e = .returned (.bool false) ∧ ∃ c : Array Value, w' = w.alloc (.cells c 25) := by
  by_cases g1 : 1048576 < (n1 : Int)
  · clear h
    go_enter Try.func8, Try.ntmps8
    go_wp2
    go_ret
    exact ⟨rfl, _, rfl⟩
  by_cases g2 : 1048576 < (n2 : Int)
  · clear h
    go_enter Try.func8, Try.ntmps8
    go_wp2
    go_ret
    exact ⟨rfl, _, rfl⟩
  have g3 : 1048576 < (n1 : Int) + (n2 : Int) := by omega
  clear h
  go_enter Try.func8, Try.ntmps8
  go_wp2
  go_ret
  exact ⟨rfl, _, rfl⟩

theorem bytes5_true (P : Prg) (o1 o2 : Option Addr) (n1 c1 n2 c2 : Nat) (k : Int) (w : World) (h : n1 + n2 ≤ 1048576) :
    Calls Try.prog 5 #[.agg #[.int .u8 P.st, .int .u64 P.ma, .int .u64 P.nx, .slice o1 n1 c1, .int .i64 P.wi, .int .i64 P.fl, .int .i64 P.ak, .int .u64 P.sd, .int .u64 P.lr, .bool P.ro, .slice o2 n2 c2, .int .u64 P.rh, .int .u64 P.hf, .int .u64 P.hl, .int .u64 P.hz, .int .i64 P.tk, .int .u64 P.sn, .int .i64 P.ra, .bool P.av, .int .u64 P.rd, .int .u64 P.cm], .int .i64 k] w fun e w' => e = .returned (.bool true) ∧ ∃ c : Array Value, w' = w.alloc (.cells c 25) := by
  have g1 : (n1 : Int) ≤ 1048576 := by omega
  have g2 : (n2 : Int) ≤ 1048576 := by omega
  have g3 : (n1 : Int) + (n2 : Int) ≤ 1048576 := by omega
  clear h
  go_enter Try.func5, Try.ntmps5
  go_wp2
  go_ret
  exact ⟨rfl, _, rfl⟩

theorem bytes5_false (P : Prg) (o1 o2 : Option Addr) (n1 c1 n2 c2 : Nat) (k : Int) (w : World) (h : 1048576 < n1 + n2) (_h1 : n1 ≤ maxLen) (_h2 : n2 ≤ maxLen) :
    Calls Try.prog 5 #[.agg #[.int .u8 P.st, .int .u64 P.ma, .int .u64 P.nx, .slice o1 n1 c1, .int .i64 P.wi, .int .i64 P.fl, .int .i64 P.ak, .int .u64 P.sd, .int .u64 P.lr, .bool P.ro, .slice o2 n2 c2, .int .u64 P.rh, .int .u64 P.hf, .int .u64 P.hl, .int .u64 P.hz, .int .i64 P.tk, .int .u64 P.sn, .int .i64 P.ra, .bool P.av, .int .u64 P.rd, .int .u64 P.cm], .int .i64 k] w fun e w' => e = .returned (.bool false) ∧ ∃ c : Array Value, w' = w.alloc (.cells c 25) := by
  by_cases g1 : 1048576 < (n1 : Int)
  · clear h
    go_enter Try.func5, Try.ntmps5
    go_wp2
    go_ret
    exact ⟨rfl, _, rfl⟩
  by_cases g2 : 1048576 < (n2 : Int)
  · clear h
    go_enter Try.func5, Try.ntmps5
    go_wp2
    go_ret
    exact ⟨rfl, _, rfl⟩
  have g3 : 1048576 < (n1 : Int) + (n2 : Int) := by omega
  clear h
  go_enter Try.func5, Try.ntmps5
  go_wp2
  go_ret
  exact ⟨rfl, _, rfl⟩

end Go.Proofs.Qxb6603959a
