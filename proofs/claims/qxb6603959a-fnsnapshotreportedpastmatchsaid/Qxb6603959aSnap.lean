/- snapshotReported (and enter): on a record in a block of its own. -/
import Derived.Test.Qxb6603959aRec
import Derived.WalkSpells
import Derived.WalkLawsBesides
import Derived.RegionTactic
import Derived.BigRegion
import Derived.Laws.Pointers
namespace Go.Proofs.Qxb6603959a
open Go.RowKit

set_option maxHeartbeats 2000000 in
theorem snap13_failed (P : Prg) (o1 o2 : Option Addr) (n1 c1 n2 c2 : Nat) (ra : Int) (W : World) (hm0 : 0 ≤ P.ma) (hm1 : P.ma ≤ 18446744073709551614) :
    Calls Try.prog 13 #[.pointer (some ⟨W.heap.size, 0, none⟩), .bool true, .int .i64 ra] (W.alloc (.cells #[.int .u8 2, .int .u64 P.ma, .int .u64 P.nx, .slice o1 n1 c1, .int .i64 P.wi, .int .i64 P.fl, .int .i64 P.ak, .int .u64 P.sd, .int .u64 P.lr, .bool P.ro, .slice o2 n2 c2, .int .u64 P.rh, .int .u64 P.hf, .int .u64 P.hl, .int .u64 P.hz, .int .i64 P.tk, .int .u64 P.sn, .int .i64 P.ra, .bool P.av, .int .u64 P.rd, .int .u64 P.cm] 48)) fun e w' => e = .returned (.tuple #[]) ∧ w' = W.alloc (.cells #[.int .u8 0, .int .u64 P.ma, .int .u64 (P.ma + 1), .slice o1 n1 c1, .int .i64 P.wi, .int .i64 P.fl, .int .i64 P.ak, .int .u64 P.sd, .int .u64 P.lr, .bool P.ro, .slice o2 n2 c2, .int .u64 P.rh, .int .u64 P.hf, .int .u64 P.hl, .int .u64 P.hz, .int .i64 P.tk, .int .u64 0, .int .i64 ra, .bool P.av, .int .u64 P.rd, .int .u64 P.cm] 48) := by
  go_enter Try.func13, Try.ntmps13
  go_wp2
  go_end0
  go_wp2
  go_end0
  exact ⟨rfl, rfl⟩

set_option maxHeartbeats 2000000 in
theorem snap13_above (P : Prg) (o1 o2 : Option Addr) (n1 c1 n2 c2 : Nat) (ra : Int) (W : World) (hm0 : 0 ≤ P.ma) (hm1 : P.ma ≤ 18446744073709551614) (_hs1 : P.sn ≤ 18446744073709551614) (_h : P.ma < P.sn) :
    Calls Try.prog 13 #[.pointer (some ⟨W.heap.size, 0, none⟩), .bool false, .int .i64 ra] (W.alloc (.cells #[.int .u8 2, .int .u64 P.ma, .int .u64 P.nx, .slice o1 n1 c1, .int .i64 P.wi, .int .i64 P.fl, .int .i64 P.ak, .int .u64 P.sd, .int .u64 P.lr, .bool P.ro, .slice o2 n2 c2, .int .u64 P.rh, .int .u64 P.hf, .int .u64 P.hl, .int .u64 P.hz, .int .i64 P.tk, .int .u64 P.sn, .int .i64 P.ra, .bool P.av, .int .u64 P.rd, .int .u64 P.cm] 48)) fun e w' => e = .returned (.tuple #[]) ∧ w' = (W.alloc (.cells #[.int .u8 0, .int .u64 P.ma, .int .u64 (P.sn + 1), .slice o1 n1 c1, .int .i64 P.wi, .int .i64 P.fl, .int .i64 P.ak, .int .u64 P.sd, .int .u64 P.lr, .bool P.ro, .slice o2 n2 c2, .int .u64 P.rh, .int .u64 P.hf, .int .u64 P.hl, .int .u64 P.hz, .int .i64 P.tk, .int .u64 0, .int .i64 0, .bool P.av, .int .u64 P.rd, .int .u64 P.cm] 48)).drew := by
  go_enter Try.func13, Try.ntmps13
  go_wp2
  go_region
  go_wp2
  go_end0
  go_wp2
  go_end0
  exact ⟨rfl, rfl⟩

set_option maxHeartbeats 2000000 in
theorem snap13_not (P : Prg) (o1 o2 : Option Addr) (n1 c1 n2 c2 : Nat) (ra : Int) (W : World) (hm0 : 0 ≤ P.ma) (hm1 : P.ma ≤ 18446744073709551614) (_h : P.sn ≤ P.ma) :
    Calls Try.prog 13 #[.pointer (some ⟨W.heap.size, 0, none⟩), .bool false, .int .i64 ra] (W.alloc (.cells #[.int .u8 2, .int .u64 P.ma, .int .u64 P.nx, .slice o1 n1 c1, .int .i64 P.wi, .int .i64 P.fl, .int .i64 P.ak, .int .u64 P.sd, .int .u64 P.lr, .bool P.ro, .slice o2 n2 c2, .int .u64 P.rh, .int .u64 P.hf, .int .u64 P.hl, .int .u64 P.hz, .int .i64 P.tk, .int .u64 P.sn, .int .i64 P.ra, .bool P.av, .int .u64 P.rd, .int .u64 P.cm] 48)) fun e w' => e = .returned (.tuple #[]) ∧ w' = (W.alloc (.cells #[.int .u8 0, .int .u64 P.ma, .int .u64 (P.ma + 1), .slice o1 n1 c1, .int .i64 P.wi, .int .i64 P.fl, .int .i64 P.ak, .int .u64 P.sd, .int .u64 P.lr, .bool P.ro, .slice o2 n2 c2, .int .u64 P.rh, .int .u64 P.hf, .int .u64 P.hl, .int .u64 P.hz, .int .i64 P.tk, .int .u64 0, .int .i64 0, .bool P.av, .int .u64 P.rd, .int .u64 P.cm] 48)).drew := by
  go_enter Try.func13, Try.ntmps13
  go_wp2
  go_region
  go_wp2
  go_end0
  go_wp2
  go_end0
  exact ⟨rfl, rfl⟩

/-- snapshotReported of a record that waits for a snapshot: what 'next' has become; the record lies where it lay. -/
theorem snap13 (failed : Bool) (P : Prg) (o1 o2 : Option Addr) (n1 c1 n2 c2 : Nat) (ra : Int) (W : World) (hm0 : 0 ≤ P.ma) (hm1 : P.ma ≤ 18446744073709551614) (hs1 : P.sn ≤ 18446744073709551614) :
    Calls Try.prog 13 #[.pointer (some ⟨W.heap.size, 0, none⟩), .bool failed, .int .i64 ra] (W.alloc (.cells #[.int .u8 2, .int .u64 P.ma, .int .u64 P.nx, .slice o1 n1 c1, .int .i64 P.wi, .int .i64 P.fl, .int .i64 P.ak, .int .u64 P.sd, .int .u64 P.lr, .bool P.ro, .slice o2 n2 c2, .int .u64 P.rh, .int .u64 P.hf, .int .u64 P.hl, .int .u64 P.hz, .int .i64 P.tk, .int .u64 P.sn, .int .i64 P.ra, .bool P.av, .int .u64 P.rd, .int .u64 P.cm] 48)) fun e w' => e = .returned (.tuple #[]) ∧
      ∃ (nx ra' : Int) (nq : Nat), (nx = P.ma + 1 ∨ nx = P.sn + 1 ∧ P.ma < P.sn) ∧ (failed = false → P.sn < nx) ∧ w' = (W.alloc (.cells #[.int .u8 0, .int .u64 P.ma, .int .u64 nx, .slice o1 n1 c1, .int .i64 P.wi, .int .i64 P.fl, .int .i64 P.ak, .int .u64 P.sd, .int .u64 P.lr, .bool P.ro, .slice o2 n2 c2, .int .u64 P.rh, .int .u64 P.hf, .int .u64 P.hl, .int .u64 P.hz, .int .i64 P.tk, .int .u64 0, .int .i64 ra', .bool P.av, .int .u64 P.rd, .int .u64 P.cm] 48)).drewN nq := by
  cases failed with
  | true =>
    refine (snap13_failed P o1 o2 n1 c1 n2 c2 ra W hm0 hm1).mono ?_
    rintro e w' ⟨rfl, rfl⟩
    exact ⟨rfl, _, _, 0, .inl rfl, (fun h => by cases h), rfl⟩
  | false =>
    by_cases h : P.ma < P.sn
    · refine (snap13_above P o1 o2 n1 c1 n2 c2 ra W hm0 hm1 hs1 h).mono ?_
      rintro e w' ⟨rfl, rfl⟩
      exact ⟨rfl, _, _, 1, .inr ⟨rfl, h⟩, (fun _ => by omega), rfl⟩
    · refine (snap13_not P o1 o2 n1 c1 n2 c2 ra W hm0 hm1 (by omega)).mono ?_
      rintro e w' ⟨rfl, rfl⟩
      exact ⟨rfl, _, _, 1, .inl rfl, (fun _ => by omega), rfl⟩
end Go.Proofs.Qxb6603959a
