/- FnOvertookSpec: the law's walk, its early ways; the plain law. -/
import Derived.Test.Qxb6603959aBytes
import Derived.Test.Qxb6603959aLoad
namespace Go.Proofs.Qxb6603959a
open Go.RowKit
attribute [local go_sem ↓] load25_pre
attribute [local go_sem] load25_new load25_old

set_option maxHeartbeats 1000000 in
theorem law3_long (P : Prg) (o1 o2 : Option Addr) (n1 c1 n2 c2 : Nat) (k : Int) (w : World) (h : 1048576 < n1 + n2) (h1 : n1 ≤ maxLen) (h2 : n2 ≤ maxLen) :
    Calls Try.prog 3 #[.agg #[.int .u8 P.st, .int .u64 P.ma, .int .u64 P.nx, .slice o1 n1 c1, .int .i64 P.wi, .int .i64 P.fl, .int .i64 P.ak, .int .u64 P.sd, .int .u64 P.lr, .bool P.ro, .slice o2 n2 c2, .int .u64 P.rh, .int .u64 P.hf, .int .u64 P.hl, .int .u64 P.hz, .int .i64 P.tk, .int .u64 P.sn, .int .i64 P.ra, .bool P.av, .int .u64 P.rd, .int .u64 P.cm], .int .i64 k] w fun e w' => e = .returned (.bool true) ∧ Below w.heap.size w w' := by
  go_enter Try.func3, Try.ntmps3
  go_wp2_with (go_at_call 5; refine (bytes5_false P o1 o2 n1 c1 n2 c2 k _ h h1 h2).mono ?_; rintro e w' ⟨rfl, c, rfl⟩)
  go_ret
  exact ⟨rfl, ((Below.refl _ w).alloc (Nat.le_refl _) _).alloc (by simp) _⟩

set_option maxHeartbeats 1000000 in
theorem law3_many (P : Prg) (o1 o2 : Option Addr) (n1 c1 n2 c2 : Nat) (k : Int) (w : World) (h : n1 + n2 ≤ 1048576) (h' : 16384 < n1 + n2) :
    Calls Try.prog 3 #[.agg #[.int .u8 P.st, .int .u64 P.ma, .int .u64 P.nx, .slice o1 n1 c1, .int .i64 P.wi, .int .i64 P.fl, .int .i64 P.ak, .int .u64 P.sd, .int .u64 P.lr, .bool P.ro, .slice o2 n2 c2, .int .u64 P.rh, .int .u64 P.hf, .int .u64 P.hl, .int .u64 P.hz, .int .i64 P.tk, .int .u64 P.sn, .int .i64 P.ra, .bool P.av, .int .u64 P.rd, .int .u64 P.cm], .int .i64 k] w fun e w' => e = .returned (.bool true) ∧ Below w.heap.size w w' := by
  have g : 16384 < (n1 : Int) + (n2 : Int) := by omega
  go_enter Try.func3, Try.ntmps3
  go_wp2_with (go_at_call 5; refine (bytes5_true P o1 o2 n1 c1 n2 c2 k _ h).mono ?_; rintro e w' ⟨rfl, c, rfl⟩)
  go_ret
  exact ⟨rfl, ((Below.refl _ w).alloc (Nat.le_refl _) _).alloc (by simp) _⟩

set_option maxHeartbeats 1000000 in
theorem law3_neg (P : Prg) (o1 o2 : Option Addr) (n1 c1 n2 c2 : Nat) (k : Int) (w : World) (h : n1 + n2 ≤ 16384) (h' : k < 0) :
    Calls Try.prog 3 #[.agg #[.int .u8 P.st, .int .u64 P.ma, .int .u64 P.nx, .slice o1 n1 c1, .int .i64 P.wi, .int .i64 P.fl, .int .i64 P.ak, .int .u64 P.sd, .int .u64 P.lr, .bool P.ro, .slice o2 n2 c2, .int .u64 P.rh, .int .u64 P.hf, .int .u64 P.hl, .int .u64 P.hz, .int .i64 P.tk, .int .u64 P.sn, .int .i64 P.ra, .bool P.av, .int .u64 P.rd, .int .u64 P.cm], .int .i64 k] w fun e w' => e = .returned (.bool true) ∧ Below w.heap.size w w' := by
  have g : (n1 : Int) + (n2 : Int) ≤ 16384 := by omega
  go_enter Try.func3, Try.ntmps3
  go_wp2_with (go_at_call 5; refine (bytes5_true P o1 o2 n1 c1 n2 c2 k _ (by omega)).mono ?_; rintro e w' ⟨rfl, c, rfl⟩)
  go_ret
  exact ⟨rfl, ((Below.refl _ w).alloc (Nat.le_refl _) _).alloc (by simp) _⟩

set_option maxHeartbeats 1000000 in
theorem law3_past (P : Prg) (o1 o2 : Option Addr) (n1 c1 n2 c2 : Nat) (k : Int) (w : World) (h : n1 + n2 ≤ 16384) (h' : 0 ≤ k) (h'' : (n1 : Int) ≤ k) :
    Calls Try.prog 3 #[.agg #[.int .u8 P.st, .int .u64 P.ma, .int .u64 P.nx, .slice o1 n1 c1, .int .i64 P.wi, .int .i64 P.fl, .int .i64 P.ak, .int .u64 P.sd, .int .u64 P.lr, .bool P.ro, .slice o2 n2 c2, .int .u64 P.rh, .int .u64 P.hf, .int .u64 P.hl, .int .u64 P.hz, .int .i64 P.tk, .int .u64 P.sn, .int .i64 P.ra, .bool P.av, .int .u64 P.rd, .int .u64 P.cm], .int .i64 k] w fun e w' => e = .returned (.bool true) ∧ Below w.heap.size w w' := by
  have g : (n1 : Int) + (n2 : Int) ≤ 16384 := by omega
  go_enter Try.func3, Try.ntmps3
  go_wp2_with (go_at_call 5; refine (bytes5_true P o1 o2 n1 c1 n2 c2 k _ (by omega)).mono ?_; rintro e w' ⟨rfl, c, rfl⟩)
  go_ret
  exact ⟨rfl, ((Below.refl _ w).alloc (Nat.le_refl _) _).alloc (by simp) _⟩

/-! ### The plain law: the greatest last among the first m appends -/
def hiAt (X : Nat → El) : Nat → Int
  | 0 => 0
  | m + 1 => if m = 0 ∨ hiAt X m < (X m).b then (X m).b else hiAt X m
theorem hiAt_one (X : Nat → El) : hiAt X 1 = (X 0).b := by simp [hiAt]
theorem hiAt_up {X : Nat → El} {m : Nat} (h : hiAt X m < (X m).b) : hiAt X (m + 1) = (X m).b := by simp [hiAt, h]
theorem hiAt_stay {X : Nat → El} {m : Nat} (h0 : 0 < m) (h : (X m).b ≤ hiAt X m) : hiAt X (m + 1) = hiAt X m := by
  have a : ¬ (m = 0 ∨ hiAt X m < (X m).b) := by omega
  simp only [hiAt, if_neg a]
theorem hiAt_any (X : Nat → El) (i : Int) : ∀ m : Nat, 0 < m → ((List.range m).any fun j => decide (i ≤ (X j).b)) = decide (i ≤ hiAt X m)
  | 0, h => absurd h (by omega)
  | 1, _ => by simp [hiAt]
  | m + 2, _ => by
    rw [List.range_succ, List.any_append, hiAt_any X i (m + 1) (by omega)]
    by_cases h : hiAt X (m + 1) < (X (m + 1)).b
    · rw [hiAt_up (m := m + 1) h]
      by_cases h1 : i ≤ hiAt X (m + 1)
      · have h2 : i ≤ (X (m + 1)).b := by omega
        simp [h1, h2]
      · simp [h1]
    · rw [hiAt_stay (m := m + 1) (by omega) (by omega)]
      by_cases h1 : i ≤ hiAt X (m + 1)
      · simp [h1]
      · have h2 : ¬ i ≤ (X (m + 1)).b := by omega
        simp [h1, h2]
end Go.Proofs.Qxb6603959a
