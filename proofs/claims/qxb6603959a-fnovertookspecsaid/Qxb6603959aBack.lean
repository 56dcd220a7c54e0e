/- slices.Backward over a slice of appends: its contract for every loop body that keeps what lay below n0. -/
import Derived.Test.Qxb6603959aSents
import Derived.RangeFuncNested
import Derived.RangeFuncBound
import Derived.RangeFuncCalls
import Derived.RangeFuncLeaves
import Derived.Shelf.Abstract
import Derived.Shelf.RegionOpen
import Derived.WalkKit
import Derived.OwnWalkIn
import Derived.TacticsInMore
import Derived.LoopNIn
import Derived.LoopIn
namespace Go.Proofs.Qxb6603959a
open Go.RowKit Go.Shelf
attribute [local go_sem] Oper.semAt_some

/-- What has come when k rounds are over. -/
def upto {α : Type} (f : Nat → α) (k : Nat) : List α := (List.range k).map f
theorem upto_succ {α : Type} (f : Nat → α) (k : Nat) : upto f (k + 1) = upto f k ++ [f k] := by simp [upto, List.range_succ]
theorem upto_length {α : Type} (f : Nat → α) (k : Nat) : (upto f k).length = k := by simp [upto]

/-- The pair that comes in round j: from the back. -/
def backAt (X : Nat → El) (len j : Nat) : Nat × El := (len - 1 - j, X (len - 1 - j))
theorem backAt_eq (X : Nat → El) {len j : Nat} (h : j < len) : backAt X len (len - (j + 1)) = (j, X j) := by
  unfold backAt
  have : len - 1 - (len - (j + 1)) = j := by omega
  rw [this]

/-- One append as a value. -/
def El.val (x : El) : Value := .agg #[.int .u64 x.a, .int .u64 x.b, .int .i64 x.c, .int .u64 x.d, .int .i64 x.e]

set_option maxRecDepth 100000 in
set_option maxHeartbeats 2000000 in
theorem backward1_in (F : Fence) (n : Nat) (h19 : F.fn 19) (hro : F.round = none) (hn : 1 ≤ n) (l Bs n₀ b off len cap : Nat) (X : Nat → El) (hreach : len ≤ 16384) (hb : b < n₀) (J Jx : List (Nat × El) → World → Prop)
    (hY : ∀ pre x W, J pre W → pre.length < len → YieldAt F (n - 1) Try.prog l #[.int .i64 (x.1 : Int), .agg #[.int .u64 x.2.a, .int .u64 x.2.b, .int .i64 x.2.c, .int .u64 x.2.d, .int .i64 x.2.e]] W fun e W' =>
      (e = .returned (.bool true) ∧ J (pre ++ [x]) W' ∧ Below n₀ W W') ∨ (e = .returned (.bool false) ∧ Jx (pre ++ [x]) W'))
    (W : World) (hBs : W.cell? ⟨Bs, 0, none⟩ = some (.slice (some ⟨b, off, none⟩) len cap)) (hBn : Bs < n₀) (hL : Lies W b off len X) (h0 : J [] W) :
    CallsIn F n Try.prog 19 #[.func (.yield l) #[] #[], .pointer (some ⟨Bs, 0, none⟩)] W fun e W' => (∃ v, e = .returned v) ∧
      ((∃ ys, ys = upto (backAt X len) len ∧ J ys W') ∨ (∃ pre, (∃ k, k ≤ len ∧ pre = upto (backAt X len) k) ∧ Jx pre W')) := by
  refine callsIn_of_wp Try.func19 rfl h19 ?_ hro
  simp only [Try.ntmps19, List.size_toArray, List.length_cons, List.length_nil, Nat.reduceAdd, Nat.reduceSub, Array.replicate_succ, Array.replicate_zero, List.push_toArray, List.append_toArray, List.nil_append, List.cons_append]
  gi_wp2
  gi_loopw [3] (fun i wr => ∃ m : Nat, m ≤ len ∧ i = .int .i64 ((m : Int) - 1) ∧ J (upto (backAt X len) (len - m)) wr ∧ Below n₀ W wr)
    (fun i _ => (intOf i + 1).toNat)
  case atStart => exact ⟨len, Nat.le_refl _, rfl, by rw [Nat.sub_self]; exact h0, Below.refl _ _⟩
  case round =>
    obtain ⟨m, hm, rfl, hJs, hnx⟩ := hrel
    have hBx := (hnx.cell (p := ⟨Bs, 0, none⟩) hBn).trans hBs
    cases m with
    | zero =>
      rw [show (((0 : Nat) : Int) - 1) = -1 from rfl]
      gi_wp2
      go_end0
      exact ⟨⟨_, rfl⟩, .inl ⟨_, rfl, hJs⟩⟩
    | succ j =>
      rw [show (((j + 1 : Nat) : Int) - 1) = (j : Int) from by omega]
      have hlt : j < len := by omega
      obtain ⟨c0, c1, c2, c3, c4⟩ := (hL.below hnx hb) j hlt
      obtain ⟨fn, tmps, assign, body, hy, hR⟩ := hY _ (j, X j) wr hJs (by rw [upto_length]; omega)
      dsimp only at hy
      have hj0 : (0 : Int) ≤ (j : Int) := by omega
      have hj1 : (j : Int) < (len : Int) := by omega
      gi_wp2
      refine hR.mono ?_
      rintro e W3 (⟨rfl, hJ3, hk3⟩ | ⟨rfl, hJx3⟩)
      · gi_wp2
        go_roundw
        case rel =>
          refine ⟨j, by omega, rfl, ?_, hnx.trans hk3⟩
          rw [show len - j = (len - (j + 1)) + 1 from by omega, upto_succ, backAt_eq X hlt]
          exact hJ3
        case measure => simp [intOf]
      · gi_wp2
        refine bodyPost_ret (results_none rfl _ _ _) rfl ?_
        exact ⟨⟨_, rfl⟩, .inr ⟨_, ⟨len - (j + 1) + 1, by omega, by rw [upto_succ, backAt_eq X hlt]⟩, hJx3⟩⟩
end Go.Proofs.Qxb6603959a
