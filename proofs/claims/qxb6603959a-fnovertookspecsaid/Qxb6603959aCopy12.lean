/- toSent: the copy of a slice of appends, element by element. WRITTEN BY PROGRAM for three functions of one make. -/
import Derived.Test.Qxb6603959aSents
import Derived.WalkSpells
import Derived.RegionTactic
import Derived.BigRegion
namespace Go.Proofs.Qxb6603959a
open Go.RowKit

theorem infoF12 : (Try.prog.info? 54).map (fun i => (i.zero, i.size, i.bytes)) = some (some (.agg #[.int .u64 0, .int .u64 0, .int .i64 0, .int .u64 0, .int .i64 0]), 5, 40) := by kernel_rfl

theorem make12 (n : Nat) (hn : n ≤ 16384) (w : World) : (Instr.makeSlice 28 (.int .i64 n) (.int .i64 n)).run Try.prog w = .ok (.slice (some ⟨w.heap.size, 0, none⟩) n n) (w.alloc (.cells (zeros n) 54)) := by
  obtain ⟨i0, hi, hz0, hz1, hz2⟩ := info_parts infoF12
  have h := run_make (P := Try.prog) w 28 54 i0 _ Try.underlying28 hi hz0 .i64 .i64 n n (by omega) (by omega) (by rw [hz2]; omega) (by omega)
  rw [hz1] at h
  simpa [zeros, Value.cells] using h

theorem copy12_nil (c : Nat) (w : World) :
    Calls Try.prog 12 #[.slice none 0 c] w fun e w' => e = .returned (.slice none 0 0) ∧ w' = w := by
  have hnil := fun (w : World) (a : Option Addr) (l c : Nat) => Lib.run_eql_slice_nil (P := Try.prog) w 23 33 a l c 0 0 Try.underlying23
  go_enter Try.func12, Try.ntmps12
  go_wp2
  go_ret
  exact ⟨rfl, rfl⟩

theorem copy12_zero (a : Addr) (c : Nat) (X : Nat → El) (w : World) :
    Calls Try.prog 12 #[.slice (some a) 0 c] w fun e w' => e = .returned (.slice (some ⟨w.heap.size, 0, none⟩) 0 0) ∧ Filled w' w.heap.size 54 0 0 X ∧ Below w.heap.size w w' := by
  have hmk := make12 0 (by omega)
  rw [show ((0 : Nat) : Int) = 0 from rfl] at hmk
  have hnil := fun (w : World) (a : Option Addr) (l c : Nat) => Lib.run_eql_slice_nil (P := Try.prog) w 23 33 a l c 0 0 Try.underlying23
  go_enter Try.func12, Try.ntmps12
  go_wp2
  go_loopw [4] (fun i wr => i = .int .i64 0 ∧ Filled wr w.heap.size 54 0 0 X ∧ Below w.heap.size w wr) (fun _ _ => 0)
  case atStart => exact ⟨rfl, Filled.start w 54 0 X, (Below.refl _ w).alloc (Nat.le_refl _) _⟩
  case round =>
    obtain ⟨rfl, hF, hB⟩ := hrel
    go_wp2
    go_ret
    exact ⟨rfl, hF, hB⟩

set_option maxHeartbeats 1000000 in
theorem copy12_pos (b off n c : Nat) (X : Nat → El) (w : World) (hb : b < w.heap.size) (hn : n ≤ 16384) (hL : Lies w b off n X) :
    Calls Try.prog 12 #[.slice (some ⟨b, off, none⟩) n c] w fun e w' => e = .returned (.slice (some ⟨w.heap.size, 0, none⟩) n n) ∧ Filled w' w.heap.size 54 n n X ∧ Below w.heap.size w w' := by
  have hmk := make12 n hn
  have hnil := fun (w : World) (a : Option Addr) (l c : Nat) => Lib.run_eql_slice_nil (P := Try.prog) w 23 33 a l c 0 0 Try.underlying23
  go_enter Try.func12, Try.ntmps12
  go_wp2
  go_loopw [4] (fun i wr => ∃ k : Nat, k ≤ n ∧ i = .int .i64 k ∧ Filled wr w.heap.size 54 n k X ∧ Below w.heap.size w wr) (fun i _ => n - (intOf i).toNat)
  case atStart => exact ⟨0, Nat.zero_le _, rfl, Filled.start w 54 n X, (Below.refl _ w).alloc (Nat.le_refl _) _⟩
  case round =>
    obtain ⟨k, hk, rfl, hF, hB⟩ := hrel
    by_cases hlt : k < n
    · have hlt' : (k : Int) < (n : Int) := by omega
      have h0' : (0 : Int) ≤ (k : Int) := by omega
      obtain ⟨c0, c1, c2, c3, c4⟩ := (hL.below hB hb) k hlt
      obtain ⟨v0, t0⟩ := hF.there (k * 5) (by omega)
      obtain ⟨v1, t1⟩ := hF.there (k * 5 + 1) (by omega)
      obtain ⟨v2, t2⟩ := hF.there (k * 5 + 2) (by omega)
      obtain ⟨v3, t3⟩ := hF.there (k * 5 + 3) (by omega)
      obtain ⟨v4, t4⟩ := hF.there (k * 5 + 4) (by omega)
      have f0 := hF.free (k * 5)
      have f1 := hF.free (k * 5 + 1)
      have f2 := hF.free (k * 5 + 2)
      have f3 := hF.free (k * 5 + 3)
      have f4 := hF.free (k * 5 + 4)
      go_wp2
      go_region
      go_wp2
      go_roundw
      case rel =>
        refine ⟨k + 1, by omega, by go_num, hF.step, ?_⟩
        exact (((((hB.setCell (Nat.le_refl _) _).setCell (Nat.le_refl _) _).setCell (Nat.le_refl _) _).setCell (Nat.le_refl _) _).setCell (Nat.le_refl _) _).drew
      case measure => simp [intOf]; omega
    · obtain rfl : k = n := by omega
      go_wp2
      go_ret
      exact ⟨rfl, hF, hB⟩

/-- The copy, whatever the slice: the same elements in memory of the call's own. -/
theorem copy12 (o : Option Addr) (n c : Nat) (X : Nat → El) (w : World) (hn : n ≤ 16384) (hS : Src 0 w o n X) :
    Calls Try.prog 12 #[.slice o n c] w fun e w' => ∃ (o' : Option Addr) (c' : Nat), e = .returned (.slice o' n c') ∧ Src w.heap.size w' o' n X ∧ Below w.heap.size w w' := by
  rcases hS with rfl | ⟨b, off, rfl, _, hb, hL⟩
  · cases o with
    | none =>
      refine (copy12_nil c w).mono ?_
      rintro e w' ⟨he, hw⟩
      subst hw
      exact ⟨none, 0, he, .inl rfl, Below.refl _ _⟩
    | some a =>
      refine (copy12_zero a c X w).mono ?_
      rintro e w' ⟨he, hF, hB⟩
      exact ⟨_, _, he, .inl rfl, hB⟩
  · refine (copy12_pos b off n c X w hb hn hL).mono ?_
    rintro e w' ⟨he, hF, hB⟩
    exact ⟨_, _, he, hF.src, hB⟩
end Go.Proofs.Qxb6603959a
