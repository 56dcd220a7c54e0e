/- overtook, every way; ZZOvertook. -/
import Derived.Test.Qxb6603959aOver
import Derived.Test.Qxb6603959aZzInC
import Derived.Test.Qxb6603959aLoad
namespace Go.Proofs.Qxb6603959a
open Go.RowKit Go.Shelf

/-- What overtook answers. -/
def overB (ma nx : Int) (X : Nat → El) (k : Nat) : Bool := decide ((X k).a ≤ ma) || decide (nx ≤ (X k).a) || (List.range k).any fun j => decide ((X k).a ≤ (X j).b)

theorem over_below (w : World) (A B : Obj) (nq : Nat) : Below w.heap.size w (((w.alloc A).alloc B).drewN nq) := by
  have h := ((Below.refl _ w).alloc (Nat.le_refl _) A).alloc (by simp) B
  exact ⟨h.os, h.tape, h.output, h.size, h.block⟩

set_option maxHeartbeats 2000000 in
theorem over_match (ma nx : Int) (b off n1 c1 g k : Nat) (X : Nat → El) (w : World) (hg : g < w.heap.size) (_hb : b < w.heap.size) (_hn : n1 ≤ 16384) (_hc : n1 ≤ c1) (hL : Lies w b off n1 X) (hk : k < n1)
    (g1 : w.cell? ⟨g, 1, none⟩ = some (.int .u64 ma)) (_g2 : w.cell? ⟨g, 2, none⟩ = some (.int .u64 nx)) (g3 : w.cell? ⟨g, 3, none⟩ = some (.slice (some ⟨b, off, none⟩) n1 c1)) (hm : (X k).a ≤ ma) :
    Calls Try.prog 11 #[.pointer (some ⟨g, 0, none⟩), .int .i64 k] w fun e w' => e = .returned (.bool true) ∧ Below w.heap.size w w' := by
  obtain ⟨i, hi⟩ : ∃ i, i = (X k).a := ⟨_, rfl⟩
  obtain ⟨e0, _⟩ := hL k hk
  rw [← hi] at e0
  rw [← hi] at hm
  clear hi
  have hk0 : (0 : Int) ≤ (k : Int) := by omega
  have hk1 : (k : Int) < (n1 : Int) := by omega
  go_enter Try.func11, Try.ntmps11
  go_wp2
  go_quiet (fail)
  go_wp2
  refine bodyPost_ret (v := .bool true) (by simp [results, Try.results11, go_sem]) rfl ⟨rfl, ?_⟩
  exact (over_below w _ _ _).setCell (p := ⟨w.heap.size, 0, none⟩) (Nat.le_refl _) _

set_option maxHeartbeats 2000000 in
theorem over_next (ma nx : Int) (b off n1 c1 g k : Nat) (X : Nat → El) (w : World) (hg : g < w.heap.size) (_hb : b < w.heap.size) (_hn : n1 ≤ 16384) (_hc : n1 ≤ c1) (hL : Lies w b off n1 X) (hk : k < n1)
    (g1 : w.cell? ⟨g, 1, none⟩ = some (.int .u64 ma)) (g2 : w.cell? ⟨g, 2, none⟩ = some (.int .u64 nx)) (g3 : w.cell? ⟨g, 3, none⟩ = some (.slice (some ⟨b, off, none⟩) n1 c1)) (hm : ma < (X k).a) (hx : nx ≤ (X k).a) :
    Calls Try.prog 11 #[.pointer (some ⟨g, 0, none⟩), .int .i64 k] w fun e w' => e = .returned (.bool true) ∧ Below w.heap.size w w' := by
  obtain ⟨i, hi⟩ : ∃ i, i = (X k).a := ⟨_, rfl⟩
  obtain ⟨e0, _⟩ := hL k hk
  rw [← hi] at e0
  rw [← hi] at hm hx; have hd : decide (i ≤ ma) = false := by simp; omega
  clear hi
  have hk0 : (0 : Int) ≤ (k : Int) := by omega
  have hk1 : (k : Int) < (n1 : Int) := by omega
  go_enter Try.func11, Try.ntmps11
  go_wp2
  go_quiet (fail)
  go_wp2
  refine bodyPost_ret (v := .bool true) (by simp [results, Try.results11, go_sem]) rfl ⟨rfl, ?_⟩
  exact (over_below w _ _ _).setCell (p := ⟨w.heap.size, 0, none⟩) (Nat.le_refl _) _

theorem over (ma nx : Int) (b off n1 c1 g k : Nat) (X : Nat → El) (w : World) (hg : g < w.heap.size) (hb : b < w.heap.size) (hn : n1 ≤ 16384) (hc : n1 ≤ c1) (hL : Lies w b off n1 X) (hk : k < n1)
    (g1 : w.cell? ⟨g, 1, none⟩ = some (.int .u64 ma)) (g2 : w.cell? ⟨g, 2, none⟩ = some (.int .u64 nx)) (g3 : w.cell? ⟨g, 3, none⟩ = some (.slice (some ⟨b, off, none⟩) n1 c1)) :
    Calls Try.prog 11 #[.pointer (some ⟨g, 0, none⟩), .int .i64 k] w fun e w' => e = .returned (.bool (overB ma nx X k)) ∧ Below w.heap.size w w' := by
  unfold overB
  by_cases a : (X k).a ≤ ma
  · rw [decide_eq_true a, Bool.true_or, Bool.true_or]
    exact over_match ma nx b off n1 c1 g k X w hg hb hn hc hL hk g1 g2 g3 a
  by_cases d : nx ≤ (X k).a
  · rw [decide_eq_true d, Bool.or_true, Bool.true_or]
    exact over_next ma nx b off n1 c1 g k X w hg hb hn hc hL hk g1 g2 g3 (by omega) d
  rw [decide_eq_false a, decide_eq_false d, Bool.false_or, Bool.false_or]
  exact over_loop ma nx b off n1 c1 g k X w hg hb hn hc hL hk g1 g2 g3 (by omega) (by omega)

attribute [local go_sem ↓] load30_pre
attribute [local go_sem] load30_new
set_option maxHeartbeats 2000000 in
theorem zzOver (P : Prg) (o1 o2 : Option Addr) (n1 c1 n2 c2 k : Nat) (X1 X2 : Nat → El) (w : World) (hn1 : n1 ≤ 16384) (hn2 : n2 ≤ 16384) (hS1 : Src 0 w o1 n1 X1) (hS2 : Src 0 w o2 n2 X2) (hk : k < n1) :
    Calls Try.prog 6 #[.agg #[.int .u8 P.st, .int .u64 P.ma, .int .u64 P.nx, .slice o1 n1 c1, .int .i64 P.wi, .int .i64 P.fl, .int .i64 P.ak, .int .u64 P.sd, .int .u64 P.lr, .bool P.ro, .slice o2 n2 c2, .int .u64 P.rh, .int .u64 P.hf, .int .u64 P.hl, .int .u64 P.hz, .int .i64 P.tk, .int .u64 P.sn, .int .i64 P.ra, .bool P.av, .int .u64 P.rd, .int .u64 P.cm], .int .i64 k] w fun e w' => e = .returned (.bool (overB P.ma P.nx X1 k)) ∧ Below w.heap.size w w' := by
  have hb0 : ∀ A : Obj, Below w.heap.size w (w.alloc A) := fun A => (Below.refl _ w).alloc (Nat.le_refl _) A
  go_enter Try.func6, Try.ntmps6
  go_wp2_with fail
  refine (zzInC P o1 o2 n1 c1 n2 c2 X1 X2 _ hn1 hn2 (hS1.below (hb0 _)) (hS2.below (hb0 _))).mono ?_
  rintro e w' ⟨W2, q1, q2, d1, d2, rfl, rfl, hc1, hR1, hR2, hb⟩
  rcases hR1 with h | ⟨b, off, rfl, _, hlt, hL⟩
  · omega
  have hr : (W2.alloc (.cells #[.int .u8 P.st, .int .u64 P.ma, .int .u64 P.nx, .slice (some ⟨b, off, none⟩) n1 d1, .int .i64 P.wi, .int .i64 P.fl, .int .i64 P.ak, .int .u64 P.sd, .int .u64 P.lr, .bool P.ro, .slice q2 n2 d2, .int .u64 P.rh, .int .u64 P.hf, .int .u64 P.hl, .int .u64 P.hz, .int .i64 P.tk, .int .u64 P.sn, .int .i64 P.ra, .bool P.av, .int .u64 P.rd, .int .u64 P.cm] 48)).rowIs W2.heap.size 48 21 _ := row_new W2 _ 48
  have hbx := (Below.refl _ W2).alloc (Nat.le_refl _) (.cells #[.int .u8 P.st, .int .u64 P.ma, .int .u64 P.nx, .slice (some ⟨b, off, none⟩) n1 d1, .int .i64 P.wi, .int .i64 P.fl, .int .i64 P.ak, .int .u64 P.sd, .int .u64 P.lr, .bool P.ro, .slice q2 n2 d2, .int .u64 P.rh, .int .u64 P.hf, .int .u64 P.hl, .int .u64 P.hz, .int .i64 P.tk, .int .u64 P.sn, .int .i64 P.ra, .bool P.av, .int .u64 P.rd, .int .u64 P.cm] 48)
  go_wp2_with fail
  refine (over P.ma P.nx b off n1 d1 W2.heap.size k X1 _ (by simp) (by simp; omega) hn1 hc1 (hL.below hbx hlt) hk (hr.cell (i := 1) (by decide)) (hr.cell (i := 2) (by decide)) (hr.cell (i := 3) (by decide))).mono ?_
  rintro e w3 ⟨rfl, hb3⟩
  go_wp2
  go_ret
  refine ⟨rfl, ?_⟩
  have hz := hb.size
  simp at hz
  exact ((hb0 _).trans (hb.mono (by simp))).trans ((hbx.mono (by omega)).trans (hb3.mono (by simp; omega)))
end Go.Proofs.Qxb6603959a
