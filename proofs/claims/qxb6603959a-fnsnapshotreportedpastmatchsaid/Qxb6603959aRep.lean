/- ZZSnapshotReported: the record made, reported on, read out again. -/
import Derived.Test.Qxb6603959aZzIn
import Derived.Test.Qxb6603959aSnap
import Derived.Test.Qxb6603959aZzOut
import Derived.Test.Qxb6603959aLoad
namespace Go.Proofs.Qxb6603959a
open Go.RowKit
attribute [local go_sem ↓] store30_pre load30_pre
attribute [local go_sem] store30 load30_old

theorem zzIn2 (P : Prg) (o1 o2 : Option Addr) (n1 c1 n2 c2 : Nat) (X1 X2 : Nat → El) (w : World) (hn1 : n1 ≤ 16384) (hn2 : n2 ≤ 16384) (hS1 : Src 0 w o1 n1 X1) (hS2 : Src 0 w o2 n2 X2) :
    Calls Try.prog 10 #[.agg #[.int .u8 2, .int .u64 P.ma, .int .u64 P.nx, .slice o1 n1 c1, .int .i64 P.wi, .int .i64 P.fl, .int .i64 P.ak, .int .u64 P.sd, .int .u64 P.lr, .bool P.ro, .slice o2 n2 c2, .int .u64 P.rh, .int .u64 P.hf, .int .u64 P.hl, .int .u64 P.hz, .int .i64 P.tk, .int .u64 P.sn, .int .i64 P.ra, .bool P.av, .int .u64 P.rd, .int .u64 P.cm]] w fun e w' => ∃ (W2 : World) (o1' o2' : Option Addr) (c1' c2' : Nat), e = .returned (.pointer (some ⟨W2.heap.size, 0, none⟩)) ∧ w' = W2.alloc (.cells #[.int .u8 2, .int .u64 P.ma, .int .u64 P.nx, .slice o1' n1 c1', .int .i64 P.wi, .int .i64 P.fl, .int .i64 P.ak, .int .u64 P.sd, .int .u64 P.lr, .bool P.ro, .slice o2' n2 c2', .int .u64 P.rh, .int .u64 P.hf, .int .u64 P.hl, .int .u64 P.hz, .int .i64 P.tk, .int .u64 P.sn, .int .i64 P.ra, .bool P.av, .int .u64 P.rd, .int .u64 P.cm] 48) ∧
      Src w.heap.size W2 o1' n1 X1 ∧ Src w.heap.size W2 o2' n2 X2 ∧ Below w.heap.size w W2 :=
  zzIn { P with st := 2 } o1 o2 n1 c1 n2 c2 X1 X2 w hn1 hn2 hS1 hS2

/-- zzOut of the record as snapshotReported leaves it. -/
theorem zzOut2 (P : Prg) (nx ra' : Int) (o1 o2 : Option Addr) (n1 c1 n2 c2 : Nat) (X1 X2 : Nat → El) (W2 : World) (nq : Nat) (hn1 : n1 ≤ 16384) (hn2 : n2 ≤ 16384) (hS1 : Src 0 W2 o1 n1 X1) (hS2 : Src 0 W2 o2 n2 X2) :
    Calls Try.prog 14 #[.pointer (some ⟨W2.heap.size, 0, none⟩)] ((W2.alloc (.cells #[.int .u8 0, .int .u64 P.ma, .int .u64 nx, .slice o1 n1 c1, .int .i64 P.wi, .int .i64 P.fl, .int .i64 P.ak, .int .u64 P.sd, .int .u64 P.lr, .bool P.ro, .slice o2 n2 c2, .int .u64 P.rh, .int .u64 P.hf, .int .u64 P.hl, .int .u64 P.hz, .int .i64 P.tk, .int .u64 0, .int .i64 ra', .bool P.av, .int .u64 P.rd, .int .u64 P.cm] 48)).drewN nq) fun e w' =>
      ∃ (o1' o2' : Option Addr) (c1' c2' : Nat), e = .returned (.agg #[.int .u8 0, .int .u64 P.ma, .int .u64 nx, .slice o1' n1 c1', .int .i64 P.wi, .int .i64 P.fl, .int .i64 P.ak, .int .u64 P.sd, .int .u64 P.lr, .bool P.ro, .slice o2' n2 c2', .int .u64 P.rh, .int .u64 P.hf, .int .u64 P.hl, .int .u64 P.hz, .int .i64 P.tk, .int .u64 0, .int .i64 ra', .bool P.av, .int .u64 P.rd, .int .u64 P.cm]) ∧ Below (W2.heap.size + 1) ((W2.alloc (.cells #[.int .u8 0, .int .u64 P.ma, .int .u64 nx, .slice o1 n1 c1, .int .i64 P.wi, .int .i64 P.fl, .int .i64 P.ak, .int .u64 P.sd, .int .u64 P.lr, .bool P.ro, .slice o2 n2 c2, .int .u64 P.rh, .int .u64 P.hf, .int .u64 P.hl, .int .u64 P.hz, .int .i64 P.tk, .int .u64 0, .int .i64 ra', .bool P.av, .int .u64 P.rd, .int .u64 P.cm] 48)).drewN nq) w' := by
  have hb : Below W2.heap.size W2 ((W2.alloc (.cells #[.int .u8 0, .int .u64 P.ma, .int .u64 nx, .slice o1 n1 c1, .int .i64 P.wi, .int .i64 P.fl, .int .i64 P.ak, .int .u64 P.sd, .int .u64 P.lr, .bool P.ro, .slice o2 n2 c2, .int .u64 P.rh, .int .u64 P.hf, .int .u64 P.hl, .int .u64 P.hz, .int .i64 P.tk, .int .u64 0, .int .i64 ra', .bool P.av, .int .u64 P.rd, .int .u64 P.cm] 48)).drewN nq) := by
    have h := (Below.refl _ W2).alloc (Nat.le_refl _) (.cells #[.int .u8 0, .int .u64 P.ma, .int .u64 nx, .slice o1 n1 c1, .int .i64 P.wi, .int .i64 P.fl, .int .i64 P.ak, .int .u64 P.sd, .int .u64 P.lr, .bool P.ro, .slice o2 n2 c2, .int .u64 P.rh, .int .u64 P.hf, .int .u64 P.hl, .int .u64 P.hz, .int .i64 P.tk, .int .u64 0, .int .i64 ra', .bool P.av, .int .u64 P.rd, .int .u64 P.cm] 48)
    exact ⟨h.os, h.tape, h.output, h.size, h.block⟩
  have hr : (W2.alloc (.cells #[.int .u8 0, .int .u64 P.ma, .int .u64 nx, .slice o1 n1 c1, .int .i64 P.wi, .int .i64 P.fl, .int .i64 P.ak, .int .u64 P.sd, .int .u64 P.lr, .bool P.ro, .slice o2 n2 c2, .int .u64 P.rh, .int .u64 P.hf, .int .u64 P.hl, .int .u64 P.hz, .int .i64 P.tk, .int .u64 0, .int .i64 ra', .bool P.av, .int .u64 P.rd, .int .u64 P.cm] 48)).rowIs W2.heap.size 48 21 _ := row_new W2 #[.int .u8 0, .int .u64 P.ma, .int .u64 nx, .slice o1 n1 c1, .int .i64 P.wi, .int .i64 P.fl, .int .i64 P.ak, .int .u64 P.sd, .int .u64 P.lr, .bool P.ro, .slice o2 n2 c2, .int .u64 P.rh, .int .u64 P.hf, .int .u64 P.hl, .int .u64 P.hz, .int .i64 P.tk, .int .u64 0, .int .i64 ra', .bool P.av, .int .u64 P.rd, .int .u64 P.cm] 48
  have hz : ((W2.alloc (.cells #[.int .u8 0, .int .u64 P.ma, .int .u64 nx, .slice o1 n1 c1, .int .i64 P.wi, .int .i64 P.fl, .int .i64 P.ak, .int .u64 P.sd, .int .u64 P.lr, .bool P.ro, .slice o2 n2 c2, .int .u64 P.rh, .int .u64 P.hf, .int .u64 P.hl, .int .u64 P.hz, .int .i64 P.tk, .int .u64 0, .int .i64 ra', .bool P.av, .int .u64 P.rd, .int .u64 P.cm] 48)).drewN nq).heap.size = W2.heap.size + 1 := by simp
  have h := zzOut { P with st := 0, nx := nx, sn := 0, ra := ra' } o1 o2 n1 c1 n2 c2 X1 X2 W2.heap.size ((W2.alloc (.cells #[.int .u8 0, .int .u64 P.ma, .int .u64 nx, .slice o1 n1 c1, .int .i64 P.wi, .int .i64 P.fl, .int .i64 P.ak, .int .u64 P.sd, .int .u64 P.lr, .bool P.ro, .slice o2 n2 c2, .int .u64 P.rh, .int .u64 P.hf, .int .u64 P.hl, .int .u64 P.hz, .int .i64 P.tk, .int .u64 0, .int .i64 ra', .bool P.av, .int .u64 P.rd, .int .u64 P.cm] 48)).drewN nq) hn1 hn2 (hS1.below hb) (hS2.below hb) (by rw [hz]; omega)
    (hr.cell (i := 0) (by decide)) (hr.cell (i := 1) (by decide)) (hr.cell (i := 2) (by decide)) (hr.cell (i := 3) (by decide)) (hr.cell (i := 4) (by decide)) (hr.cell (i := 5) (by decide)) (hr.cell (i := 6) (by decide)) (hr.cell (i := 7) (by decide)) (hr.cell (i := 8) (by decide)) (hr.cell (i := 9) (by decide)) (hr.cell (i := 10) (by decide)) (hr.cell (i := 11) (by decide)) (hr.cell (i := 12) (by decide)) (hr.cell (i := 13) (by decide)) (hr.cell (i := 14) (by decide)) (hr.cell (i := 15) (by decide)) (hr.cell (i := 16) (by decide)) (hr.cell (i := 17) (by decide)) (hr.cell (i := 18) (by decide)) (hr.cell (i := 19) (by decide)) (hr.cell (i := 20) (by decide))
  rw [hz] at h
  exact h

theorem below_box (W2 : World) (C : Obj) (nq : Nat) : Below W2.heap.size W2 ((W2.alloc C).drewN nq) := by
  have h := (Below.refl _ W2).alloc (Nat.le_refl _) C
  exact ⟨h.os, h.tape, h.output, h.size, h.block⟩
theorem there_rep {w W2 w3 : World} {A C : Obj} {c : Array Value} {nq : Nat} (hc : c.size = 21) (hb : Below ((w.alloc A).alloc (.cells c 30)).heap.size ((w.alloc A).alloc (.cells c 30)) W2) (hb3 : Below (W2.heap.size + 1) ((W2.alloc C).drewN nq) w3) :
    w3.there (w.heap.size + 1) 0 21 := by
  have h0 := there_new (w.alloc A) c 30 21 hc
  rw [World.size_alloc] at h0
  have hz := hb.size
  simp at hz
  exact there_below (there_below (there_below h0 hb (by simp)) (below_box W2 C nq) (by omega)) hb3 (by omega)
theorem below_rep {w W2 w3 : World} {A B C : Obj} {nq : Nat} (hb : Below ((w.alloc A).alloc B).heap.size ((w.alloc A).alloc B) W2) (hb3 : Below (W2.heap.size + 1) ((W2.alloc C).drewN nq) w3) :
    Below w.heap.size w w3 := by
  have hz := hb.size
  simp at hz
  exact ((((Below.refl _ w).alloc (Nat.le_refl _) A).alloc (by simp) B).trans (hb.mono (by simp; omega))).trans (((below_box W2 C nq).mono (by omega)).trans (hb3.mono (by omega)))

set_option maxHeartbeats 2000000 in
theorem reported (P : Prg) (o1 o2 : Option Addr) (n1 c1 n2 c2 : Nat) (X1 X2 : Nat → El) (failed : Bool) (ra : Int) (w : World) (hn1 : n1 ≤ 16384) (hn2 : n2 ≤ 16384) (hS1 : Src 0 w o1 n1 X1) (hS2 : Src 0 w o2 n2 X2)
    (hm0 : 0 ≤ P.ma) (hm1 : P.ma ≤ 18446744073709551614) (hs1 : P.sn ≤ 18446744073709551614) :
    Calls Try.prog 9 #[.agg #[.int .u8 2, .int .u64 P.ma, .int .u64 P.nx, .slice o1 n1 c1, .int .i64 P.wi, .int .i64 P.fl, .int .i64 P.ak, .int .u64 P.sd, .int .u64 P.lr, .bool P.ro, .slice o2 n2 c2, .int .u64 P.rh, .int .u64 P.hf, .int .u64 P.hl, .int .u64 P.hz, .int .i64 P.tk, .int .u64 P.sn, .int .i64 P.ra, .bool P.av, .int .u64 P.rd, .int .u64 P.cm], .bool failed, .int .i64 ra] w fun e w' => ∃ (nx ra' : Int) (o1' o2' : Option Addr) (c1' c2' : Nat), e = .returned (.agg #[.int .u8 0, .int .u64 P.ma, .int .u64 nx, .slice o1' n1 c1', .int .i64 P.wi, .int .i64 P.fl, .int .i64 P.ak, .int .u64 P.sd, .int .u64 P.lr, .bool P.ro, .slice o2' n2 c2', .int .u64 P.rh, .int .u64 P.hf, .int .u64 P.hl, .int .u64 P.hz, .int .i64 P.tk, .int .u64 0, .int .i64 ra', .bool P.av, .int .u64 P.rd, .int .u64 P.cm]) ∧
      (nx = P.ma + 1 ∨ nx = P.sn + 1 ∧ P.ma < P.sn) ∧ (failed = false → P.sn < nx) ∧ Below w.heap.size w w' := by
  have hb0 : ∀ A B : Obj, Below w.heap.size w ((w.alloc A).alloc B) := fun A B => ((Below.refl _ w).alloc (Nat.le_refl _) A).alloc (by simp) B
  have k10 := fun W hS1 hS2 => zzIn2 P o1 o2 n1 c1 n2 c2 X1 X2 W hn1 hn2 hS1 hS2
  go_enter Try.func9, Try.ntmps9
  go_wp2_with fail
  refine (k10 _ (hS1.below (hb0 _ _)) (hS2.below (hb0 _ _))).mono ?_
  rintro e w' ⟨W2, q1, q2, d1, d2, rfl, rfl, hR1, hR2, hb⟩
  go_wp2_with fail
  refine (snap13 failed P q1 q2 n1 d1 n2 d2 ra W2 hm0 hm1 hs1).mono ?_
  rintro e w' ⟨rfl, nx, ra', nq, hnx, hf, rfl⟩
  go_wp2_with fail
  refine (zzOut2 P nx ra' q1 q2 n1 d1 n2 d2 X1 X2 W2 nq hn1 hn2 (hR1.mono (Nat.zero_le _)) (hR2.mono (Nat.zero_le _))).mono ?_
  rintro e w3 ⟨s1, s2, t1, t2, rfl, hb3⟩
  have ht := there_rep rfl hb hb3
  have hbl := below_rep hb hb3
  clear hb hb3 hb0 k10
  go_wp2
  refine bodyPost_ret (v := .agg #[.int .u8 0, .int .u64 P.ma, .int .u64 nx, .slice s1 n1 t1, .int .i64 P.wi, .int .i64 P.fl, .int .i64 P.ak, .int .u64 P.sd, .int .u64 P.lr, .bool P.ro, .slice s2 n2 t2, .int .u64 P.rh, .int .u64 P.hf, .int .u64 P.hl, .int .u64 P.hz, .int .i64 P.tk, .int .u64 0, .int .i64 ra', .bool P.av, .int .u64 P.rd, .int .u64 P.cm]) ?_ rfl ⟨nx, ra', s1, s2, t1, t2, rfl, hnx, hf, ?_⟩
  · exact results_cell1 Try.results9 _ _ ⟨w.heap.size + 1, 0, none⟩ _ rfl (result30 ht rfl)
  · exact below_setCells' (by omega) _ _ hbl
end Go.Proofs.Qxb6603959a
