/- toZZ: the struct literal with two copies in it. -/
import Derived.Test.Qxb6603959aCopy12
import Derived.Test.Qxb6603959aRec
import Derived.Deep.RegionHeld3
import Derived.Deep.DrawnRows
namespace Go.Proofs.Qxb6603959a
open Go.RowKit
attribute [local go_sem ↓] Go.wp_at_zero Go.wp_at_succ build30_pre store30_pre
attribute [local go_sem] build30 store30

set_option maxHeartbeats 4000000 in
theorem toZZ (P : Prg) (o1 o2 : Option Addr) (n1 c1 n2 c2 : Nat) (X1 X2 : Nat → El) (w : World) (hn1 : n1 ≤ 16384) (hn2 : n2 ≤ 16384) (hS1 : Src 0 w o1 n1 X1) (hS2 : Src 0 w o2 n2 X2) :
    Calls Try.prog 7 #[.agg #[.int .u8 P.st, .int .u64 P.ma, .int .u64 P.nx, .slice o1 n1 c1, .int .i64 P.wi, .int .i64 P.fl, .int .i64 P.ak, .int .u64 P.sd, .int .u64 P.lr, .bool P.ro, .slice o2 n2 c2, .int .u64 P.rh, .int .u64 P.hf, .int .u64 P.hl, .int .u64 P.hz, .int .i64 P.tk, .int .u64 P.sn, .int .i64 P.ra, .bool P.av, .int .u64 P.rd, .int .u64 P.cm]] w fun e w' => ∃ (o1' o2' : Option Addr) (c1' c2' : Nat), e = .returned (.agg #[.int .u8 P.st, .int .u64 P.ma, .int .u64 P.nx, .slice o1' n1 c1', .int .i64 P.wi, .int .i64 P.fl, .int .i64 P.ak, .int .u64 P.sd, .int .u64 P.lr, .bool P.ro, .slice o2' n2 c2', .int .u64 P.rh, .int .u64 P.hf, .int .u64 P.hl, .int .u64 P.hz, .int .i64 P.tk, .int .u64 P.sn, .int .i64 P.ra, .bool P.av, .int .u64 P.rd, .int .u64 P.cm]) ∧
      Src w.heap.size w' o1' n1 X1 ∧ Src w.heap.size w' o2' n2 X2 ∧ Below w.heap.size w w' := by
  have hso : ∀ (W : World) (vs : List Value) (o : Nat), (W.setCells (w.heap.size + 1) 0 vs).cell? ⟨w.heap.size, o, none⟩ = W.cell? ⟨w.heap.size, o, none⟩ := fun W vs o => cell_setCells_other W _ _ o vs (by omega)
  go_enter Try.func7, Try.ntmps7
  go_wp2
  go_region_held3 (fun w' => w'.cell? ⟨w.heap.size, 0, none⟩ = some (.int .u8 P.st) ∧ w'.cell? ⟨w.heap.size, 1, none⟩ = some (.int .u64 P.ma) ∧ w'.cell? ⟨w.heap.size, 2, none⟩ = some (.int .u64 P.nx) ∧ w'.cell? ⟨w.heap.size, 3, none⟩ = some (.slice o1 n1 c1) ∧ w'.cell? ⟨w.heap.size, 4, none⟩ = some (.int .i64 P.wi) ∧ w'.cell? ⟨w.heap.size, 5, none⟩ = some (.int .i64 P.fl) ∧ w'.cell? ⟨w.heap.size, 6, none⟩ = some (.int .i64 P.ak) ∧ w'.cell? ⟨w.heap.size, 7, none⟩ = some (.int .u64 P.sd) ∧ w'.cell? ⟨w.heap.size, 8, none⟩ = some (.int .u64 P.lr) ∧ w'.cell? ⟨w.heap.size, 9, none⟩ = some (.bool P.ro) ∧ w'.cell? ⟨w.heap.size, 10, none⟩ = some (.slice o2 n2 c2) ∧ w'.cell? ⟨w.heap.size, 11, none⟩ = some (.int .u64 P.rh) ∧ w'.cell? ⟨w.heap.size, 12, none⟩ = some (.int .u64 P.hf) ∧ w'.cell? ⟨w.heap.size, 13, none⟩ = some (.int .u64 P.hl) ∧ w'.cell? ⟨w.heap.size, 14, none⟩ = some (.int .u64 P.hz) ∧ w'.cell? ⟨w.heap.size, 15, none⟩ = some (.int .i64 P.tk) ∧ w'.cell? ⟨w.heap.size, 16, none⟩ = some (.int .u64 P.sn) ∧ w'.cell? ⟨w.heap.size, 17, none⟩ = some (.int .i64 P.ra) ∧ w'.cell? ⟨w.heap.size, 18, none⟩ = some (.bool P.av) ∧ w'.cell? ⟨w.heap.size, 19, none⟩ = some (.int .u64 P.rd) ∧ w'.cell? ⟨w.heap.size, 20, none⟩ = some (.int .u64 P.cm)) (simp [go_sem, *])
    (first
      | (go_at_call_of 12 o1; refine (copy12 o1 n1 c1 X1 _ hn1 ?_).mono ?_; (exact hS1.below ((((Below.refl _ w).alloc (Nat.le_refl _) _).alloc (by simp) _).drew)); rintro e w1 ⟨q1, d1, rfl, hR1, hb1⟩; obtain ⟨hk1, hk2⟩ := bcell hb1; have hz1 : w.heap.size + 1 < w1.heap.size := (by have := hb1.size; simp at this; omega); have hz1' : w.heap.size < w1.heap.size := (by omega))
      | (go_at_call_of 12 o2; refine (copy12 o2 n2 c2 X2 _ hn2 ?_).mono ?_; (exact hS2.below (((((Below.refl _ w).alloc (Nat.le_refl _) _).alloc (by simp) _).drew).trans (hb1.mono (by simp; omega)))); rintro e w2 ⟨q2, d2, rfl, hR2, hb2⟩; obtain ⟨hk3, hk4⟩ := bcell hb2; have ht2 : w2.there (w.heap.size + 1) 0 21 := (there_two rfl hb1 hb2); have hz2' : w.heap.size < w2.heap.size := (by have := hb2.size; omega)))
  go_wp2
  refine bodyPost_ret (v := .agg #[.int .u8 P.st, .int .u64 P.ma, .int .u64 P.nx, .slice q1 n1 d1, .int .i64 P.wi, .int .i64 P.fl, .int .i64 P.ak, .int .u64 P.sd, .int .u64 P.lr, .bool P.ro, .slice q2 n2 d2, .int .u64 P.rh, .int .u64 P.hf, .int .u64 P.hl, .int .u64 P.hz, .int .i64 P.tk, .int .u64 P.sn, .int .i64 P.ra, .bool P.av, .int .u64 P.rd, .int .u64 P.cm]) ?_ rfl ⟨q1, q2, d1, d2, rfl, ?_, ?_, ?_⟩
  · exact results_cell1 Try.results7 _ _ ⟨w.heap.size + 1, 0, none⟩ _ rfl (result30 ht2 rfl)
  · exact (((hR1.below hb2).mono (by simp)).setCells (Nat.lt_succ_self _) _ _).mono (by omega)
  · exact ((hR2.mono (by omega)).setCells (Nat.lt_succ_self _) _ _).mono (by omega)
  · exact below_setCells' (by omega) _ _ ((((((Below.refl _ w).alloc (Nat.le_refl _) _).alloc (by simp) _).drew).trans (hb1.mono (by simp; omega))).trans (hb2.mono (by omega)))
end Go.Proofs.Qxb6603959a
