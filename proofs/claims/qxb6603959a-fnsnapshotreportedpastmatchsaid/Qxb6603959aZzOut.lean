/- zzOut: the record read out of its block, with two copies in it. -/
import Derived.Test.Qxb6603959aCopy18
import Derived.Test.Qxb6603959aRec
import Derived.Deep.RegionHeld3
import Derived.Laws.Pointers
import Derived.Deep.DrawnRows
namespace Go.Proofs.Qxb6603959a
open Go.RowKit
attribute [local go_sem ↓] Go.wp_at_zero Go.wp_at_succ build30_pre store30_pre
attribute [local go_sem] build30 store30

theorem there_one {w w1 w2 : World} {c : Array Value} {t : TypeId} (hc : c.size = 21) (hb1 : Below (w.alloc (.cells c t)).drew.heap.size (w.alloc (.cells c t)).drew w1) (hb2 : Below w1.heap.size w1 w2) :
    w2.there w.heap.size 0 21 := by
  have hz := hb1.size
  simp at hz
  exact there_below (there_below (w := (w.alloc (.cells c t)).drew) (there_new w c t 21 hc) hb1 (by simp)) hb2 (by omega)

set_option maxHeartbeats 4000000 in
theorem zzOut (P : Prg) (o1 o2 : Option Addr) (n1 c1 n2 c2 : Nat) (X1 X2 : Nat → El) (g : Nat) (w : World) (hn1 : n1 ≤ 16384) (hn2 : n2 ≤ 16384) (hS1 : Src 0 w o1 n1 X1) (hS2 : Src 0 w o2 n2 X2) (hg : g < w.heap.size)
    (g0 : w.cell? ⟨g, 0, none⟩ = some (.int .u8 P.st)) (g1 : w.cell? ⟨g, 1, none⟩ = some (.int .u64 P.ma)) (g2 : w.cell? ⟨g, 2, none⟩ = some (.int .u64 P.nx)) (g3 : w.cell? ⟨g, 3, none⟩ = some (.slice o1 n1 c1)) (g4 : w.cell? ⟨g, 4, none⟩ = some (.int .i64 P.wi)) (g5 : w.cell? ⟨g, 5, none⟩ = some (.int .i64 P.fl)) (g6 : w.cell? ⟨g, 6, none⟩ = some (.int .i64 P.ak)) (g7 : w.cell? ⟨g, 7, none⟩ = some (.int .u64 P.sd)) (g8 : w.cell? ⟨g, 8, none⟩ = some (.int .u64 P.lr)) (g9 : w.cell? ⟨g, 9, none⟩ = some (.bool P.ro)) (g10 : w.cell? ⟨g, 10, none⟩ = some (.slice o2 n2 c2)) (g11 : w.cell? ⟨g, 11, none⟩ = some (.int .u64 P.rh)) (g12 : w.cell? ⟨g, 12, none⟩ = some (.int .u64 P.hf)) (g13 : w.cell? ⟨g, 13, none⟩ = some (.int .u64 P.hl)) (g14 : w.cell? ⟨g, 14, none⟩ = some (.int .u64 P.hz)) (g15 : w.cell? ⟨g, 15, none⟩ = some (.int .i64 P.tk)) (g16 : w.cell? ⟨g, 16, none⟩ = some (.int .u64 P.sn)) (g17 : w.cell? ⟨g, 17, none⟩ = some (.int .i64 P.ra)) (g18 : w.cell? ⟨g, 18, none⟩ = some (.bool P.av)) (g19 : w.cell? ⟨g, 19, none⟩ = some (.int .u64 P.rd)) (g20 : w.cell? ⟨g, 20, none⟩ = some (.int .u64 P.cm)) :
    Calls Try.prog 14 #[.pointer (some ⟨g, 0, none⟩)] w fun e w' => ∃ (o1' o2' : Option Addr) (c1' c2' : Nat), e = .returned (.agg #[.int .u8 P.st, .int .u64 P.ma, .int .u64 P.nx, .slice o1' n1 c1', .int .i64 P.wi, .int .i64 P.fl, .int .i64 P.ak, .int .u64 P.sd, .int .u64 P.lr, .bool P.ro, .slice o2' n2 c2', .int .u64 P.rh, .int .u64 P.hf, .int .u64 P.hl, .int .u64 P.hz, .int .i64 P.tk, .int .u64 P.sn, .int .i64 P.ra, .bool P.av, .int .u64 P.rd, .int .u64 P.cm]) ∧ Below w.heap.size w w' := by
  have hg1 : g < w.heap.size + 1 := by omega
  go_enter Try.func14, Try.ntmps14
  have hso : ∀ (W : World) (vs : List Value) (o : Nat), (W.setCells w.heap.size 0 vs).cell? ⟨g, o, none⟩ = W.cell? ⟨g, o, none⟩ := fun W vs o => cell_setCells_other W _ _ o vs (by omega)
  go_wp2
  simp only [List.append]
  go_region_held3 (fun w' => w'.cell? ⟨g, 0, none⟩ = some (.int .u8 P.st) ∧ w'.cell? ⟨g, 1, none⟩ = some (.int .u64 P.ma) ∧ w'.cell? ⟨g, 2, none⟩ = some (.int .u64 P.nx) ∧ w'.cell? ⟨g, 3, none⟩ = some (.slice o1 n1 c1) ∧ w'.cell? ⟨g, 4, none⟩ = some (.int .i64 P.wi) ∧ w'.cell? ⟨g, 5, none⟩ = some (.int .i64 P.fl) ∧ w'.cell? ⟨g, 6, none⟩ = some (.int .i64 P.ak) ∧ w'.cell? ⟨g, 7, none⟩ = some (.int .u64 P.sd) ∧ w'.cell? ⟨g, 8, none⟩ = some (.int .u64 P.lr) ∧ w'.cell? ⟨g, 9, none⟩ = some (.bool P.ro) ∧ w'.cell? ⟨g, 10, none⟩ = some (.slice o2 n2 c2) ∧ w'.cell? ⟨g, 11, none⟩ = some (.int .u64 P.rh) ∧ w'.cell? ⟨g, 12, none⟩ = some (.int .u64 P.hf) ∧ w'.cell? ⟨g, 13, none⟩ = some (.int .u64 P.hl) ∧ w'.cell? ⟨g, 14, none⟩ = some (.int .u64 P.hz) ∧ w'.cell? ⟨g, 15, none⟩ = some (.int .i64 P.tk) ∧ w'.cell? ⟨g, 16, none⟩ = some (.int .u64 P.sn) ∧ w'.cell? ⟨g, 17, none⟩ = some (.int .i64 P.ra) ∧ w'.cell? ⟨g, 18, none⟩ = some (.bool P.av) ∧ w'.cell? ⟨g, 19, none⟩ = some (.int .u64 P.rd) ∧ w'.cell? ⟨g, 20, none⟩ = some (.int .u64 P.cm)) (simp [go_sem, World.cell?_alloc_lt, *])
    (first
      | (go_at_call_of 18 o1; refine (copy18 o1 n1 c1 X1 _ hn1 ?_).mono ?_; (exact hS1.below (((Below.refl _ w).alloc (Nat.le_refl _) _).drew)); rintro e w1 ⟨q1, d1, rfl, hR1, hb1⟩; obtain ⟨hk1, hk2⟩ := bcell hb1; have hz1' : g < w1.heap.size := (by have := hb1.size; simp at this; omega))
      | (go_at_call_of 18 o2; refine (copy18 o2 n2 c2 X2 _ hn2 ?_).mono ?_; (exact hS2.below ((((Below.refl _ w).alloc (Nat.le_refl _) _).drew).trans (hb1.mono (by simp)))); rintro e w2 ⟨q2, d2, rfl, hR2, hb2⟩; obtain ⟨hk3, hk4⟩ := bcell hb2; have ht2 : w2.there w.heap.size 0 21 := (there_one rfl hb1 hb2); have hz2' : g < w2.heap.size := (by have := hb2.size; omega)))
  go_wp2
  refine bodyPost_ret (v := .agg #[.int .u8 P.st, .int .u64 P.ma, .int .u64 P.nx, .slice q1 n1 d1, .int .i64 P.wi, .int .i64 P.fl, .int .i64 P.ak, .int .u64 P.sd, .int .u64 P.lr, .bool P.ro, .slice q2 n2 d2, .int .u64 P.rh, .int .u64 P.hf, .int .u64 P.hl, .int .u64 P.hz, .int .i64 P.tk, .int .u64 P.sn, .int .i64 P.ra, .bool P.av, .int .u64 P.rd, .int .u64 P.cm]) ?_ rfl ⟨q1, q2, d1, d2, rfl, ?_⟩
  · exact results_cell1 Try.results14 _ _ ⟨w.heap.size, 0, none⟩ _ rfl (result30 ht2 rfl)
  · exact below_setCells' (Nat.le_refl _) _ _ (((((Below.refl _ w).alloc (Nat.le_refl _) _).drew).trans (hb1.mono (by simp))).trans (hb2.mono (by have := hb1.size; simp at this; omega)))
end Go.Proofs.Qxb6603959a
