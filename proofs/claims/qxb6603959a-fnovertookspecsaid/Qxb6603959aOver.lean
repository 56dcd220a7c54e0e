/- overtook: the way through the loop. -/
import Derived.Test.Qxb6603959aBack
import Derived.Test.Qxb6603959aRec
import Derived.Deep.QuietTactic
import Derived.BigQuiet
import Derived.Laws.Pointers
namespace Go.Proofs.Qxb6603959a
open Go.RowKit Go.Shelf
attribute [local go_sem] Oper.semAt_some

/-- slices.Backward itself: the slice is boxed, the closure captures the box. -/
theorem backward (a : Option Addr) (len cap : Nat) (w : World) :
    Calls Try.prog 16 #[.slice a len cap] w fun e w' => e = .returned (.func (.func 19) #[] #[.pointer (some ⟨w.heap.size, 0, none⟩)]) ∧ w' = w.alloc (.cells #[.slice a len cap] 43) := by
  go_enter Try.func16, Try.ntmps16
  go_wp2
  go_ret
  exact ⟨rfl, rfl⟩

/-- The closure's contract, as the law on a range over a function asks it. -/
theorem backward_stops (F : Fence) (n : Nat) (h19 : F.fn 19) (hro : F.round = none) (hn : 1 ≤ n) (Bs n₀ b off len cap : Nat) (X : Nat → El) (hreach : len ≤ 16384) (w : World) (hn₀ : n₀ ≤ w.heap.size) (hBn : Bs < n₀) (hb : b < n₀)
    (hc : w.cell? ⟨Bs, 0, none⟩ = some (.slice (some ⟨b, off, none⟩) len cap)) (hL : Lies w b off len X) :
    SeqStopsK F n Try.prog 19 #[.pointer (some ⟨Bs, 0, none⟩)] (fun x : Nat × El => #[.int .i64 (x.1 : Int), .agg #[.int .u64 x.2.a, .int .u64 x.2.b, .int .i64 x.2.c, .int .u64 x.2.d, .int .i64 x.2.e]]) (Below n₀) (fun ys => ys = upto (backAt X len) len)
      (fun pre => ∃ k, k ≤ len ∧ pre = upto (backAt X len) k) len w := fun l J Jx W hW _ _ hY h0 =>
  backward1_in F n h19 hro hn l Bs n₀ b off len cap X hreach hb J Jx hY W ((hW.cell (p := ⟨Bs, 0, none⟩) (Nat.lt_of_lt_of_le hBn hn₀)).trans hc) hBn (hL.below hW (Nat.lt_of_lt_of_le hb hn₀)) h0

/-- The world in which the loop begins. -/
theorem over_start (w : World) (i : Int) (v : Value) (nq : Nat) :
    ∃ W0, (((w.alloc (.cells #[.bool false] 4)).alloc (.cells #[.int .u64 i] 22)).drewN nq).alloc (.cells #[v] 43) = W0 ∧ Boxed W0 w.heap.size 4 (.bool false) ∧ Boxed W0 (w.heap.size + 1) 22 (.int .u64 i) ∧ Boxed W0 (w.heap.size + 1 + 1) 43 v ∧
      Below w.heap.size w W0 ∧ W0.heap.size = w.heap.size + 1 + 1 + 1 := by
  refine ⟨_, rfl, ?_, ?_, ?_, ?_, by simp⟩
  · exact (((Boxed.new w 4 (.bool false)).alloc (.cells #[.int .u64 i] 22)).alloc (.cells #[v] 43) :)
  · have h := (Boxed.new (w.alloc (.cells #[.bool false] 4)) 22 (.int .u64 i)).alloc (.cells #[v] 43)
    rw [World.size_alloc] at h
    exact h
  · have h := Boxed.new (((w.alloc (.cells #[.bool false] 4)).alloc (.cells #[.int .u64 i] 22)).drewN nq) 43 v
    rwa [show (((w.alloc (.cells #[.bool false] 4)).alloc (.cells #[.int .u64 i] 22)).drewN nq).heap.size = w.heap.size + 1 + 1 from by simp] at h
  · have h := (((Below.refl _ w).alloc (Nat.le_refl _) (.cells #[.bool false] 4)).alloc (by simp) (.cells #[.int .u64 i] 22))
    exact (Below.alloc (a := w) (w := ((w.alloc (.cells #[.bool false] 4)).alloc (.cells #[.int .u64 i] 22)).drewN nq) ⟨h.os, h.tape, h.output, h.size, h.block⟩ (by simp; omega) _)

theorem any_back_false {X : Nat → El} {i : Int} {k : Nat} (h : ∀ p ∈ upto (backAt X k) k, p.2.b < i) : ((List.range k).any fun j => decide (i ≤ (X j).b)) = false := by
  rw [List.any_eq_false]
  intro j hj
  rw [List.mem_range] at hj
  have hm : (j, X j) ∈ upto (backAt X k) k := by
    simp only [upto, List.mem_map, List.mem_range]
    exact ⟨k - (j + 1), by omega, backAt_eq X hj⟩
  have hlt : (X j).b < i := h _ hm
  simp only [decide_eq_true_eq]
  omega
theorem any_back_true {X : Nat → El} {i : Int} {k m : Nat} (hm : m ≤ k) (h : ∃ p ∈ upto (backAt X k) m, i ≤ p.2.b) : ((List.range k).any fun j => decide (i ≤ (X j).b)) = true := by
  rw [List.any_eq_true]
  obtain ⟨p, hp, hi⟩ := h
  simp only [upto, List.mem_map, List.mem_range] at hp
  obtain ⟨j, hj, rfl⟩ := hp
  exact ⟨k - 1 - j, by rw [List.mem_range]; omega, decide_eq_true hi⟩

set_option maxRecDepth 100000 in
set_option maxHeartbeats 4000000 in
theorem over_loop (ma nx : Int) (b off n1 c1 g k : Nat) (X : Nat → El) (w : World) (hg : g < w.heap.size) (hb : b < w.heap.size) (hn : n1 ≤ 16384) (hc : n1 ≤ c1) (hL : Lies w b off n1 X) (hk : k < n1)
    (g1 : w.cell? ⟨g, 1, none⟩ = some (.int .u64 ma)) (g2 : w.cell? ⟨g, 2, none⟩ = some (.int .u64 nx)) (g3 : w.cell? ⟨g, 3, none⟩ = some (.slice (some ⟨b, off, none⟩) n1 c1))
    (hm : ma < (X k).a) (hx : (X k).a < nx) :
    Calls Try.prog 11 #[.pointer (some ⟨g, 0, none⟩), .int .i64 k] w fun e w' => e = .returned (.bool ((List.range k).any fun j => decide ((X k).a ≤ (X j).b))) ∧ Below w.heap.size w w' := by
  obtain ⟨i, hi⟩ : ∃ i, i = (X k).a := ⟨_, rfl⟩
  rw [← hi] at hm hx ⊢
  obtain ⟨e0, _⟩ := hL k hk
  rw [← hi] at e0
  clear hi
  have hk0 : (0 : Int) ≤ (k : Int) := by omega
  have hk1 : (k : Int) < (n1 : Int) := by omega
  have hk2 : (k : Int) ≤ (c1 : Int) := by omega
  have hd : decide (i ≤ ma) = false := by simp; omega
  have hd2 : decide (nx ≤ i) = false := by simp; omega
  refine (callsIn_wide (n := 3)).1 ?_
  refine callsIn_of_wp_marks Try.func11 rfl trivial ?_ rfl
  rw [wpIn_wide]
  simp only [Try.ntmps11, List.size_toArray, List.length_cons, List.length_nil, Nat.reduceAdd, Nat.reduceSub, Array.replicate_succ, Array.replicate_zero, List.push_toArray, List.append_toArray, List.nil_append, List.cons_append]
  go_wp2
  go_quiet (fail)
  go_wp2_with (go_at_call 16; refine (backward _ _ _ _).mono ?_; rintro e w' ⟨rfl, hw⟩; subst hw)
  obtain ⟨W0, hW0, bR, bI, bN, hB0, hsz⟩ := over_start w i (.slice (some ⟨b, off, none⟩) k c1) nq
  rw [hW0, ← wpIn_wide (n := 3)]
  clear hd hd2 e0 g1 g2 g3 hm hx hW0
  refine wpIn_rangeFunc_ownH (w := W0) rfl (by decide) (gf := 19) (lb := #[.pointer (some ⟨w.heap.size + 1 + 1, 0, none⟩)]) rfl trivial (enters_of Try.func19 (by kernel_rfl) rfl)
    (backward_stops Fence.wide (3 - 1) trivial rfl (by decide) (w.heap.size + 1 + 1) W0.heap.size b off k c1 X (by omega) W0 (Nat.le_refl _) (by omega) (by omega) bN.cell (fun j hj => (hL.below hB0 hb) j (by omega))) belowK_t (belowK_b (Nat.le_refl _)) (Below.refl _ _) (fun _ => rfl)
    (fun pre W => ((∀ p ∈ pre, p.2.b < i) ∧ Boxed W w.heap.size 4 (.bool false) ∧ Boxed W (w.heap.size + 1) 22 (.int .u64 i)) ∧ Below W0.heap.size W0 W)
    (fun c pre W => (c = .ret ∧ (∃ p ∈ pre, i ≤ p.2.b) ∧ Boxed W w.heap.size 4 (.bool true)) ∧ Below w.heap.size w W)
    (OwnFrom.and (OwnFrom.and (ownFrom_pure _ _) (OwnFrom.and (Own.from (boxed_own _ _ _) _) (Own.from (boxed_own _ _ _) _))) (ownFrom_below (Nat.le_refl _) (Nat.le_refl _)))
    (fun c => OwnFrom.and (OwnFrom.and (ownFrom_pure _ _) (OwnFrom.and (ownFrom_pure _ _) (Own.from (boxed_own _ _ _) _))) (ownFrom_below (Nat.le_refl _) (by omega)))
    ⟨⟨by simp, bR, bI⟩, Below.refl _ _⟩
    (fun x a' W => ∃ Bx, W.cell? ⟨Bx, 1, none⟩ = some (.int .u64 x.2.b) ∧ a' = { tmps := #[.pointer (some ⟨g, 0, none⟩), .int .i64 k, undef, undef, .pointer (some ⟨w.heap.size, 0, none⟩), .pointer (some ⟨w.heap.size + 1, 0, none⟩), undef, .pointer (some ⟨Bx, 0, none⟩), .pointer (some ⟨g, 0, none⟩), .pointer (some ⟨g, 0, none⟩), .pointer (some ⟨g, 3, none⟩), .slice (some ⟨b, off, none⟩) n1 c1, .int .i64 k, .pointer (some ⟨b, off + k * 5, none⟩), .pointer (some ⟨b, off + k * 5, none⟩), .int .u64 i, .int .u64 i, .pointer (some ⟨g, 0, none⟩), .pointer (some ⟨g, 0, none⟩), .pointer (some ⟨g, 1, none⟩), .int .u64 ma, .bool false, .bool false, .int .u64 i, .pointer (some ⟨g, 0, none⟩), .pointer (some ⟨g, 0, none⟩), .pointer (some ⟨g, 2, none⟩), .int .u64 nx, .bool false, .bool false, .pointer (some ⟨g, 0, none⟩), .pointer (some ⟨g, 0, none⟩), .pointer (some ⟨g, 3, none⟩), .slice (some ⟨b, off, none⟩) n1 c1, .int .i64 k, .slice (some ⟨b, off, none⟩) k c1, .func (.func 19) #[] #[.pointer (some ⟨w.heap.size + 1 + 1, 0, none⟩)], .int .i64 (x.1 : Int), .agg #[.int .u64 x.2.a, .int .u64 x.2.b, .int .i64 x.2.c, .int .u64 x.2.d, .int .i64 x.2.e], undef, undef, undef, undef], defers := [] })
    (fun x a' _ A B row hs hg hr => by obtain ⟨Bx, h1, h2⟩ := hs; exact ⟨Bx, cell_kept h1 hg (fun r e => (hr r e).2), h2⟩)
    ?assign ?body ?done ?stop
  case assign =>
    rintro l pre x W K ⟨⟨hp, bR1, bI1⟩, hB1⟩ hK
    gi_wp2
    refine hK _ _ ((KeepsOthers.alloc _ _).from _) ((Below.refl _ W).alloc hB1.size _) ⟨⟨hp, bR1.alloc _, bI1.alloc _⟩, hB1.alloc hB1.size _⟩ ⟨W.heap.size, ?_, rfl⟩
    simp
  case body =>
    rintro l pre x a' W hl ⟨r, hr⟩ ⟨⟨hp, bR1, bI1⟩, hB1⟩ ⟨Bx, cX, rfl⟩ hlt
    have cI := bI1.cell
    have cR := bR1.cell
    have fR := bR1.frozen
    gi_wp2
    · have hx : i ≤ x.2.b := by assumption
      exact ⟨(KeepsOthers.setCell _ _ _).from _, ⟨rfl, ⟨x, by simp, hx⟩, bR1.set _⟩, (hB0.trans (hB1.mono (by omega))).setCell (p := ⟨w.heap.size, 0, none⟩) (Nat.le_refl _) _⟩
    · have hx : x.2.b < i := by assumption
      exact ⟨KeepsFrom.refl _ _, Below.refl _ _, ⟨⟨fun p hp' => (List.mem_append.1 hp').elim (hp p) (fun e => by simp at e; subst e; exact hx), bR1, bI1⟩, hB1⟩⟩
  case done =>
    rintro D ys W hD rfl ⟨⟨hne, bR1, bI1⟩, hB1⟩ hK
    have cR := bR1.cell
    have fR := bR1.frozen
    go_wp2
    have hK' := (KeepsOthers.setCell W ⟨w.heap.size, 0, none⟩ (.bool false)).same D _ hK rfl
    refine ⟨by simp, .inl ⟨_, _, rfl, run_takeDeferred hK', ?_⟩⟩
    have hc5 := cell_kept (World.cell?_setCell_same' W ⟨w.heap.size, 0, none⟩ (.bool false) (by rw [cR]; rfl)) (grownBy_putObj' _ D (.deferred none)) (fun r e => by cases e; exact ⟨_, hK', rfl⟩)
    refine ⟨.bool false, ?_, by rw [any_back_false hne], ((hB0.trans (hB1.mono (by omega))).setCell (p := ⟨w.heap.size, 0, none⟩) (Nat.le_refl _) _).trans (belowK_b (w := w) (Nat.le_refl _) _ D _ _ (by omega) hK' rfl rfl)⟩
    simp [results, Try.results11, go_sem, hc5]
  case stop =>
    rintro D c pre W hD ⟨m, hm, rfl⟩ ⟨⟨rfl, hin, bR1⟩, hB1⟩ hK
    gi_wp2
    refine ⟨by simp, .inl ⟨_, _, rfl, run_takeDeferred hK, ?_⟩⟩
    have hc5 := cell_kept bR1.cell (grownBy_putObj' _ D (.deferred none)) (fun r e => by cases e; exact ⟨_, hK, rfl⟩)
    refine ⟨.bool true, ?_, by rw [any_back_true hm hin], hB1.trans (belowK_b (w := w) (Nat.le_refl _) W D _ _ (by omega) hK rfl rfl)⟩
    simp [results, Try.results11, go_sem, hc5]
end Go.Proofs.Qxb6603959a
