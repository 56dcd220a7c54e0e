/- A row of appends in flight: five numbers an element. What it means that such a row lies in memory. No walk. -/
import Derived.Test.Qxb6603959aRows
import Derived.WalkKit
import Derived.Deep.OwnRows
import Derived.Deep.Draws
import Derived.Laws.IdiomCopy
namespace Go.Proofs.Qxb6603959a
open Go.RowKit

/-- One append in flight. -/
structure El where
  a : Int
  b : Int
  c : Int
  d : Int
  e : Int

/-- The elements X lie in block b from offset 'off' on. -/
def Lies (w : World) (b off n : Nat) (X : Nat → El) : Prop := ∀ j, j < n →
  w.cell? ⟨b, off + j * 5, none⟩ = some (.int .u64 (X j).a) ∧ w.cell? ⟨b, off + j * 5 + 1, none⟩ = some (.int .u64 (X j).b) ∧
  w.cell? ⟨b, off + j * 5 + 2, none⟩ = some (.int .i64 (X j).c) ∧ w.cell? ⟨b, off + j * 5 + 3, none⟩ = some (.int .u64 (X j).d) ∧
  w.cell? ⟨b, off + j * 5 + 4, none⟩ = some (.int .i64 (X j).e)

theorem Lies.below {B : Nat} {w w' : World} {b off n : Nat} {X : Nat → El} (h : Lies w b off n X) (hb : Below B w w') (hB : b < B) : Lies w' b off n X := fun j hj => by
  obtain ⟨h0, h1, h2, h3, h4⟩ := h j hj
  exact ⟨(hb.cell hB).trans h0, (hb.cell hB).trans h1, (hb.cell hB).trans h2, (hb.cell hB).trans h3, (hb.cell hB).trans h4⟩

/-- The zero cells that 'make' lays: behind a name. -/
def zeros (n : Nat) : Array Value := madeCells #[.int .u64 0, .int .u64 0, .int .i64 0, .int .u64 0, .int .i64 0] (n * 5)

/-- Block B is a row of n elements of type T; the first k are X's. -/
def Filled (w : World) (B T n k : Nat) (X : Nat → El) : Prop := ∃ f : Nat → Value, w.rowIs B T (n * 5) f ∧ ∀ j, j < k →
  f (j * 5) = .int .u64 (X j).a ∧ f (j * 5 + 1) = .int .u64 (X j).b ∧ f (j * 5 + 2) = .int .i64 (X j).c ∧ f (j * 5 + 3) = .int .u64 (X j).d ∧ f (j * 5 + 4) = .int .i64 (X j).e

theorem Filled.start (w : World) (T n : Nat) (X : Nat → El) : Filled (w.alloc (.cells (zeros n) T)) w.heap.size T n 0 X := by
  refine ⟨fun i => (zeros n)[i]!, ?_, fun j hj => absurd hj (by omega)⟩
  have := World.rowIs_alloc w (zeros n) T (fun i => (zeros n)[i]!) (fun i hi => by simp [hi])
  rwa [show (zeros n).size = n * 5 from size_madeCells _ _] at this

theorem Filled.step {w : World} {B T n k : Nat} {X : Nat → El} (h : Filled w B T n k X) :
    Filled (((((w.setCell ⟨B, k * 5, none⟩ (.int .u64 (X k).a)).setCell ⟨B, k * 5 + 1, none⟩ (.int .u64 (X k).b)).setCell ⟨B, k * 5 + 2, none⟩ (.int .i64 (X k).c)).setCell ⟨B, k * 5 + 3, none⟩ (.int .u64 (X k).d)).setCell ⟨B, k * 5 + 4, none⟩ (.int .i64 (X k).e)) B T n (k + 1) X := by
  obtain ⟨f, hf, hX⟩ := h
  refine ⟨_, ((((hf.set _ _).set _ _).set _ _).set _ _).set _ _, fun j hj => ?_⟩
  by_cases e : j = k
  · subst e
    simp
  · obtain ⟨h0, h1, h2, h3, h4⟩ := hX j (by omega)
    refine ⟨?_, ?_, ?_, ?_, ?_⟩
    · repeat rw [if_neg (by omega)]
      exact h0
    · repeat rw [if_neg (by omega)]
      exact h1
    · repeat rw [if_neg (by omega)]
      exact h2
    · repeat rw [if_neg (by omega)]
      exact h3
    · repeat rw [if_neg (by omega)]
      exact h4

theorem Filled.lies {w : World} {B T n : Nat} {X : Nat → El} (h : Filled w B T n n X) : Lies w B 0 n X := fun j hj => by
  obtain ⟨f, hf, hX⟩ := h
  obtain ⟨h0, h1, h2, h3, h4⟩ := hX j hj
  simp only [Nat.zero_add]
  rw [← h0, ← h1, ← h2, ← h3, ← h4]
  exact ⟨hf.cell (by omega), hf.cell (by omega), hf.cell (by omega), hf.cell (by omega), hf.cell (by omega)⟩

theorem Filled.there {w : World} {B T n k : Nat} {X : Nat → El} (h : Filled w B T n k X) (i : Nat) (hi : i < n * 5) : ∃ v, w.cell? ⟨B, i, none⟩ = some v := by
  obtain ⟨f, hf, _⟩ := h; exact ⟨_, hf.cell hi⟩
theorem Filled.free {w : World} {B T n k : Nat} {X : Nat → El} (h : Filled w B T n k X) (i : Nat) : w.frozen? ⟨B, i, none⟩ = false := by
  obtain ⟨f, hf, _⟩ := h; exact hf.frozen i
theorem Filled.drewN {w : World} {B T n k : Nat} {X : Nat → El} (h : Filled w B T n k X) (q : Nat) : Filled (w.drewN q) B T n k X := h
theorem Filled.lt {w : World} {B T n k : Nat} {X : Nat → El} (h : Filled w B T n k X) : B < w.heap.size := by
  obtain ⟨f, hf, _⟩ := h; exact hf.lt

/-- What is behind a slice's value: nothing, or the elements X, in a block whose number is at least B. -/
def Src (B : Nat) (w : World) (o : Option Addr) (n : Nat) (X : Nat → El) : Prop := n = 0 ∨ ∃ b off, o = some ⟨b, off, none⟩ ∧ B ≤ b ∧ b < w.heap.size ∧ Lies w b off n X

theorem Src.mono {B B' : Nat} {w : World} {o : Option Addr} {n : Nat} {X : Nat → El} (h : Src B w o n X) (hB : B' ≤ B) : Src B' w o n X := by
  rcases h with h | ⟨b, off, e, h1, hlt, hL⟩
  · exact .inl h
  · exact .inr ⟨b, off, e, Nat.le_trans hB h1, hlt, hL⟩

theorem Src.below {B : Nat} {w w' : World} {o : Option Addr} {n : Nat} {X : Nat → El} (h : Src B w o n X) (hb : Below w.heap.size w w') : Src B w' o n X := by
  rcases h with h | ⟨b, off, e, h1, hlt, hL⟩
  · exact .inl h
  · exact .inr ⟨b, off, e, h1, Nat.lt_of_lt_of_le hlt hb.size, hL.below hb hlt⟩

/-- A store into a block below B leaves it. -/
theorem Src.setCell {B : Nat} {w : World} {o : Option Addr} {n : Nat} {X : Nat → El} (h : Src B w o n X) {p : Addr} (hp : p.block < B) (v : Value) : Src B (w.setCell p v) o n X := by
  rcases h with h | ⟨b, off, e, h1, hlt, hL⟩
  · exact .inl h
  · refine .inr ⟨b, off, e, h1, by simpa using hlt, fun j hj => ?_⟩
    have hk : ∀ q, (w.setCell p v).cell? ⟨b, q, none⟩ = w.cell? ⟨b, q, none⟩ := fun q => World.cell?_of_block (w := w) (Below.heap_setCell w p v b (by omega))
    obtain ⟨h0, h1, h2, h3, h4⟩ := hL j hj
    exact ⟨(hk _).trans h0, (hk _).trans h1, (hk _).trans h2, (hk _).trans h3, (hk _).trans h4⟩
theorem Src.setCells {B b : Nat} {o : Option Addr} {n : Nat} {X : Nat → El} (hp : b < B) : ∀ (vs : List Value) (q : Nat) {w : World}, Src B w o n X → Src B (w.setCells b q vs) o n X
  | [], _, _, h => h
  | v :: vs, q, _, h => Src.setCells hp vs (q + 1) (h.setCell (p := ⟨b, q, none⟩) hp v)

/-- A new row of elements is such a source. -/
theorem Filled.src {w : World} {B T n : Nat} {X : Nat → El} (h : Filled w B T n n X) : Src B w (some ⟨B, 0, none⟩) n X := .inr ⟨B, 0, rfl, Nat.le_refl _, h.lt, h.lies⟩
end Go.Proofs.Qxb6603959a
