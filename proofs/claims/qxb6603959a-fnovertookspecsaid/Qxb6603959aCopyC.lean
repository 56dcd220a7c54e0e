/- zzSentIn once more: with the new slice's room told. -/
import Derived.Test.Qxb6603959aCopy15
namespace Go.Proofs.Qxb6603959a
open Go.RowKit

theorem copy15c (o : Option Addr) (n c : Nat) (X : Nat → El) (w : World) (hn : n ≤ 16384) (hS : Src 0 w o n X) :
    Calls Try.prog 15 #[.slice o n c] w fun e w' => ∃ (o' : Option Addr) (c' : Nat), e = .returned (.slice o' n c') ∧ n ≤ c' ∧ Src w.heap.size w' o' n X ∧ Below w.heap.size w w' := by
  rcases hS with rfl | ⟨b, off, rfl, _, hb, hL⟩
  · cases o with
    | none =>
      refine (copy15_nil c w).mono ?_
      rintro e w' ⟨he, hw⟩
      subst hw
      exact ⟨none, 0, he, Nat.le_refl _, .inl rfl, Below.refl _ _⟩
    | some a =>
      refine (copy15_zero a c X w).mono ?_
      rintro e w' ⟨he, hF, hB⟩
      exact ⟨_, _, he, Nat.le_refl _, .inl rfl, hB⟩
  · refine (copy15_pos b off n c X w hb hn hL).mono ?_
    rintro e w' ⟨he, hF, hB⟩
    exact ⟨_, _, he, Nat.le_refl _, hF.src, hB⟩
end Go.Proofs.Qxb6603959a
