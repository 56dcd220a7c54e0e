/- The sign of a figure: 'ZZSign' with '(*Decimal).Sign' and '(coeff).isZero' inside, by one contract. -/
import Derived.Test.Qxb6601084aRows
import Derived.WalkKit
import Derived.RowKit3
import Derived.Laws.Pointers
namespace Go.Proofs.Qxb6601084a
open Go.RowKit

/-- What Sign answers: plain numbers. -/
def signI (hi lo : Int) (neg : Bool) : Int := if hi = 0 ∧ lo = 0 then 0 else if neg then -1 else 1

theorem zzsign (hi lo ex : Int) (neg : Bool) (w : World) :
    Calls Try.prog 13 #[.int .u64 hi, .int .u64 lo, .int .i32 ex, .bool neg] w fun e w' =>
      e = .returned (.int .i64 (signI hi lo neg)) ∧ ∃ c1 c2 : Array Value, w' = (w.alloc (.cells c1 40)).alloc (.cells c2 35) := by
  by_cases g1 : hi = 0
  · subst g1
    by_cases g2 : lo = 0
    · subst g2
      rw [show signI 0 0 neg = 0 from by simp [signI]]
      go_enter Try.func13, Try.ntmps13
      go_wp2
      go_ret
      exact ⟨rfl, _, _, rfl⟩
    · have h : (lo == 0) = false := by simpa using g2
      cases neg
      · rw [show signI 0 lo false = 1 from by simp [signI, g2]]
        go_enter Try.func13, Try.ntmps13
        go_wp2
        go_ret
        exact ⟨rfl, _, _, rfl⟩
      · rw [show signI 0 lo true = -1 from by simp [signI, g2]]
        go_enter Try.func13, Try.ntmps13
        go_wp2
        go_ret
        exact ⟨rfl, _, _, rfl⟩
  · have h : (hi == 0) = false := by simpa using g1
    cases neg
    · rw [show signI hi lo false = 1 from by simp [signI, g1]]
      go_enter Try.func13, Try.ntmps13
      go_wp2
      go_ret
      exact ⟨rfl, _, _, rfl⟩
    · rw [show signI hi lo true = -1 from by simp [signI, g1]]
      go_enter Try.func13, Try.ntmps13
      go_wp2
      go_ret
      exact ⟨rfl, _, _, rfl⟩

/-- The same at a known answer. -/
theorem zzsignV {hi lo : Int} {neg : Bool} {v : Int} (hv : signI hi lo neg = v) (ex : Int) (w : World) :
    Calls Try.prog 13 #[.int .u64 hi, .int .u64 lo, .int .i32 ex, .bool neg] w fun e w' =>
      e = .returned (.int .i64 v) ∧ ∃ c1 c2 : Array Value, w' = (w.alloc (.cells c1 40)).alloc (.cells c2 35) := by
  have h := zzsign hi lo ex neg w
  rwa [hv] at h
end Go.Proofs.Qxb6601084a
