/- The comparison of two coefficients: 'ZZCoeffCmp' with '(coeff).cmp' inside, by one contract. -/
import Derived.Test.Qxb6601084aRows
import Derived.WalkKit
import Derived.RowKit3
namespace Go.Proofs.Qxb6601084a
open Go.RowKit

/-- What the comparison answers: plain numbers. -/
def cmpI (ch cl xh xl : Int) : Int := if ch < xh then -1 else if xh < ch then 1 else if cl < xl then -1 else if xl < cl then 1 else 0

theorem cmpI_a {ch cl xh xl : Int} (h : ch < xh) : cmpI ch cl xh xl = -1 := by unfold cmpI; simp [h]
theorem cmpI_b {ch cl xh xl : Int} (h : xh < ch) : cmpI ch cl xh xl = 1 := by unfold cmpI; rw [if_neg (by omega), if_pos h]
theorem cmpI_c {ch cl xl : Int} (h : cl < xl) : cmpI ch cl ch xl = -1 := by unfold cmpI; simp [h]
theorem cmpI_d {ch cl xl : Int} (h : xl < cl) : cmpI ch cl ch xl = 1 := by unfold cmpI; simp [h]; omega
theorem cmpI_e {ch cl : Int} : cmpI ch cl ch cl = 0 := by unfold cmpI; simp

theorem zzcmp (ch cl xh xl : Int) (w : World) :
    Calls Try.prog 11 #[.int .u64 ch, .int .u64 cl, .int .u64 xh, .int .u64 xl] w fun e w' =>
      e = .returned (.int .i64 (cmpI ch cl xh xl)) ∧ ∃ c1 c2 : Array Value, w' = (w.alloc (.cells c1 35)).alloc (.cells c2 35) := by
  by_cases g1 : ch < xh
  · rw [cmpI_a g1]
    have h : (ch != xh) = true := by simp; omega
    go_enter Try.func11, Try.ntmps11
    go_wp2
    go_ret
    exact ⟨rfl, _, _, rfl⟩
  by_cases g2 : xh < ch
  · rw [cmpI_b g2]
    have h : (ch != xh) = true := by simp; omega
    go_enter Try.func11, Try.ntmps11
    go_wp2
    go_ret
    exact ⟨rfl, _, _, rfl⟩
  obtain rfl : ch = xh := by omega
  by_cases g3 : cl < xl
  · rw [cmpI_c g3]
    have h : (cl != xl) = true := by simp; omega
    go_enter Try.func11, Try.ntmps11
    go_wp2
    go_ret
    exact ⟨rfl, _, _, rfl⟩
  by_cases g4 : xl < cl
  · rw [cmpI_d g4]
    have h : (cl != xl) = true := by simp; omega
    go_enter Try.func11, Try.ntmps11
    go_wp2
    go_ret
    exact ⟨rfl, _, _, rfl⟩
  obtain rfl : cl = xl := by omega
  rw [cmpI_e]
  go_enter Try.func11, Try.ntmps11
  go_wp2
  go_ret
  exact ⟨rfl, _, _, rfl⟩

/-- The same at a known answer. -/
theorem zzcmpV {ch cl xh xl v : Int} (hv : cmpI ch cl xh xl = v) (w : World) :
    Calls Try.prog 11 #[.int .u64 ch, .int .u64 cl, .int .u64 xh, .int .u64 xl] w fun e w' =>
      e = .returned (.int .i64 v) ∧ ∃ c1 c2 : Array Value, w' = (w.alloc (.cells c1 35)).alloc (.cells c2 35) := by
  have h := zzcmp ch cl xh xl w
  rwa [hv] at h
end Go.Proofs.Qxb6601084a
