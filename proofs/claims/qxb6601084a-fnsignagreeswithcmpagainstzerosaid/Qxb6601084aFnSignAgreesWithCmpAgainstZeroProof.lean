/-
  A PROOF OF 'Rows.FnSignAgreesWithCmpAgainstZeroSaid' ('example.com/custodex/custodex/zzlaws_pkg_decimal_b1.FnSignAgreesWithCmpAgainstZero'), WRITTEN BY PROGRAM (proof-skeleton.mjs) off the guide's own print for that function.
  The walk is filled in.
-/
import Derived.Test.Qxb6601084aRows
import Derived.WalkKit
import Derived.ProofKit
import Derived.OpenShut
import Derived.ShutString
import Derived.Test.Qxb6601084aCmp
import Derived.Test.Qxb6601084aSign
namespace Go.Proofs.Qxb6601084a.fnSignAgreesWithCmpAgainstZero
open Go.ChangeShapes Go.WideShapes Go.ChangeAt Go.RowKit
open Go.ChangeMaps (open_string shut_string)
set_option linter.unusedVariables false      -- a walk need not use every 'w<i>' (that an integer argument fits its kind)

theorem own : ownKnob Try.prog.godebug = none := by kernel_rfl

/-! ### STEP 1: THE WALK: the Go text returns true. 'Grown w w'': the world has at most new blocks (Derived/RowKit3.lean). Part the cases AHEAD of 'go_enter' where a test parts the walk; take each callee by a contract of your own. -/
theorem walk (a0 : Int) (a1 : Int) (a2 : Int) (a3 : Bool) (w0 : (Lit.int .u64 a0).wf = true) (w1 : (Lit.int .u64 a1).wf = true) (w2 : (Lit.int .i32 a2).wf = true) (w : World) :
    Calls Try.prog 6 #[.int .u64 a0, .int .u64 a1, .int .i32 a2, .bool a3] w fun e w' => e = .returned (.bool true) ∧ Grown w w' := by
  -- one case a way: the comparison's and the sign's answers are known ahead of the walk
  have b0 := (bounds_u64 w0).1
  have b1 := (bounds_u64 w1).1
  have main : ∀ u v : Int, cmpI a0 a1 0 0 = u → signI a0 a1 a3 = v → (v == if a3 = true then -u else u) = true → (u = 0 ∨ u = 1) →
      Calls Try.prog 6 #[.int .u64 a0, .int .u64 a1, .int .i32 a2, .bool a3] w fun e w' => e = .returned (.bool true) ∧ Grown w w' := by
    intro u v hu hv he hu01
    have k1 := zzcmpV hu
    have k2 := zzsignV hv
    clear hu hv b0 b1 w0 w1 w2
    rcases hu01 with rfl | rfl
    all_goals
      cases a3
      all_goals
        simp at he
        subst he
        go_enter Try.func6, Try.ntmps6
        go_wp2_with fail
        refine (k1 _).mono ?_
        rintro e w' ⟨rfl, c1, c2, rfl⟩
        go_wp2_with fail
        refine (k2 _ _).mono ?_
        rintro e w' ⟨rfl, c1, c2, rfl⟩
        go_wp2
        go_ret
        exact ⟨rfl, by repeat (first | exact Grown.refl _ | apply Grown.drew | apply Grown.alloc)⟩
  by_cases g1 : a0 = 0
  · subst g1
    by_cases g2 : a1 = 0
    · subst g2
      exact main 0 0 cmpI_e (by simp [signI]) (by simp) (.inl rfl)
    · exact main 1 _ (cmpI_d (by omega)) rfl (by simp [signI, g2]) (.inr rfl)
  · exact main 1 _ (cmpI_b (by omega)) rfl (by simp [signI, g1]) (.inr rfl)

/-! ### THE ROW's STEP: WRITTEN OUT: LEAVE IT -/
set_option maxRecDepth 100000 in
theorem lifted (os : Os) (started : os.Started) (H : Type) (enc : TypeId × Value → H) :
    ReturnsInHanded {} Try.checked os 6 .any (Rows.fnSignAgreesWithCmpAgainstZeroSpec.pre6 enc Try.prog Try.f6 Rows.fnSignAgreesWithCmpAgainstZeroRow.domain false) (Rows.fnSignAgreesWithCmpAgainstZeroSpec.post enc Try.prog Try.f6 false true false false) := by
  refine returnsInHanded_of_change (C := Try.checked) own started (by kernel_rfl) Try.func6
    (ChangeSpec.witness6 (enc := enc) (C := Try.checked) false ⟨#[], #[.int .u64 0, .int .u64 0, .int .i32 0, .bool false], []⟩ 8 (by kernel_rfl) (by kernel_rfl) (by kernel_rfl) (by kernel_rfl)) ?_
  intro W base args ds gs before hval0 hW hcnd _
  have hval : ∀ (j : Nat) t v, Try.f6.params[j]? = some t → args[j]? = some v → Value.okWide Try.prog W .any base t v := hval0
  have hW' := hW
  obtain ⟨p, q, hA0, hV, rfl, hfz, hnd⟩ := hW
  have hA : DataW.TrodAll enc Try.prog W 0 (fun _ => true) true Try.f6.params.toList args.toList ds p := hA0
  rw [Try.params6] at hA hval
  obtain ⟨v0, vs0, d0, ds0, p0, q0, hargs, rfl, rfl, h0, r0⟩ := trodAll_cons hA
  obtain ⟨v1, vs1, d1, ds1, p1, q1, rfl, rfl, rfl, h1, r1⟩ := trodAll_cons r0
  obtain ⟨v2, vs2, d2, ds2, p2, q2, rfl, rfl, rfl, h2, r2⟩ := trodAll_cons r1
  obtain ⟨v3, vs3, d3, ds3, p3, q3, rfl, rfl, rfl, h3, r3⟩ := trodAll_cons r2
  obtain ⟨rfl, rfl, rfl⟩ := trodAll_nil r3
  obtain rfl : args = #[v0, v1, v2, v3] := by cases args; simp_all
  obtain ⟨rfl, rfl⟩ := trodVars_none hV
  obtain ⟨a0, rfl, rfl, rfl, w0⟩ := open_int Try.underlying22 (hval 0 22 v0 rfl rfl) h0
  obtain ⟨a1, rfl, rfl, rfl, w1⟩ := open_int Try.underlying22 (hval 1 22 v1 rfl rfl) h1
  obtain ⟨a2, rfl, rfl, rfl, w2⟩ := open_int Try.underlying21 (hval 2 21 v2 rfl rfl) h2
  obtain ⟨a3, rfl, rfl, rfl⟩ := open_bool Try.underlying4 (hval 3 4 v3 rfl rfl) h3
  clear hA0 hval0
  simp only [List.append_nil] at hW'
  refine (walk a0 a1 a2 a3 w0 w1 w2 W).mono fun e W' ⟨he, hg⟩ => ?_
  subst he
  exact ⟨_, rfl, post_of_same (pa := []) (pv := []) hW' (fun _ _ _ => (trodAll_cons_mk (shut_bool Try.underlying4 _) trodAll_mk0)) (fun sp _ => (trodAll_cons_mk (shut_int Try.underlying22 w0) (trodAll_cons_mk (shut_int Try.underlying22 w1) (trodAll_cons_mk (shut_int Try.underlying21 w2) (trodAll_cons_mk (shut_bool Try.underlying4 _) trodAll_mk0))))) (fun _ _ => rfl) rfl
    (hg.frame _) hg.2.1 (ok_one (by kernel_rfl) rfl (okWide_bool_mk Try.underlying4 _))⟩

theorem over : Rows.fnSignAgreesWithCmpAgainstZeroRow.holds Try.pinned (OpenSpec.ofChange Rows.fnSignAgreesWithCmpAgainstZeroSpec) :=
  OpenClaim.holds_of_wide 6 Try.f6 rfl rfl rfl rfl rfl rfl rfl ⟨rfl, rfl, rfl, rfl, rfl⟩ rfl rfl rfl rfl rfl (by kernel_rfl) Try.func6 (by kernel_rfl)
    (of_decide_eq_true (by kernel_rfl)) (by unfold Func.isWrapper; first | (rw [if_pos (by decide +kernel)]; kernel_rfl) | (rw [if_neg (by decide +kernel)]; exact ⟨rfl, rfl⟩))
    (fun os started H enc _ => lifted os started H enc)

/-- ████ THE STATEMENT ████ -/
theorem proved : Rows.FnSignAgreesWithCmpAgainstZeroSaid :=
  over
#print axioms proved
end Go.Proofs.Qxb6601084a.fnSignAgreesWithCmpAgainstZero
