/- A proof of 'Rows.FnSnapshotReportedPastMatchSaid'. The frame of the row's step is the guide's (proof-skeleton.mjs, a law over slices), with a record by value in the slice's place. -/
import Derived.Test.Qxb6603959aLaw4
import Derived.Test.Qxb6603959aOpen
import Derived.ProofKit
import Derived.OpenShut
import Derived.ShutString
import Derived.ChangeOld
import Derived.Below
namespace Go.Proofs.Qxb6603959a.fnSnapshotReportedPastMatch
open Go.ChangeShapes Go.WideShapes Go.ChangeAt Go.RowKit
set_option linter.unusedVariables false

theorem own : ownKnob Try.prog.godebug = none := by kernel_rfl
theorem laidOut : laidOutB Try.prog = true := by kernel_rfl

/-- The walk: every way put together. -/
theorem walk (P : Prg) (o1 o2 : Option Addr) (n1 c1 n2 c2 : Nat) (X1 X2 : Nat → El) (failed : Bool) (ra : Int) (w : World) (hl1 : n1 ≤ maxLen) (hl2 : n2 ≤ maxLen) (hS1 : Src 0 w o1 n1 X1) (hS2 : Src 0 w o2 n2 X2)
    (wma : (Lit.int .u64 P.ma).wf = true) (wsn : (Lit.int .u64 P.sn).wf = true) :
    Calls Try.prog 4 #[.agg #[.int .u8 P.st, .int .u64 P.ma, .int .u64 P.nx, .slice o1 n1 c1, .int .i64 P.wi, .int .i64 P.fl, .int .i64 P.ak, .int .u64 P.sd, .int .u64 P.lr, .bool P.ro, .slice o2 n2 c2, .int .u64 P.rh, .int .u64 P.hf, .int .u64 P.hl, .int .u64 P.hz, .int .i64 P.tk, .int .u64 P.sn, .int .i64 P.ra, .bool P.av, .int .u64 P.rd, .int .u64 P.cm], .bool failed, .int .i64 ra] w fun e w' => e = .returned (.bool true) ∧ Below w.heap.size w w' := by
  by_cases a : 1048576 < n1 + n2
  · exact law4_long P o1 o2 n1 c1 n2 c2 failed ra w a hl1 hl2
  by_cases b : 16384 < n1 + n2
  · exact law4_many P o1 o2 n1 c1 n2 c2 failed ra w (by omega) b
  by_cases c : P.st = 2
  · rw [c]
    obtain ⟨m0, m1⟩ := bounds_u64 wma
    obtain ⟨s0, s1⟩ := bounds_u64 wsn
    by_cases d : P.ma = 18446744073709551615
    · exact law4_max P o1 o2 n1 c1 n2 c2 failed ra w (by omega) (by simpa using d)
    by_cases e : P.sn = 18446744073709551615
    · exact law4_max2 P o1 o2 n1 c1 n2 c2 failed ra w (by omega) (by simpa using d) (by simpa using e)
    have m2 : P.ma ≤ 18446744073709551614 := by omega
    have s2 : P.sn ≤ 18446744073709551614 := by omega
    by_cases f : P.ma < P.sn
    · cases failed
      · exact law4_done_above P o1 o2 n1 c1 n2 c2 X1 X2 ra w hS1 hS2 (by omega) m0 m2 s0 s2 f
      · exact law4_failed_above P o1 o2 n1 c1 n2 c2 X1 X2 ra w hS1 hS2 (by omega) m0 m2 s0 s2 f
    · cases failed
      · exact law4_done_not P o1 o2 n1 c1 n2 c2 X1 X2 ra w hS1 hS2 (by omega) m0 m2 s0 s2 (by omega)
      · exact law4_failed_not P o1 o2 n1 c1 n2 c2 X1 X2 ra w hS1 hS2 (by omega) m0 m2 s0 s2 (by omega)
  · exact law4_state P o1 o2 n1 c1 n2 c2 failed ra w (by omega) (by simpa using c)

/-! ### The row's step -/
set_option maxRecDepth 100000 in
theorem lifted (os : Os) (started : os.Started) (H : Type) (enc : TypeId × Value → H) :
    ReturnsInHanded {} Try.checked os 4 .any (Rows.fnSnapshotReportedPastMatchSpec.pre6 enc Try.prog Try.f4 Rows.fnSnapshotReportedPastMatchRow.domain false) (Rows.fnSnapshotReportedPastMatchSpec.post enc Try.prog Try.f4 false true false false) := by
  refine returnsInHanded_of_change (C := Try.checked) own started (by kernel_rfl) Try.func4
    (ChangeSpec.witness6 (enc := enc) (C := Try.checked) false ⟨#[], #[.agg #[.int .u8 0, .int .u64 0, .int .u64 0, .slice none 0 0, .int .i64 0, .int .i64 0, .int .i64 0, .int .u64 0, .int .u64 0, .bool false, .slice none 0 0, .int .u64 0, .int .u64 0, .int .u64 0, .int .u64 0, .int .i64 0, .int .u64 0, .int .i64 0, .bool false, .int .u64 0, .int .u64 0], .bool false, .int .i64 0], []⟩ 8 (by kernel_rfl) (by kernel_rfl) (by kernel_rfl) (by kernel_rfl)) ?_
  intro W base args ds gs before hval0 hW hcnd _
  have hval : ∀ (j : Nat) t v, Try.f4.params[j]? = some t → args[j]? = some v → Value.okWide Try.prog W .any base t v := hval0
  have hW' := hW
  obtain ⟨p, q, hA0, hV, rfl, hfz, hnd⟩ := hW
  have hA : DataW.TrodAll enc Try.prog W 0 (fun _ => true) true Try.f4.params.toList args.toList ds p := hA0
  rw [Try.params4] at hA hval
  obtain ⟨v0, vs0, d0, ds0, p0, q0, hargs, rfl, rfl, h0, r0⟩ := trodAll_cons hA
  obtain ⟨v1, vs1, d1, ds1, p1, q1, rfl, rfl, rfl, h1, r1⟩ := trodAll_cons r0
  obtain ⟨v2, vs2, d2, ds2, p2, q2, rfl, rfl, rfl, h2, r2⟩ := trodAll_cons r1
  obtain ⟨rfl, rfl, rfl⟩ := trodAll_nil r2
  obtain rfl : args = #[v0, v1, v2] := by cases args; simp_all
  obtain ⟨rfl, rfl⟩ := trodVars_none hV
  have k0 := h0
  have lt0 : ∀ x ∈ p0, x.block < W.heap.size := by obtain ⟨m, hm⟩ := k0; exact DataW.trod_lt m _ _ _ hm
  obtain ⟨P, o1, o2, n1, c1, n2, c2, X1, X2, rfl, hl1, hl2, hS1, hS2, _, wma, _, wsn⟩ := open_prg (hval 0 25 v0 rfl rfl) h0
  obtain ⟨a1, rfl, rfl, rfl⟩ := open_bool Try.underlying4 (hval 1 4 v1 rfl rfl) h1
  obtain ⟨a2, rfl, rfl, rfl, w2⟩ := open_int Try.underlying3 (hval 2 3 v2 rfl rfl) h2
  clear hA0 hval0
  refine (walk P o1 o2 n1 c1 n2 c2 X1 X2 a1 a2 W hl1 hl2 hS1 hS2 wma wsn).mono fun e W' ⟨he, bel⟩ => ?_
  subst he
  exact ⟨_, rfl, _, _, _, [], _, [], hW', trodAll_mk1 (shut_bool Try.underlying4 _), (trodAll_cons_mk (Below.trod laidOut (by kernel_rfl) (of_decide_eq_true (by kernel_rfl)) k0 bel lt0) (trodAll_cons_mk (shut_bool Try.underlying4 _) (trodAll_cons_mk (shut_int Try.underlying3 w2) trodAll_mk0))), rfl, bel.frame _, fun h => by cases h⟩

theorem over : Rows.fnSnapshotReportedPastMatchRow.holds Try.pinned (OpenSpec.ofChange Rows.fnSnapshotReportedPastMatchSpec) :=
  OpenClaim.holds_of_wide 4 Try.f4 rfl rfl rfl rfl rfl rfl rfl ⟨rfl, rfl, rfl, rfl, rfl⟩ rfl rfl rfl rfl rfl (by kernel_rfl) Try.func4 (by kernel_rfl)
    (of_decide_eq_true (by kernel_rfl)) (by unfold Func.isWrapper; first | (rw [if_pos (by decide +kernel)]; kernel_rfl) | (rw [if_neg (by decide +kernel)]; exact ⟨rfl, rfl⟩))
    (fun os started H enc _ => lifted os started H enc)

/-- THE STATEMENT -/
theorem proved : Rows.FnSnapshotReportedPastMatchSaid := over
#print axioms proved
end Go.Proofs.Qxb6603959a.fnSnapshotReportedPastMatch
