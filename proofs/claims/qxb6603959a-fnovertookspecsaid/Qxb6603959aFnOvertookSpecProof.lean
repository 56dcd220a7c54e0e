/- A proof of 'Rows.FnOvertookSpecSaid'. The frame of the row's step is the guide's (proof-skeleton.mjs, a law over slices), with a record by value in the slice's place. -/
import Derived.Test.Qxb6603959aLaw3
import Derived.Test.Qxb6603959aOpen
import Derived.ProofKit
import Derived.OpenShut
import Derived.ShutString
import Derived.ChangeOld
import Derived.Below
namespace Go.Proofs.Qxb6603959a.fnOvertookSpec
open Go.ChangeShapes Go.WideShapes Go.ChangeAt Go.RowKit
set_option linter.unusedVariables false

theorem own : ownKnob Try.prog.godebug = none := by kernel_rfl
theorem laidOut : laidOutB Try.prog = true := by kernel_rfl

/-- The walk: every way put together. -/
theorem walk (P : Prg) (o1 o2 : Option Addr) (n1 c1 n2 c2 : Nat) (X1 X2 : Nat → El) (k : Int) (w : World) (hl1 : n1 ≤ maxLen) (hl2 : n2 ≤ maxLen) (hS1 : Src 0 w o1 n1 X1) (hS2 : Src 0 w o2 n2 X2) :
    Calls Try.prog 3 #[.agg #[.int .u8 P.st, .int .u64 P.ma, .int .u64 P.nx, .slice o1 n1 c1, .int .i64 P.wi, .int .i64 P.fl, .int .i64 P.ak, .int .u64 P.sd, .int .u64 P.lr, .bool P.ro, .slice o2 n2 c2, .int .u64 P.rh, .int .u64 P.hf, .int .u64 P.hl, .int .u64 P.hz, .int .i64 P.tk, .int .u64 P.sn, .int .i64 P.ra, .bool P.av, .int .u64 P.rd, .int .u64 P.cm], .int .i64 k] w fun e w' => e = .returned (.bool true) ∧ Below w.heap.size w w' := by
  by_cases a : 1048576 < n1 + n2
  · exact law3_long P o1 o2 n1 c1 n2 c2 k w a hl1 hl2
  by_cases b : 16384 < n1 + n2
  · exact law3_many P o1 o2 n1 c1 n2 c2 k w (by omega) b
  by_cases c : k < 0
  · exact law3_neg P o1 o2 n1 c1 n2 c2 k w (by omega) c
  by_cases d : (n1 : Int) ≤ k
  · exact law3_past P o1 o2 n1 c1 n2 c2 k w (by omega) (by omega) d
  obtain ⟨j, rfl⟩ := Int.eq_ofNat_of_zero_le (show 0 ≤ k by omega)
  rcases hS1 with h | ⟨bl, off, rfl, _, hb, hL⟩
  · omega
  by_cases e : (X1 j).a ≤ P.ma
  · exact law3_match P o2 bl off n1 c1 n2 c2 j X1 X2 w hb hL hS2 (by omega) (by omega) e
  by_cases f : P.nx ≤ (X1 j).a
  · exact law3_next P o2 bl off n1 c1 n2 c2 j X1 X2 w hb hL hS2 (by omega) (by omega) (by omega) f
  · exact law3_in P o2 bl off n1 c1 n2 c2 j X1 X2 w hb hL hS2 (by omega) (by omega) (by omega) (by omega)

/-! ### The row's step -/
set_option maxRecDepth 100000 in
theorem lifted (os : Os) (started : os.Started) (H : Type) (enc : TypeId × Value → H) :
    ReturnsInHanded {} Try.checked os 3 .any (Rows.fnOvertookSpecSpec.pre6 enc Try.prog Try.f3 Rows.fnOvertookSpecRow.domain false) (Rows.fnOvertookSpecSpec.post enc Try.prog Try.f3 false true false false) := by
  refine returnsInHanded_of_change (C := Try.checked) own started (by kernel_rfl) Try.func3
    (ChangeSpec.witness6 (enc := enc) (C := Try.checked) false ⟨#[], #[.agg #[.int .u8 0, .int .u64 0, .int .u64 0, .slice none 0 0, .int .i64 0, .int .i64 0, .int .i64 0, .int .u64 0, .int .u64 0, .bool false, .slice none 0 0, .int .u64 0, .int .u64 0, .int .u64 0, .int .u64 0, .int .i64 0, .int .u64 0, .int .i64 0, .bool false, .int .u64 0, .int .u64 0], .int .i64 0], []⟩ 8 (by kernel_rfl) (by kernel_rfl) (by kernel_rfl) (by kernel_rfl)) ?_
  intro W base args ds gs before hval0 hW hcnd _
  have hval : ∀ (j : Nat) t v, Try.f3.params[j]? = some t → args[j]? = some v → Value.okWide Try.prog W .any base t v := hval0
  have hW' := hW
  obtain ⟨p, q, hA0, hV, rfl, hfz, hnd⟩ := hW
  have hA : DataW.TrodAll enc Try.prog W 0 (fun _ => true) true Try.f3.params.toList args.toList ds p := hA0
  rw [Try.params3] at hA hval
  obtain ⟨v0, vs0, d0, ds0, p0, q0, hargs, rfl, rfl, h0, r0⟩ := trodAll_cons hA
  obtain ⟨v1, vs1, d1, ds1, p1, q1, rfl, rfl, rfl, h1, r1⟩ := trodAll_cons r0
  obtain ⟨rfl, rfl, rfl⟩ := trodAll_nil r1
  obtain rfl : args = #[v0, v1] := by cases args; simp_all
  obtain ⟨rfl, rfl⟩ := trodVars_none hV
  have k0 := h0
  have lt0 : ∀ x ∈ p0, x.block < W.heap.size := by obtain ⟨m, hm⟩ := k0; exact DataW.trod_lt m _ _ _ hm
  obtain ⟨P, o1, o2, n1, c1, n2, c2, X1, X2, rfl, hl1, hl2, hS1, hS2, _, _, _, _⟩ := open_prg (hval 0 25 v0 rfl rfl) h0
  obtain ⟨a1, rfl, rfl, rfl, w1⟩ := open_int Try.underlying3 (hval 1 3 v1 rfl rfl) h1
  clear hA0 hval0
  refine (walk P o1 o2 n1 c1 n2 c2 X1 X2 a1 W hl1 hl2 hS1 hS2).mono fun e W' ⟨he, bel⟩ => ?_
  subst he
  exact ⟨_, rfl, _, _, _, [], _, [], hW', trodAll_mk1 (shut_bool Try.underlying4 _), (trodAll_cons_mk (Below.trod laidOut (by kernel_rfl) (of_decide_eq_true (by kernel_rfl)) k0 bel lt0) (trodAll_cons_mk (shut_int Try.underlying3 w1) trodAll_mk0)), rfl, bel.frame _, fun h => by cases h⟩

theorem over : Rows.fnOvertookSpecRow.holds Try.pinned (OpenSpec.ofChange Rows.fnOvertookSpecSpec) :=
  OpenClaim.holds_of_wide 3 Try.f3 rfl rfl rfl rfl rfl rfl rfl ⟨rfl, rfl, rfl, rfl, rfl⟩ rfl rfl rfl rfl rfl (by kernel_rfl) Try.func3 (by kernel_rfl)
    (of_decide_eq_true (by kernel_rfl)) (by unfold Func.isWrapper; first | (rw [if_pos (by decide +kernel)]; kernel_rfl) | (rw [if_neg (by decide +kernel)]; exact ⟨rfl, rfl⟩))
    (fun os started H enc _ => lifted os started H enc)

/-- THE STATEMENT -/
theorem proved : Rows.FnOvertookSpecSaid := over
#print axioms proved
end Go.Proofs.Qxb6603959a.fnOvertookSpec
