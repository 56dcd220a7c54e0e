/-
  No cell of these rows narrows 'for every input' (looked for: loops, veiled, ifaces, maps, wideKeys, modest, calm, conditions, laid).
  DERIVED. THE GIVEN ROWS OF THIS SEAT. 2 by the template 'for every input the law returns true; each argument reads behind the call as it read before'; 0 by the template 'total and deterministic' (their statements: Qxb6603959aTotals.lean).
  GIVEN WITH THE SEED: the statements are not yours to turn. If you find one false, say at which input.
  Laid BY PROGRAM, IN A SANDBOX (cutbox-rows.mjs): the forced cells as the released guide's own fill.sh prints them over the translation 484b32b967c4aab4… (all of the seat's roots in one cut). By AI agents, Wed Nov 11 2026. No macro, syntax, notation, axiom, sorry.
-/
import Derived.Test.Qxb6603959aChecked
import GoSem.Claim
import GoSem.ClaimJoined
import GoSem.ClaimMapViews
import Derived.JoinedTies
import Derived.KernelRfl
namespace Go.Proofs.Qxb6603959a
/- THE CELL 'sum', in the pinned program and in every row, IS THE sha256 OF THE DUMP (.gsa) THAT Qxb6603959aProg.lean LOADS. Nothing in Lean hashes anything: it is a label: what it is worth is what the hold of that sum in a sandbox is worth. -/
noncomputable def Try.pinned : Pinned := { name := "qxb6603959a", sum := "484b32b967c4aab4d4c264d332a9af18716b1dde6fb707a25e043f3a54d800e2", checked := Try.checked }
namespace Rows
def none {H : Type} : Left H := { results := [], args := [] }

/-- 'zzlaws_root_b1.FnOvertookSpec': WHATEVER THE INPUT: true; the input reads as it did. -/
def fnOvertookSpecSpec : ChangeSpec := { name := "fnOvertookSpec", fn := fun _ => fun
  | [d1, d2] => { results := [.lit (.bool true)], args := [d1, d2] }
  | _ => none }
def fnOvertookSpecRow : OpenClaim := { program := "qxb6603959a", sum := "484b32b967c4aab4d4c264d332a9af18716b1dde6fb707a25e043f3a54d800e2", func := "example.com/coxswain/coxswain/zzlaws_root_b1.FnOvertookSpec", spec := "fnOvertookSpec", unfollowed := true, recurses := true, apart := false }
def FnOvertookSpecSaid : Prop := fnOvertookSpecRow.holds Try.pinned (OpenSpec.ofChange fnOvertookSpecSpec)

/-- ITS FALSE NEIGHBOUR: 'it returns false'. Refute it at one input. -/
def fnOvertookSpecWrong : ChangeSpec := { name := "fnOvertookSpec", fn := fun _ => fun
  | [d1, d2] => { results := [.lit (.bool false)], args := [d1, d2] }
  | _ => none }
def FnOvertookSpecWrongFalsely : Prop := fnOvertookSpecRow.holds Try.pinned (OpenSpec.ofChange fnOvertookSpecWrong)

/-- 'zzlaws_root_b1.FnSnapshotReportedPastMatch': WHATEVER THE INPUT: true; the input reads as it did. -/
def fnSnapshotReportedPastMatchSpec : ChangeSpec := { name := "fnSnapshotReportedPastMatch", fn := fun _ => fun
  | [d1, d2, d3] => { results := [.lit (.bool true)], args := [d1, d2, d3] }
  | _ => none }
def fnSnapshotReportedPastMatchRow : OpenClaim := { program := "qxb6603959a", sum := "484b32b967c4aab4d4c264d332a9af18716b1dde6fb707a25e043f3a54d800e2", func := "example.com/coxswain/coxswain/zzlaws_root_b1.FnSnapshotReportedPastMatch", spec := "fnSnapshotReportedPastMatch", apart := false }
def FnSnapshotReportedPastMatchSaid : Prop := fnSnapshotReportedPastMatchRow.holds Try.pinned (OpenSpec.ofChange fnSnapshotReportedPastMatchSpec)

/-- ITS FALSE NEIGHBOUR: 'it returns false'. Refute it at one input. -/
def fnSnapshotReportedPastMatchWrong : ChangeSpec := { name := "fnSnapshotReportedPastMatch", fn := fun _ => fun
  | [d1, d2, d3] => { results := [.lit (.bool false)], args := [d1, d2, d3] }
  | _ => none }
def FnSnapshotReportedPastMatchWrongFalsely : Prop := fnSnapshotReportedPastMatchRow.holds Try.pinned (OpenSpec.ofChange fnSnapshotReportedPastMatchWrong)

end Rows
end Go.Proofs.Qxb6603959a
