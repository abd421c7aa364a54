/-
  No cell of these rows narrows 'for every input' (looked for: loops, veiled, ifaces, maps, wideKeys, modest, calm, conditions, laid).
  DERIVED. THE GIVEN ROWS OF THIS SEAT. 3 by the template 'for every input the law returns true; each argument reads behind the call as it read before'; 0 by the template 'total and deterministic' (their statements: Qxb6601147aTotals.lean).
  GIVEN WITH THE SEED: the statements are not yours to turn. If you find one false, say at which input.
  Laid BY PROGRAM, IN A SANDBOX (cutbox-rows.mjs): the forced cells as the released guide's own fill.sh prints them over the translation be92d5ca472fbc75… (all of the seat's roots in one cut). By AI agents, Wed Nov 11 2026. No macro, syntax, notation, axiom, sorry.
-/
import Derived.Test.Qxb6601147aChecked
import GoSem.Claim
import GoSem.ClaimJoined
import GoSem.ClaimMapViews
import Derived.JoinedTies
import Derived.KernelRfl
namespace Go.Proofs.Qxb6601147a
/- THE CELL 'sum', in the pinned program and in every row, IS THE sha256 OF THE DUMP (.gsa) THAT Qxb6601147aProg.lean LOADS. Nothing in Lean hashes anything: it is a label: what it is worth is what the hold of that sum in a sandbox is worth. -/
noncomputable def Try.pinned : Pinned := { name := "qxb6601147a", sum := "be92d5ca472fbc75de047f0a89823277404818a8f2501cb151c3ee6d4d25cabd", checked := Try.checked }
namespace Rows
def none {H : Type} : Left H := { results := [], args := [] }

/-- 'zzlaws_pkg_sched_b1.FnCoprimesMatchesSieve': WHATEVER THE INPUT: true; the input reads as it did. -/
def fnCoprimesMatchesSieveSpec : ChangeSpec := { name := "fnCoprimesMatchesSieve", fn := fun _ => fun
  | [d] => { results := [.lit (.bool true)], args := [d] }
  | _ => none }
def fnCoprimesMatchesSieveRow : OpenClaim := { program := "qxb6601147a", sum := "be92d5ca472fbc75de047f0a89823277404818a8f2501cb151c3ee6d4d25cabd", func := "example.com/tier3/tier3/zzlaws_pkg_sched_b1.FnCoprimesMatchesSieve", spec := "fnCoprimesMatchesSieve", apart := false }
def FnCoprimesMatchesSieveSaid : Prop := fnCoprimesMatchesSieveRow.holds Try.pinned (OpenSpec.ofChange fnCoprimesMatchesSieveSpec)

/-- ITS FALSE NEIGHBOUR: 'it returns false'. Refute it at one input. -/
def fnCoprimesMatchesSieveWrong : ChangeSpec := { name := "fnCoprimesMatchesSieve", fn := fun _ => fun
  | [d] => { results := [.lit (.bool false)], args := [d] }
  | _ => none }
def FnCoprimesMatchesSieveWrongFalsely : Prop := fnCoprimesMatchesSieveRow.holds Try.pinned (OpenSpec.ofChange fnCoprimesMatchesSieveWrong)

/-- 'zzlaws_pkg_sched_b1.FnCoprimesAreExactlyFullCycleStrides': WHATEVER THE INPUT: true; the input reads as it did. -/
def fnCoprimesAreExactlyFullCycleStridesSpec : ChangeSpec := { name := "fnCoprimesAreExactlyFullCycleStrides", fn := fun _ => fun
  | [d] => { results := [.lit (.bool true)], args := [d] }
  | _ => none }
def fnCoprimesAreExactlyFullCycleStridesRow : OpenClaim := { program := "qxb6601147a", sum := "be92d5ca472fbc75de047f0a89823277404818a8f2501cb151c3ee6d4d25cabd", func := "example.com/tier3/tier3/zzlaws_pkg_sched_b1.FnCoprimesAreExactlyFullCycleStrides", spec := "fnCoprimesAreExactlyFullCycleStrides", apart := false }
def FnCoprimesAreExactlyFullCycleStridesSaid : Prop := fnCoprimesAreExactlyFullCycleStridesRow.holds Try.pinned (OpenSpec.ofChange fnCoprimesAreExactlyFullCycleStridesSpec)

/-- ITS FALSE NEIGHBOUR: 'it returns false'. Refute it at one input. -/
def fnCoprimesAreExactlyFullCycleStridesWrong : ChangeSpec := { name := "fnCoprimesAreExactlyFullCycleStrides", fn := fun _ => fun
  | [d] => { results := [.lit (.bool false)], args := [d] }
  | _ => none }
def FnCoprimesAreExactlyFullCycleStridesWrongFalsely : Prop := fnCoprimesAreExactlyFullCycleStridesRow.holds Try.pinned (OpenSpec.ofChange fnCoprimesAreExactlyFullCycleStridesWrong)

/-- 'zzlaws_pkg_sched_b1.FnCoprimesCountIsTotientAndSymmetric': WHATEVER THE INPUT: true; the input reads as it did. -/
def fnCoprimesCountIsTotientAndSymmetricSpec : ChangeSpec := { name := "fnCoprimesCountIsTotientAndSymmetric", fn := fun _ => fun
  | [d] => { results := [.lit (.bool true)], args := [d] }
  | _ => none }
def fnCoprimesCountIsTotientAndSymmetricRow : OpenClaim := { program := "qxb6601147a", sum := "be92d5ca472fbc75de047f0a89823277404818a8f2501cb151c3ee6d4d25cabd", func := "example.com/tier3/tier3/zzlaws_pkg_sched_b1.FnCoprimesCountIsTotientAndSymmetric", spec := "fnCoprimesCountIsTotientAndSymmetric", apart := false }
def FnCoprimesCountIsTotientAndSymmetricSaid : Prop := fnCoprimesCountIsTotientAndSymmetricRow.holds Try.pinned (OpenSpec.ofChange fnCoprimesCountIsTotientAndSymmetricSpec)

/-- ITS FALSE NEIGHBOUR: 'it returns false'. Refute it at one input. -/
def fnCoprimesCountIsTotientAndSymmetricWrong : ChangeSpec := { name := "fnCoprimesCountIsTotientAndSymmetric", fn := fun _ => fun
  | [d] => { results := [.lit (.bool false)], args := [d] }
  | _ => none }
def FnCoprimesCountIsTotientAndSymmetricWrongFalsely : Prop := fnCoprimesCountIsTotientAndSymmetricRow.holds Try.pinned (OpenSpec.ofChange fnCoprimesCountIsTotientAndSymmetricWrong)

end Rows
end Go.Proofs.Qxb6601147a
