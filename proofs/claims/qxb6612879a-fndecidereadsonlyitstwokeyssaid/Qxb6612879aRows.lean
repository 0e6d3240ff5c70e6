/-
  No cell of these rows narrows 'for every input' (looked for: loops, veiled, ifaces, maps, wideKeys, modest, calm, conditions, laid).
  DERIVED. THE GIVEN ROWS OF THIS SEAT. 2 by the template 'for every input the law returns true; each argument reads behind the call as it read before'; 0 by the template 'total and deterministic' (their statements: Qxb6612879aTotals.lean).
  GIVEN WITH THE SEED: the statements are not yours to turn. If you find one false, say at which input.
  Laid BY PROGRAM, IN A SANDBOX (cutbox-rows.mjs): the forced cells as the released guide's own fill.sh prints them over the translation 9480a7706e37fef1… (all of the seat's roots in one cut). By AI agents, Wed Nov 11 2026. No macro, syntax, notation, axiom, sorry.
-/
import Derived.Test.Qxb6612879aChecked
import GoSem.Claim
import GoSem.ClaimJoined
import GoSem.ClaimMapViews
import Derived.JoinedTies
import Derived.KernelRfl
namespace Go.Proofs.Qxb6612879a
/- THE CELL 'sum', in the pinned program and in every row, IS THE sha256 OF THE DUMP (.gsa) THAT Qxb6612879aProg.lean LOADS. Nothing in Lean hashes anything: it is a label: what it is worth is what the hold of that sum in a sandbox is worth. -/
noncomputable def Try.pinned : Pinned := { name := "qxb6612879a", sum := "9480a7706e37fef18ac8a9efc006ebcc7c11b45efc9b7b17a9ae86cb710c6bc9", checked := Try.checked }
namespace Rows
def none {H : Type} : Left H := { results := [], args := [] }

/-- 'zzlaws_policy_b1.FnDecideJoinsSpecificAndGeneral': WHATEVER THE INPUT: true; the input reads as it did. -/
def fnDecideJoinsSpecificAndGeneralSpec : ChangeSpec := { name := "fnDecideJoinsSpecificAndGeneral", fn := fun _ => fun
  | [d1, d2, d3, d4, d5, d6] => { results := [.lit (.bool true)], args := [d1, d2, d3, d4, d5, d6] }
  | _ => none }
def fnDecideJoinsSpecificAndGeneralRow : OpenClaim := { program := "qxb6612879a", sum := "9480a7706e37fef18ac8a9efc006ebcc7c11b45efc9b7b17a9ae86cb710c6bc9", func := "example.com/isthmus/isthmus/zzlaws_policy_b1.FnDecideJoinsSpecificAndGeneral", spec := "fnDecideJoinsSpecificAndGeneral", unfollowed := true, recurses := true, named := ["encoding/binary.BigEndian"], plainKeys := false, apart := false }
def FnDecideJoinsSpecificAndGeneralSaid : Prop := fnDecideJoinsSpecificAndGeneralRow.holds Try.pinned (OpenSpec.ofChange fnDecideJoinsSpecificAndGeneralSpec)

/-- ITS FALSE NEIGHBOUR: 'it returns false'. Refute it at one input. -/
def fnDecideJoinsSpecificAndGeneralWrong : ChangeSpec := { name := "fnDecideJoinsSpecificAndGeneral", fn := fun _ => fun
  | [d1, d2, d3, d4, d5, d6] => { results := [.lit (.bool false)], args := [d1, d2, d3, d4, d5, d6] }
  | _ => none }
def FnDecideJoinsSpecificAndGeneralWrongFalsely : Prop := fnDecideJoinsSpecificAndGeneralRow.holds Try.pinned (OpenSpec.ofChange fnDecideJoinsSpecificAndGeneralWrong)

/-- 'zzlaws_policy_b1.FnDecideReadsOnlyItsTwoKeys': WHATEVER THE INPUT: true; the input reads as it did. -/
def fnDecideReadsOnlyItsTwoKeysSpec : ChangeSpec := { name := "fnDecideReadsOnlyItsTwoKeys", fn := fun _ => fun
  | [d1, d2, d3, d4, d5, d6, d7] => { results := [.lit (.bool true)], args := [d1, d2, d3, d4, d5, d6, d7] }
  | _ => none }
def fnDecideReadsOnlyItsTwoKeysRow : OpenClaim := { program := "qxb6612879a", sum := "9480a7706e37fef18ac8a9efc006ebcc7c11b45efc9b7b17a9ae86cb710c6bc9", func := "example.com/isthmus/isthmus/zzlaws_policy_b1.FnDecideReadsOnlyItsTwoKeys", spec := "fnDecideReadsOnlyItsTwoKeys", unfollowed := true, recurses := true, named := ["encoding/binary.BigEndian"], plainKeys := false, apart := false }
def FnDecideReadsOnlyItsTwoKeysSaid : Prop := fnDecideReadsOnlyItsTwoKeysRow.holds Try.pinned (OpenSpec.ofChange fnDecideReadsOnlyItsTwoKeysSpec)

/-- ITS FALSE NEIGHBOUR: 'it returns false'. Refute it at one input. -/
def fnDecideReadsOnlyItsTwoKeysWrong : ChangeSpec := { name := "fnDecideReadsOnlyItsTwoKeys", fn := fun _ => fun
  | [d1, d2, d3, d4, d5, d6, d7] => { results := [.lit (.bool false)], args := [d1, d2, d3, d4, d5, d6, d7] }
  | _ => none }
def FnDecideReadsOnlyItsTwoKeysWrongFalsely : Prop := fnDecideReadsOnlyItsTwoKeysRow.holds Try.pinned (OpenSpec.ofChange fnDecideReadsOnlyItsTwoKeysWrong)

end Rows
end Go.Proofs.Qxb6612879a
