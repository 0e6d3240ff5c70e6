/-
  No cell of these rows narrows 'for every input' (looked for: loops, veiled, ifaces, maps, wideKeys, modest, calm, conditions, laid).
  DERIVED. THE GIVEN ROWS OF THIS SEAT. 8 by the template 'for every input the law returns true; each argument reads behind the call as it read before'; 0 by the template 'total and deterministic' (their statements: Qxb6612853aTotals.lean).
  GIVEN WITH THE SEED: the statements are not yours to turn. If you find one false, say at which input.
  Laid BY PROGRAM, IN A SANDBOX (cutbox-rows.mjs): the forced cells as the released guide's own fill.sh prints them over the translation bdf064bee52036cb… (all of the seat's roots in one cut). By AI agents, Wed Nov 11 2026. No macro, syntax, notation, axiom, sorry.
-/
import Derived.Test.Qxb6612853aChecked
import GoSem.Claim
import GoSem.ClaimJoined
import GoSem.ClaimMapViews
import Derived.JoinedTies
import Derived.KernelRfl
namespace Go.Proofs.Qxb6612853a
/- THE CELL 'sum', in the pinned program and in every row, IS THE sha256 OF THE DUMP (.gsa) THAT Qxb6612853aProg.lean LOADS. Nothing in Lean hashes anything: it is a label: what it is worth is what the hold of that sum in a sandbox is worth. -/
noncomputable def Try.pinned : Pinned := { name := "qxb6612853a", sum := "bdf064bee52036cbda59e8218998b0cff4a18224b374e239c912bc09cb2edd6f", checked := Try.checked }
namespace Rows
def none {H : Type} : Left H := { results := [], args := [] }

/-- 'zzlaws_root_b1.FnSetSpareKeepsLatestPerBand': WHATEVER THE INPUT: true; the input reads as it did. -/
def fnSetSpareKeepsLatestPerBandSpec : ChangeSpec := { name := "fnSetSpareKeepsLatestPerBand", fn := fun _ => fun
  | [d1, d2] => { results := [.lit (.bool true)], args := [d1, d2] }
  | _ => none }
def fnSetSpareKeepsLatestPerBandRow : OpenClaim := { program := "qxb6612853a", sum := "bdf064bee52036cbda59e8218998b0cff4a18224b374e239c912bc09cb2edd6f", func := "example.com/peerbook/peerbook/zzlaws_root_b1.FnSetSpareKeepsLatestPerBand", spec := "fnSetSpareKeepsLatestPerBand", apart := false }
def FnSetSpareKeepsLatestPerBandSaid : Prop := fnSetSpareKeepsLatestPerBandRow.holds Try.pinned (OpenSpec.ofChange fnSetSpareKeepsLatestPerBandSpec)

/-- ITS FALSE NEIGHBOUR: 'it returns false'. Refute it at one input. -/
def fnSetSpareKeepsLatestPerBandWrong : ChangeSpec := { name := "fnSetSpareKeepsLatestPerBand", fn := fun _ => fun
  | [d1, d2] => { results := [.lit (.bool false)], args := [d1, d2] }
  | _ => none }
def FnSetSpareKeepsLatestPerBandWrongFalsely : Prop := fnSetSpareKeepsLatestPerBandRow.holds Try.pinned (OpenSpec.ofChange fnSetSpareKeepsLatestPerBandWrong)

/-- 'zzlaws_root_b1.FnSetSpareThenRemoveForgets': WHATEVER THE INPUT: true; the input reads as it did. -/
def fnSetSpareThenRemoveForgetsSpec : ChangeSpec := { name := "fnSetSpareThenRemoveForgets", fn := fun _ => fun
  | [d1, d2, d3] => { results := [.lit (.bool true)], args := [d1, d2, d3] }
  | _ => none }
def fnSetSpareThenRemoveForgetsRow : OpenClaim := { program := "qxb6612853a", sum := "bdf064bee52036cbda59e8218998b0cff4a18224b374e239c912bc09cb2edd6f", func := "example.com/peerbook/peerbook/zzlaws_root_b1.FnSetSpareThenRemoveForgets", spec := "fnSetSpareThenRemoveForgets", unfollowed := true, recurses := true, apart := false }
def FnSetSpareThenRemoveForgetsSaid : Prop := fnSetSpareThenRemoveForgetsRow.holds Try.pinned (OpenSpec.ofChange fnSetSpareThenRemoveForgetsSpec)

/-- ITS FALSE NEIGHBOUR: 'it returns false'. Refute it at one input. -/
def fnSetSpareThenRemoveForgetsWrong : ChangeSpec := { name := "fnSetSpareThenRemoveForgets", fn := fun _ => fun
  | [d1, d2, d3] => { results := [.lit (.bool false)], args := [d1, d2, d3] }
  | _ => none }
def FnSetSpareThenRemoveForgetsWrongFalsely : Prop := fnSetSpareThenRemoveForgetsRow.holds Try.pinned (OpenSpec.ofChange fnSetSpareThenRemoveForgetsWrong)

/-- 'zzlaws_root_b1.FnPeersThenRemove': WHATEVER THE INPUT: true; the input reads as it did. -/
def fnPeersThenRemoveSpec : ChangeSpec := { name := "fnPeersThenRemove", fn := fun _ => fun
  | [d1, d2, d3] => { results := [.lit (.bool true)], args := [d1, d2, d3] }
  | _ => none }
def fnPeersThenRemoveRow : OpenClaim := { program := "qxb6612853a", sum := "bdf064bee52036cbda59e8218998b0cff4a18224b374e239c912bc09cb2edd6f", func := "example.com/peerbook/peerbook/zzlaws_root_b1.FnPeersThenRemove", spec := "fnPeersThenRemove", unfollowed := true, recurses := true, apart := false }
def FnPeersThenRemoveSaid : Prop := fnPeersThenRemoveRow.holds Try.pinned (OpenSpec.ofChange fnPeersThenRemoveSpec)

/-- ITS FALSE NEIGHBOUR: 'it returns false'. Refute it at one input. -/
def fnPeersThenRemoveWrong : ChangeSpec := { name := "fnPeersThenRemove", fn := fun _ => fun
  | [d1, d2, d3] => { results := [.lit (.bool false)], args := [d1, d2, d3] }
  | _ => none }
def FnPeersThenRemoveWrongFalsely : Prop := fnPeersThenRemoveRow.holds Try.pinned (OpenSpec.ofChange fnPeersThenRemoveWrong)

/-- 'zzlaws_root_b1.FnPeersFreshSlice': WHATEVER THE INPUT: true; the input reads as it did. -/
def fnPeersFreshSliceSpec : ChangeSpec := { name := "fnPeersFreshSlice", fn := fun _ => fun
  | [d1, d2] => { results := [.lit (.bool true)], args := [d1, d2] }
  | _ => none }
def fnPeersFreshSliceRow : OpenClaim := { program := "qxb6612853a", sum := "bdf064bee52036cbda59e8218998b0cff4a18224b374e239c912bc09cb2edd6f", func := "example.com/peerbook/peerbook/zzlaws_root_b1.FnPeersFreshSlice", spec := "fnPeersFreshSlice", apart := false }
def FnPeersFreshSliceSaid : Prop := fnPeersFreshSliceRow.holds Try.pinned (OpenSpec.ofChange fnPeersFreshSliceSpec)

/-- ITS FALSE NEIGHBOUR: 'it returns false'. Refute it at one input. -/
def fnPeersFreshSliceWrong : ChangeSpec := { name := "fnPeersFreshSlice", fn := fun _ => fun
  | [d1, d2] => { results := [.lit (.bool false)], args := [d1, d2] }
  | _ => none }
def FnPeersFreshSliceWrongFalsely : Prop := fnPeersFreshSliceRow.holds Try.pinned (OpenSpec.ofChange fnPeersFreshSliceWrong)

/-- 'zzlaws_root_b1.FnBandsMatchCountModel': WHATEVER THE INPUT: true; the input reads as it did. -/
def fnBandsMatchCountModelSpec : ChangeSpec := { name := "fnBandsMatchCountModel", fn := fun _ => fun
  | [d1, d2, d3] => { results := [.lit (.bool true)], args := [d1, d2, d3] }
  | _ => none }
def fnBandsMatchCountModelRow : OpenClaim := { program := "qxb6612853a", sum := "bdf064bee52036cbda59e8218998b0cff4a18224b374e239c912bc09cb2edd6f", func := "example.com/peerbook/peerbook/zzlaws_root_b1.FnBandsMatchCountModel", spec := "fnBandsMatchCountModel", apart := false }
def FnBandsMatchCountModelSaid : Prop := fnBandsMatchCountModelRow.holds Try.pinned (OpenSpec.ofChange fnBandsMatchCountModelSpec)

/-- ITS FALSE NEIGHBOUR: 'it returns false'. Refute it at one input. -/
def fnBandsMatchCountModelWrong : ChangeSpec := { name := "fnBandsMatchCountModel", fn := fun _ => fun
  | [d1, d2, d3] => { results := [.lit (.bool false)], args := [d1, d2, d3] }
  | _ => none }
def FnBandsMatchCountModelWrongFalsely : Prop := fnBandsMatchCountModelRow.holds Try.pinned (OpenSpec.ofChange fnBandsMatchCountModelWrong)

/-- 'zzlaws_root_b1.FnBandsCountsAddUp': WHATEVER THE INPUT: true; the input reads as it did. -/
def fnBandsCountsAddUpSpec : ChangeSpec := { name := "fnBandsCountsAddUp", fn := fun _ => fun
  | [d1, d2] => { results := [.lit (.bool true)], args := [d1, d2] }
  | _ => none }
def fnBandsCountsAddUpRow : OpenClaim := { program := "qxb6612853a", sum := "bdf064bee52036cbda59e8218998b0cff4a18224b374e239c912bc09cb2edd6f", func := "example.com/peerbook/peerbook/zzlaws_root_b1.FnBandsCountsAddUp", spec := "fnBandsCountsAddUp", apart := false }
def FnBandsCountsAddUpSaid : Prop := fnBandsCountsAddUpRow.holds Try.pinned (OpenSpec.ofChange fnBandsCountsAddUpSpec)

/-- ITS FALSE NEIGHBOUR: 'it returns false'. Refute it at one input. -/
def fnBandsCountsAddUpWrong : ChangeSpec := { name := "fnBandsCountsAddUp", fn := fun _ => fun
  | [d1, d2] => { results := [.lit (.bool false)], args := [d1, d2] }
  | _ => none }
def FnBandsCountsAddUpWrongFalsely : Prop := fnBandsCountsAddUpRow.holds Try.pinned (OpenSpec.ofChange fnBandsCountsAddUpWrong)

/-- 'zzlaws_root_b1.FnMarshalTextIsLowerHexOfID': WHATEVER THE INPUT: true; the input reads as it did. -/
def fnMarshalTextIsLowerHexOfIDSpec : ChangeSpec := { name := "fnMarshalTextIsLowerHexOfID", fn := fun _ => fun
  | [d] => { results := [.lit (.bool true)], args := [d] }
  | _ => none }
def fnMarshalTextIsLowerHexOfIDRow : OpenClaim := { program := "qxb6612853a", sum := "bdf064bee52036cbda59e8218998b0cff4a18224b374e239c912bc09cb2edd6f", func := "example.com/peerbook/peerbook/zzlaws_root_b1.FnMarshalTextIsLowerHexOfID", spec := "fnMarshalTextIsLowerHexOfID", apart := false }
def FnMarshalTextIsLowerHexOfIDSaid : Prop := fnMarshalTextIsLowerHexOfIDRow.holds Try.pinned (OpenSpec.ofChange fnMarshalTextIsLowerHexOfIDSpec)

/-- ITS FALSE NEIGHBOUR: 'it returns false'. Refute it at one input. -/
def fnMarshalTextIsLowerHexOfIDWrong : ChangeSpec := { name := "fnMarshalTextIsLowerHexOfID", fn := fun _ => fun
  | [d] => { results := [.lit (.bool false)], args := [d] }
  | _ => none }
def FnMarshalTextIsLowerHexOfIDWrongFalsely : Prop := fnMarshalTextIsLowerHexOfIDRow.holds Try.pinned (OpenSpec.ofChange fnMarshalTextIsLowerHexOfIDWrong)

/-- 'zzlaws_root_b1.FnMarshalTextSortsAsID': WHATEVER THE INPUT: true; the input reads as it did. -/
def fnMarshalTextSortsAsIDSpec : ChangeSpec := { name := "fnMarshalTextSortsAsID", fn := fun _ => fun
  | [d1, d2] => { results := [.lit (.bool true)], args := [d1, d2] }
  | _ => none }
def fnMarshalTextSortsAsIDRow : OpenClaim := { program := "qxb6612853a", sum := "bdf064bee52036cbda59e8218998b0cff4a18224b374e239c912bc09cb2edd6f", func := "example.com/peerbook/peerbook/zzlaws_root_b1.FnMarshalTextSortsAsID", spec := "fnMarshalTextSortsAsID", apart := false }
def FnMarshalTextSortsAsIDSaid : Prop := fnMarshalTextSortsAsIDRow.holds Try.pinned (OpenSpec.ofChange fnMarshalTextSortsAsIDSpec)

/-- ITS FALSE NEIGHBOUR: 'it returns false'. Refute it at one input. -/
def fnMarshalTextSortsAsIDWrong : ChangeSpec := { name := "fnMarshalTextSortsAsID", fn := fun _ => fun
  | [d1, d2] => { results := [.lit (.bool false)], args := [d1, d2] }
  | _ => none }
def FnMarshalTextSortsAsIDWrongFalsely : Prop := fnMarshalTextSortsAsIDRow.holds Try.pinned (OpenSpec.ofChange fnMarshalTextSortsAsIDWrong)

end Rows
end Go.Proofs.Qxb6612853a
