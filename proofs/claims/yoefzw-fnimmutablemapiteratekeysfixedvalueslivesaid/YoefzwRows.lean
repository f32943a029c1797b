/-
  No cell of these rows narrows 'for every input' (looked for: loops, veiled, ifaces, maps, wideKeys, modest, calm, conditions, laid).
  DERIVED. THE GIVEN ROWS OF THIS SEAT. 5 by the template 'for every input the law returns true; each argument reads behind the call as it read before'; 0 by the template 'total and deterministic' (their statements: YoefzwTotals.lean).
  GIVEN WITH THE SEED: the statements are not yours to turn. If you find one false, say at which input.
  Laid BY PROGRAM, IN A SANDBOX (cutbox-rows.mjs): the forced cells as the released guide's own fill.sh prints them over the translation 69bcc72c54f707f7… (all of the seat's roots in one cut). By AI agents, Wed Nov 11 2026. No macro, syntax, notation, axiom, sorry.
-/
import Derived.Test.YoefzwChecked
import GoSem.Claim
import GoSem.ClaimJoined
import GoSem.ClaimMapViews
import Derived.JoinedTies
import Derived.KernelRfl
namespace Go.Proofs.Yoefzw
/- THE CELL 'sum', in the pinned program and in every row, IS THE sha256 OF THE DUMP (.gsa) THAT YoefzwProg.lean LOADS. Nothing in Lean hashes anything: it is a label: what it is worth is what the hold of that sum in a sandbox is worth. -/
noncomputable def Efzg.pinned : Pinned := { name := "yoefzw", sum := "69bcc72c54f707f7127c65131ecf73dae1b43ef97e5943c2e25f29231c7ce2c4", checked := Efzg.checked }
namespace Rows
def none {H : Type} : Left H := { results := [], args := [] }

/-- 'zzlaws_root_b1.FnIntTypeNameDiffersFromOthers': WHATEVER THE INPUT: true; the input reads as it did. -/
def fnIntTypeNameDiffersFromOthersSpec : ChangeSpec := { name := "fnIntTypeNameDiffersFromOthers", fn := fun _ => fun
  | [d] => { results := [.lit (.bool true)], args := [d] }
  | _ => none }
def fnIntTypeNameDiffersFromOthersRow : OpenClaim := { program := "yoefzw", sum := "69bcc72c54f707f7127c65131ecf73dae1b43ef97e5943c2e25f29231c7ce2c4", func := "github.com/d5/tengo/v2/zzlaws_root_b1.FnIntTypeNameDiffersFromOthers", spec := "fnIntTypeNameDiffersFromOthers", apart := false }
def FnIntTypeNameDiffersFromOthersSaid : Prop := fnIntTypeNameDiffersFromOthersRow.holds Efzg.pinned (OpenSpec.ofChange fnIntTypeNameDiffersFromOthersSpec)

/-- ITS FALSE NEIGHBOUR: 'it returns false'. Refute it at one input. -/
def fnIntTypeNameDiffersFromOthersWrong : ChangeSpec := { name := "fnIntTypeNameDiffersFromOthers", fn := fun _ => fun
  | [d] => { results := [.lit (.bool false)], args := [d] }
  | _ => none }
def FnIntTypeNameDiffersFromOthersWrongFalsely : Prop := fnIntTypeNameDiffersFromOthersRow.holds Efzg.pinned (OpenSpec.ofChange fnIntTypeNameDiffersFromOthersWrong)

/-- 'zzlaws_root_b1.FnImmutableMapIterateVisitsEachKeyOnce': WHATEVER THE INPUT: true; the input reads as it did. -/
def fnImmutableMapIterateVisitsEachKeyOnceSpec : ChangeSpec := { name := "fnImmutableMapIterateVisitsEachKeyOnce", fn := fun _ => fun
  | [d1, d2] => { results := [.lit (.bool true)], args := [d1, d2] }
  | _ => none }
def fnImmutableMapIterateVisitsEachKeyOnceRow : OpenClaim := { program := "yoefzw", sum := "69bcc72c54f707f7127c65131ecf73dae1b43ef97e5943c2e25f29231c7ce2c4", func := "github.com/d5/tengo/v2/zzlaws_root_b1.FnImmutableMapIterateVisitsEachKeyOnce", spec := "fnImmutableMapIterateVisitsEachKeyOnce", unfollowed := true, recurses := true, apart := false }
def FnImmutableMapIterateVisitsEachKeyOnceSaid : Prop := fnImmutableMapIterateVisitsEachKeyOnceRow.holds Efzg.pinned (OpenSpec.ofChange fnImmutableMapIterateVisitsEachKeyOnceSpec)

/-- ITS FALSE NEIGHBOUR: 'it returns false'. Refute it at one input. -/
def fnImmutableMapIterateVisitsEachKeyOnceWrong : ChangeSpec := { name := "fnImmutableMapIterateVisitsEachKeyOnce", fn := fun _ => fun
  | [d1, d2] => { results := [.lit (.bool false)], args := [d1, d2] }
  | _ => none }
def FnImmutableMapIterateVisitsEachKeyOnceWrongFalsely : Prop := fnImmutableMapIterateVisitsEachKeyOnceRow.holds Efzg.pinned (OpenSpec.ofChange fnImmutableMapIterateVisitsEachKeyOnceWrong)

/-- 'zzlaws_root_b1.FnImmutableMapIterateKeysFixedValuesLive': WHATEVER THE INPUT: true; the input reads as it did. -/
def fnImmutableMapIterateKeysFixedValuesLiveSpec : ChangeSpec := { name := "fnImmutableMapIterateKeysFixedValuesLive", fn := fun _ => fun
  | [d1, d2, d3, d4] => { results := [.lit (.bool true)], args := [d1, d2, d3, d4] }
  | _ => none }
def fnImmutableMapIterateKeysFixedValuesLiveRow : OpenClaim := { program := "yoefzw", sum := "69bcc72c54f707f7127c65131ecf73dae1b43ef97e5943c2e25f29231c7ce2c4", func := "github.com/d5/tengo/v2/zzlaws_root_b1.FnImmutableMapIterateKeysFixedValuesLive", spec := "fnImmutableMapIterateKeysFixedValuesLive", unfollowed := true, recurses := true, apart := false }
def FnImmutableMapIterateKeysFixedValuesLiveSaid : Prop := fnImmutableMapIterateKeysFixedValuesLiveRow.holds Efzg.pinned (OpenSpec.ofChange fnImmutableMapIterateKeysFixedValuesLiveSpec)

/-- ITS FALSE NEIGHBOUR: 'it returns false'. Refute it at one input. -/
def fnImmutableMapIterateKeysFixedValuesLiveWrong : ChangeSpec := { name := "fnImmutableMapIterateKeysFixedValuesLive", fn := fun _ => fun
  | [d1, d2, d3, d4] => { results := [.lit (.bool false)], args := [d1, d2, d3, d4] }
  | _ => none }
def FnImmutableMapIterateKeysFixedValuesLiveWrongFalsely : Prop := fnImmutableMapIterateKeysFixedValuesLiveRow.holds Efzg.pinned (OpenSpec.ofChange fnImmutableMapIterateKeysFixedValuesLiveWrong)

/-- 'zzlaws_root_b1.FnImmutableMapCanIterateAgreesWithIterate': WHATEVER THE INPUT: true; the input reads as it did. -/
def fnImmutableMapCanIterateAgreesWithIterateSpec : ChangeSpec := { name := "fnImmutableMapCanIterateAgreesWithIterate", fn := fun _ => fun
  | [d1, d2] => { results := [.lit (.bool true)], args := [d1, d2] }
  | _ => none }
def fnImmutableMapCanIterateAgreesWithIterateRow : OpenClaim := { program := "yoefzw", sum := "69bcc72c54f707f7127c65131ecf73dae1b43ef97e5943c2e25f29231c7ce2c4", func := "github.com/d5/tengo/v2/zzlaws_root_b1.FnImmutableMapCanIterateAgreesWithIterate", spec := "fnImmutableMapCanIterateAgreesWithIterate", unfollowed := true, recurses := true, apart := false }
def FnImmutableMapCanIterateAgreesWithIterateSaid : Prop := fnImmutableMapCanIterateAgreesWithIterateRow.holds Efzg.pinned (OpenSpec.ofChange fnImmutableMapCanIterateAgreesWithIterateSpec)

/-- ITS FALSE NEIGHBOUR: 'it returns false'. Refute it at one input. -/
def fnImmutableMapCanIterateAgreesWithIterateWrong : ChangeSpec := { name := "fnImmutableMapCanIterateAgreesWithIterate", fn := fun _ => fun
  | [d1, d2] => { results := [.lit (.bool false)], args := [d1, d2] }
  | _ => none }
def FnImmutableMapCanIterateAgreesWithIterateWrongFalsely : Prop := fnImmutableMapCanIterateAgreesWithIterateRow.holds Efzg.pinned (OpenSpec.ofChange fnImmutableMapCanIterateAgreesWithIterateWrong)

/-- 'zzlaws_root_b1.FnImmutableMapCanIterateNilMapEmpty': WHATEVER THE INPUT: true; the input reads as it did. -/
def fnImmutableMapCanIterateNilMapEmptySpec : ChangeSpec := { name := "fnImmutableMapCanIterateNilMapEmpty", fn := fun _ => fun
  | [d] => { results := [.lit (.bool true)], args := [d] }
  | _ => none }
def fnImmutableMapCanIterateNilMapEmptyRow : OpenClaim := { program := "yoefzw", sum := "69bcc72c54f707f7127c65131ecf73dae1b43ef97e5943c2e25f29231c7ce2c4", func := "github.com/d5/tengo/v2/zzlaws_root_b1.FnImmutableMapCanIterateNilMapEmpty", spec := "fnImmutableMapCanIterateNilMapEmpty", unfollowed := true, recurses := true, apart := false }
def FnImmutableMapCanIterateNilMapEmptySaid : Prop := fnImmutableMapCanIterateNilMapEmptyRow.holds Efzg.pinned (OpenSpec.ofChange fnImmutableMapCanIterateNilMapEmptySpec)

/-- ITS FALSE NEIGHBOUR: 'it returns false'. Refute it at one input. -/
def fnImmutableMapCanIterateNilMapEmptyWrong : ChangeSpec := { name := "fnImmutableMapCanIterateNilMapEmpty", fn := fun _ => fun
  | [d] => { results := [.lit (.bool false)], args := [d] }
  | _ => none }
def FnImmutableMapCanIterateNilMapEmptyWrongFalsely : Prop := fnImmutableMapCanIterateNilMapEmptyRow.holds Efzg.pinned (OpenSpec.ofChange fnImmutableMapCanIterateNilMapEmptyWrong)

end Rows
end Go.Proofs.Yoefzw
