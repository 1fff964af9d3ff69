/-
  No cell of these rows narrows 'for every input' (looked for: loops, veiled, ifaces, maps, wideKeys, modest, calm, conditions, laid).
  DERIVED. THE GIVEN ROWS OF THIS SEAT. 4 by the template 'for every input the law returns true; each argument reads behind the call as it read before'; 0 by the template 'total and deterministic' (their statements: YoebpwTotals.lean).
  GIVEN WITH THE SEED: the statements are not yours to turn. If you find one false, say at which input.
  Laid BY PROGRAM, IN A SANDBOX (cutbox-rows.mjs): the forced cells as the released guide's own fill.sh prints them over the translation c88919a6b22bef31… (all of the seat's roots in one cut). By AI agents, Wed Nov 11 2026. No macro, syntax, notation, axiom, sorry.
-/
import Derived.Test.YoebpwChecked
import GoSem.Claim
import GoSem.ClaimJoined
import GoSem.ClaimMapViews
import Derived.JoinedTies
import Derived.KernelRfl
namespace Go.Proofs.Yoebpw
/- THE CELL 'sum', in the pinned program and in every row, IS THE sha256 OF THE DUMP (.gsa) THAT YoebpwProg.lean LOADS. Nothing in Lean hashes anything: it is a label: what it is worth is what the hold of that sum in a sandbox is worth. -/
noncomputable def Ebpg.pinned : Pinned := { name := "yoebpw", sum := "c88919a6b22bef319a133d4bfddbb28b16b017aa37eb760237fa858a9f021d1b", checked := Ebpg.checked }
namespace Rows
def none {H : Type} : Left H := { results := [], args := [] }

/-- 'zzlaws_root_b2.FnModuleMapLookupsMatchListModel': WHATEVER THE INPUT: true; the input reads as it did. -/
def fnModuleMapLookupsMatchListModelSpec : ChangeSpec := { name := "fnModuleMapLookupsMatchListModel", fn := fun _ => fun
  | [d1, d2, d3, d4] => { results := [.lit (.bool true)], args := [d1, d2, d3, d4] }
  | _ => none }
def fnModuleMapLookupsMatchListModelRow : OpenClaim := { program := "yoebpw", sum := "c88919a6b22bef319a133d4bfddbb28b16b017aa37eb760237fa858a9f021d1b", func := "github.com/d5/tengo/v2/zzlaws_root_b2.FnModuleMapLookupsMatchListModel", spec := "fnModuleMapLookupsMatchListModel", apart := false }
def FnModuleMapLookupsMatchListModelSaid : Prop := fnModuleMapLookupsMatchListModelRow.holds Ebpg.pinned (OpenSpec.ofChange fnModuleMapLookupsMatchListModelSpec)

/-- ITS FALSE NEIGHBOUR: 'it returns false'. Refute it at one input. -/
def fnModuleMapLookupsMatchListModelWrong : ChangeSpec := { name := "fnModuleMapLookupsMatchListModel", fn := fun _ => fun
  | [d1, d2, d3, d4] => { results := [.lit (.bool false)], args := [d1, d2, d3, d4] }
  | _ => none }
def FnModuleMapLookupsMatchListModelWrongFalsely : Prop := fnModuleMapLookupsMatchListModelRow.holds Ebpg.pinned (OpenSpec.ofChange fnModuleMapLookupsMatchListModelWrong)

/-- 'zzlaws_root_b2.FnRemoveForgetsExactlyItsName': WHATEVER THE INPUT: true; the input reads as it did. -/
def fnRemoveForgetsExactlyItsNameSpec : ChangeSpec := { name := "fnRemoveForgetsExactlyItsName", fn := fun _ => fun
  | [d1, d2, d3, d4] => { results := [.lit (.bool true)], args := [d1, d2, d3, d4] }
  | _ => none }
def fnRemoveForgetsExactlyItsNameRow : OpenClaim := { program := "yoebpw", sum := "c88919a6b22bef319a133d4bfddbb28b16b017aa37eb760237fa858a9f021d1b", func := "github.com/d5/tengo/v2/zzlaws_root_b2.FnRemoveForgetsExactlyItsName", spec := "fnRemoveForgetsExactlyItsName", apart := false }
def FnRemoveForgetsExactlyItsNameSaid : Prop := fnRemoveForgetsExactlyItsNameRow.holds Ebpg.pinned (OpenSpec.ofChange fnRemoveForgetsExactlyItsNameSpec)

/-- ITS FALSE NEIGHBOUR: 'it returns false'. Refute it at one input. -/
def fnRemoveForgetsExactlyItsNameWrong : ChangeSpec := { name := "fnRemoveForgetsExactlyItsName", fn := fun _ => fun
  | [d1, d2, d3, d4] => { results := [.lit (.bool false)], args := [d1, d2, d3, d4] }
  | _ => none }
def FnRemoveForgetsExactlyItsNameWrongFalsely : Prop := fnRemoveForgetsExactlyItsNameRow.holds Ebpg.pinned (OpenSpec.ofChange fnRemoveForgetsExactlyItsNameWrong)

/-- 'zzlaws_root_b2.FnGetAgreesWithTypedGetters': WHATEVER THE INPUT: true; the input reads as it did. -/
def fnGetAgreesWithTypedGettersSpec : ChangeSpec := { name := "fnGetAgreesWithTypedGetters", fn := fun _ => fun
  | [d1, d2, d3, d4] => { results := [.lit (.bool true)], args := [d1, d2, d3, d4] }
  | _ => none }
def fnGetAgreesWithTypedGettersRow : OpenClaim := { program := "yoebpw", sum := "c88919a6b22bef319a133d4bfddbb28b16b017aa37eb760237fa858a9f021d1b", func := "github.com/d5/tengo/v2/zzlaws_root_b2.FnGetAgreesWithTypedGetters", spec := "fnGetAgreesWithTypedGetters", apart := false }
def FnGetAgreesWithTypedGettersSaid : Prop := fnGetAgreesWithTypedGettersRow.holds Ebpg.pinned (OpenSpec.ofChange fnGetAgreesWithTypedGettersSpec)

/-- ITS FALSE NEIGHBOUR: 'it returns false'. Refute it at one input. -/
def fnGetAgreesWithTypedGettersWrong : ChangeSpec := { name := "fnGetAgreesWithTypedGetters", fn := fun _ => fun
  | [d1, d2, d3, d4] => { results := [.lit (.bool false)], args := [d1, d2, d3, d4] }
  | _ => none }
def FnGetAgreesWithTypedGettersWrongFalsely : Prop := fnGetAgreesWithTypedGettersRow.holds Ebpg.pinned (OpenSpec.ofChange fnGetAgreesWithTypedGettersWrong)

/-- 'zzlaws_root_b2.FnTypedLookupsStableUnderOtherNames': WHATEVER THE INPUT: true; the input reads as it did. -/
def fnTypedLookupsStableUnderOtherNamesSpec : ChangeSpec := { name := "fnTypedLookupsStableUnderOtherNames", fn := fun _ => fun
  | [d1, d2, d3, d4, d5, d6, d7] => { results := [.lit (.bool true)], args := [d1, d2, d3, d4, d5, d6, d7] }
  | _ => none }
def fnTypedLookupsStableUnderOtherNamesRow : OpenClaim := { program := "yoebpw", sum := "c88919a6b22bef319a133d4bfddbb28b16b017aa37eb760237fa858a9f021d1b", func := "github.com/d5/tengo/v2/zzlaws_root_b2.FnTypedLookupsStableUnderOtherNames", spec := "fnTypedLookupsStableUnderOtherNames", apart := false }
def FnTypedLookupsStableUnderOtherNamesSaid : Prop := fnTypedLookupsStableUnderOtherNamesRow.holds Ebpg.pinned (OpenSpec.ofChange fnTypedLookupsStableUnderOtherNamesSpec)

/-- ITS FALSE NEIGHBOUR: 'it returns false'. Refute it at one input. -/
def fnTypedLookupsStableUnderOtherNamesWrong : ChangeSpec := { name := "fnTypedLookupsStableUnderOtherNames", fn := fun _ => fun
  | [d1, d2, d3, d4, d5, d6, d7] => { results := [.lit (.bool false)], args := [d1, d2, d3, d4, d5, d6, d7] }
  | _ => none }
def FnTypedLookupsStableUnderOtherNamesWrongFalsely : Prop := fnTypedLookupsStableUnderOtherNamesRow.holds Ebpg.pinned (OpenSpec.ofChange fnTypedLookupsStableUnderOtherNamesWrong)

end Rows
end Go.Proofs.Yoebpw
