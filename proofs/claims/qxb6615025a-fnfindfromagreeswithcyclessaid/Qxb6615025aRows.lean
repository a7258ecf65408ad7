/-
  No cell of these rows narrows 'for every input' (looked for: loops, veiled, ifaces, maps, wideKeys, modest, calm, conditions, laid).
  DERIVED. THE GIVEN ROWS OF THIS SEAT. 5 by the template 'for every input the law returns true; each argument reads behind the call as it read before'; 0 by the template 'total and deterministic' (their statements: Qxb6615025aTotals.lean).
  GIVEN WITH THE SEED: the statements are not yours to turn. If you find one false, say at which input.
  Laid BY PROGRAM, IN A SANDBOX (cutbox-rows.mjs): the forced cells as the released guide's own fill.sh prints them over the translation 35cb887bba157f69… (all of the seat's roots in one cut). By AI agents, Wed Nov 11 2026. No macro, syntax, notation, axiom, sorry.
-/
import Derived.Test.Qxb6615025aChecked
import GoSem.Claim
import GoSem.ClaimJoined
import GoSem.ClaimMapViews
import Derived.JoinedTies
import Derived.KernelRfl
namespace Go.Proofs.Qxb6615025a
/- THE CELL 'sum', in the pinned program and in every row, IS THE sha256 OF THE DUMP (.gsa) THAT Qxb6615025aProg.lean LOADS. Nothing in Lean hashes anything: it is a label: what it is worth is what the hold of that sum in a sandbox is worth. -/
noncomputable def Try.pinned : Pinned := { name := "qxb6615025a", sum := "35cb887bba157f69f730095e38c2c280b2453a7d73e17ba6bec7abe67d7126be", checked := Try.checked }
namespace Rows
def none {H : Type} : Left H := { results := [], args := [] }

/-- 'zzlaws_internal_graph_b1.FnCyclesSpec': WHATEVER THE INPUT: true; the input reads as it did. -/
def fnCyclesSpecSpec : ChangeSpec := { name := "fnCyclesSpec", fn := fun _ => fun
  | [d1, d2, d3] => { results := [.lit (.bool true)], args := [d1, d2, d3] }
  | _ => none }
def fnCyclesSpecRow : OpenClaim := { program := "qxb6615025a", sum := "35cb887bba157f69f730095e38c2c280b2453a7d73e17ba6bec7abe67d7126be", func := "example.com/cairnwork/cairnwork/zzlaws_internal_graph_b1.FnCyclesSpec", spec := "fnCyclesSpec", unfollowed := true, recurses := true, apart := false }
def FnCyclesSpecSaid : Prop := fnCyclesSpecRow.holds Try.pinned (OpenSpec.ofChange fnCyclesSpecSpec)

/-- ITS FALSE NEIGHBOUR: 'it returns false'. Refute it at one input. -/
def fnCyclesSpecWrong : ChangeSpec := { name := "fnCyclesSpec", fn := fun _ => fun
  | [d1, d2, d3] => { results := [.lit (.bool false)], args := [d1, d2, d3] }
  | _ => none }
def FnCyclesSpecWrongFalsely : Prop := fnCyclesSpecRow.holds Try.pinned (OpenSpec.ofChange fnCyclesSpecWrong)

/-- 'zzlaws_internal_graph_b1.FnCyclesLeadPrefixAnyOrder': WHATEVER THE INPUT: true; the input reads as it did. -/
def fnCyclesLeadPrefixAnyOrderSpec : ChangeSpec := { name := "fnCyclesLeadPrefixAnyOrder", fn := fun _ => fun
  | [d1, d2, d3, d4] => { results := [.lit (.bool true)], args := [d1, d2, d3, d4] }
  | _ => none }
def fnCyclesLeadPrefixAnyOrderRow : OpenClaim := { program := "qxb6615025a", sum := "35cb887bba157f69f730095e38c2c280b2453a7d73e17ba6bec7abe67d7126be", func := "example.com/cairnwork/cairnwork/zzlaws_internal_graph_b1.FnCyclesLeadPrefixAnyOrder", spec := "fnCyclesLeadPrefixAnyOrder", unfollowed := true, recurses := true, apart := false }
def FnCyclesLeadPrefixAnyOrderSaid : Prop := fnCyclesLeadPrefixAnyOrderRow.holds Try.pinned (OpenSpec.ofChange fnCyclesLeadPrefixAnyOrderSpec)

/-- ITS FALSE NEIGHBOUR: 'it returns false'. Refute it at one input. -/
def fnCyclesLeadPrefixAnyOrderWrong : ChangeSpec := { name := "fnCyclesLeadPrefixAnyOrder", fn := fun _ => fun
  | [d1, d2, d3, d4] => { results := [.lit (.bool false)], args := [d1, d2, d3, d4] }
  | _ => none }
def FnCyclesLeadPrefixAnyOrderWrongFalsely : Prop := fnCyclesLeadPrefixAnyOrderRow.holds Try.pinned (OpenSpec.ofChange fnCyclesLeadPrefixAnyOrderWrong)

/-- 'zzlaws_internal_graph_b1.FnFindFromAnyHubSpec': WHATEVER THE INPUT: true; the input reads as it did. -/
def fnFindFromAnyHubSpecSpec : ChangeSpec := { name := "fnFindFromAnyHubSpec", fn := fun _ => fun
  | [d1, d2, d3, d4] => { results := [.lit (.bool true)], args := [d1, d2, d3, d4] }
  | _ => none }
def fnFindFromAnyHubSpecRow : OpenClaim := { program := "qxb6615025a", sum := "35cb887bba157f69f730095e38c2c280b2453a7d73e17ba6bec7abe67d7126be", func := "example.com/cairnwork/cairnwork/zzlaws_internal_graph_b1.FnFindFromAnyHubSpec", spec := "fnFindFromAnyHubSpec", unfollowed := true, recurses := true, apart := false }
def FnFindFromAnyHubSpecSaid : Prop := fnFindFromAnyHubSpecRow.holds Try.pinned (OpenSpec.ofChange fnFindFromAnyHubSpecSpec)

/-- ITS FALSE NEIGHBOUR: 'it returns false'. Refute it at one input. -/
def fnFindFromAnyHubSpecWrong : ChangeSpec := { name := "fnFindFromAnyHubSpec", fn := fun _ => fun
  | [d1, d2, d3, d4] => { results := [.lit (.bool false)], args := [d1, d2, d3, d4] }
  | _ => none }
def FnFindFromAnyHubSpecWrongFalsely : Prop := fnFindFromAnyHubSpecRow.holds Try.pinned (OpenSpec.ofChange fnFindFromAnyHubSpecWrong)

/-- 'zzlaws_internal_graph_b1.FnFindFromAgreesWithCycles': WHATEVER THE INPUT: true; the input reads as it did. -/
def fnFindFromAgreesWithCyclesSpec : ChangeSpec := { name := "fnFindFromAgreesWithCycles", fn := fun _ => fun
  | [d1, d2, d3, d4] => { results := [.lit (.bool true)], args := [d1, d2, d3, d4] }
  | _ => none }
def fnFindFromAgreesWithCyclesRow : OpenClaim := { program := "qxb6615025a", sum := "35cb887bba157f69f730095e38c2c280b2453a7d73e17ba6bec7abe67d7126be", func := "example.com/cairnwork/cairnwork/zzlaws_internal_graph_b1.FnFindFromAgreesWithCycles", spec := "fnFindFromAgreesWithCycles", unfollowed := true, recurses := true, apart := false }
def FnFindFromAgreesWithCyclesSaid : Prop := fnFindFromAgreesWithCyclesRow.holds Try.pinned (OpenSpec.ofChange fnFindFromAgreesWithCyclesSpec)

/-- ITS FALSE NEIGHBOUR: 'it returns false'. Refute it at one input. -/
def fnFindFromAgreesWithCyclesWrong : ChangeSpec := { name := "fnFindFromAgreesWithCycles", fn := fun _ => fun
  | [d1, d2, d3, d4] => { results := [.lit (.bool false)], args := [d1, d2, d3, d4] }
  | _ => none }
def FnFindFromAgreesWithCyclesWrongFalsely : Prop := fnFindFromAgreesWithCyclesRow.holds Try.pinned (OpenSpec.ofChange fnFindFromAgreesWithCyclesWrong)

/-- 'zzlaws_internal_graph_b1.FnNewLeadRoomIsWhatCyclesFill': WHATEVER THE INPUT: true; the input reads as it did. -/
def fnNewLeadRoomIsWhatCyclesFillSpec : ChangeSpec := { name := "fnNewLeadRoomIsWhatCyclesFill", fn := fun _ => fun
  | [d1, d2, d3] => { results := [.lit (.bool true)], args := [d1, d2, d3] }
  | _ => none }
def fnNewLeadRoomIsWhatCyclesFillRow : OpenClaim := { program := "qxb6615025a", sum := "35cb887bba157f69f730095e38c2c280b2453a7d73e17ba6bec7abe67d7126be", func := "example.com/cairnwork/cairnwork/zzlaws_internal_graph_b1.FnNewLeadRoomIsWhatCyclesFill", spec := "fnNewLeadRoomIsWhatCyclesFill", unfollowed := true, recurses := true, apart := false }
def FnNewLeadRoomIsWhatCyclesFillSaid : Prop := fnNewLeadRoomIsWhatCyclesFillRow.holds Try.pinned (OpenSpec.ofChange fnNewLeadRoomIsWhatCyclesFillSpec)

/-- ITS FALSE NEIGHBOUR: 'it returns false'. Refute it at one input. -/
def fnNewLeadRoomIsWhatCyclesFillWrong : ChangeSpec := { name := "fnNewLeadRoomIsWhatCyclesFill", fn := fun _ => fun
  | [d1, d2, d3] => { results := [.lit (.bool false)], args := [d1, d2, d3] }
  | _ => none }
def FnNewLeadRoomIsWhatCyclesFillWrongFalsely : Prop := fnNewLeadRoomIsWhatCyclesFillRow.holds Try.pinned (OpenSpec.ofChange fnNewLeadRoomIsWhatCyclesFillWrong)

end Rows
end Go.Proofs.Qxb6615025a
