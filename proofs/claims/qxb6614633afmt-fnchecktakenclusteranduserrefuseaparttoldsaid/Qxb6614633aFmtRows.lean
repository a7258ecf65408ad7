/-
  No cell of these rows narrows 'for every input' (looked for: loops, veiled, ifaces, maps, wideKeys, modest, calm, conditions, laid).
  DERIVED. THE GIVEN ROWS OF THIS SEAT. 2 by the template 'for every input the law returns true; each argument reads behind the call as it read before'; 0 by the template 'total and deterministic' (their statements: Qxb6614633aFmtTotals.lean).
  GIVEN WITH THE SEED: the statements are not yours to turn. If you find one false, say at which input.
  Laid BY PROGRAM, IN A SANDBOX (cutbox-rows.mjs): the forced cells as the released guide's own fill.sh prints them over the translation 4789e72801ab7cf4… (all of the seat's roots in one cut). By AI agents, Wed Nov 11 2026. No macro, syntax, notation, axiom, sorry.
-/
import Derived.Test.Qxb6614633aFmtChecked
import GoSem.Claim
import GoSem.ClaimJoined
import GoSem.ClaimMapViews
import Derived.JoinedTies
import Derived.KernelRfl
namespace Go.Proofs.Qxb6614633aFmt
/- THE CELL 'sum', in the pinned program and in every row, IS THE sha256 OF THE DUMP (.gsa) THAT Qxb6614633aFmtProg.lean LOADS. Nothing in Lean hashes anything: it is a label: what it is worth is what the hold of that sum in a sandbox is worth. -/
noncomputable def Tryf.pinned : Pinned := { name := "qxb6614633afmt", sum := "4789e72801ab7cf43f626e54f672568d8a52f32833ac42d0bd56accdad51326d", checked := Tryf.checked }
namespace Rows
def none {H : Type} : Left H := { results := [], args := [] }

/-- 'zzlaws_kubeapi_b1.FnCheckTakenRefusesExactlySevenSettings': WHATEVER THE INPUT: true; the input reads as it did. -/
def fnCheckTakenRefusesExactlySevenSettingsSpec : ChangeSpec := { name := "fnCheckTakenRefusesExactlySevenSettings", fn := fun _ => fun
  | [d1, d2] => { results := [.lit (.bool true)], args := [d1, d2] }
  | _ => none }
def fnCheckTakenRefusesExactlySevenSettingsRow : OpenClaim := { program := "qxb6614633afmt", sum := "4789e72801ab7cf43f626e54f672568d8a52f32833ac42d0bd56accdad51326d", func := "example.com/overweave/overweave/zzlaws_kubeapi_b1.FnCheckTakenRefusesExactlySevenSettings", spec := "fnCheckTakenRefusesExactlySevenSettings", stops := ["fmt.Sprintf"], inPlace := ["internal/abi.NoEscape", "internal/bytealg.MakeNoZero", "fmt.Sprintf"], apart := false }
/-- NO THEOREM (fmt's text is open here; it may be false): for the released tool's asking of the row's closed facts alone. THE STATEMENT IS 'FnCheckTakenRefusesExactlySevenSettingsToldSaid' (Qxb6614633aFmtCards.lean). -/
def FnCheckTakenRefusesExactlySevenSettingsFormAsk : Prop := fnCheckTakenRefusesExactlySevenSettingsRow.holds Tryf.pinned (OpenSpec.ofChange fnCheckTakenRefusesExactlySevenSettingsSpec)

/-- ITS FALSE NEIGHBOUR: 'it returns false'. Refute it at one input. -/
def fnCheckTakenRefusesExactlySevenSettingsWrong : ChangeSpec := { name := "fnCheckTakenRefusesExactlySevenSettings", fn := fun _ => fun
  | [d1, d2] => { results := [.lit (.bool false)], args := [d1, d2] }
  | _ => none }
def FnCheckTakenRefusesExactlySevenSettingsWrongFormAsk : Prop := fnCheckTakenRefusesExactlySevenSettingsRow.holds Tryf.pinned (OpenSpec.ofChange fnCheckTakenRefusesExactlySevenSettingsWrong)

/-- 'zzlaws_kubeapi_b1.FnCheckTakenClusterAndUserRefuseApart': WHATEVER THE INPUT: true; the input reads as it did. -/
def fnCheckTakenClusterAndUserRefuseApartSpec : ChangeSpec := { name := "fnCheckTakenClusterAndUserRefuseApart", fn := fun _ => fun
  | [d1, d2] => { results := [.lit (.bool true)], args := [d1, d2] }
  | _ => none }
def fnCheckTakenClusterAndUserRefuseApartRow : OpenClaim := { program := "qxb6614633afmt", sum := "4789e72801ab7cf43f626e54f672568d8a52f32833ac42d0bd56accdad51326d", func := "example.com/overweave/overweave/zzlaws_kubeapi_b1.FnCheckTakenClusterAndUserRefuseApart", spec := "fnCheckTakenClusterAndUserRefuseApart", stops := ["fmt.Sprintf"], inPlace := ["internal/abi.NoEscape", "internal/bytealg.MakeNoZero", "fmt.Sprintf"], apart := false }
/-- NO THEOREM (fmt's text is open here; it may be false): for the released tool's asking of the row's closed facts alone. THE STATEMENT IS 'FnCheckTakenClusterAndUserRefuseApartToldSaid' (Qxb6614633aFmtCards.lean). -/
def FnCheckTakenClusterAndUserRefuseApartFormAsk : Prop := fnCheckTakenClusterAndUserRefuseApartRow.holds Tryf.pinned (OpenSpec.ofChange fnCheckTakenClusterAndUserRefuseApartSpec)

/-- ITS FALSE NEIGHBOUR: 'it returns false'. Refute it at one input. -/
def fnCheckTakenClusterAndUserRefuseApartWrong : ChangeSpec := { name := "fnCheckTakenClusterAndUserRefuseApart", fn := fun _ => fun
  | [d1, d2] => { results := [.lit (.bool false)], args := [d1, d2] }
  | _ => none }
def FnCheckTakenClusterAndUserRefuseApartWrongFormAsk : Prop := fnCheckTakenClusterAndUserRefuseApartRow.holds Tryf.pinned (OpenSpec.ofChange fnCheckTakenClusterAndUserRefuseApartWrong)

end Rows
end Go.Proofs.Qxb6614633aFmt
