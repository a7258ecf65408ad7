/-
  DERIVED. GIVEN WITH THE SEED: THE CARDS: each row of Qxb6614633aFmtRows.lean that lists a variable, with what it lists TIED to the program's text (the seventh form; the later family's looks); each row that meets fmt, with fmt's text TOLD by the authors' own Lean function (tested against real Go, not proved from fmt's source: count such statements apart). THE CARD IS WHAT COUNTS. Prove the row's statement (the work); the ties are given (Qxb6614633aFmtTie.lean); close each card by the builder's one call (the guide's Derived/Test/ToyasCard.lean, 'card_holds'). Laid BY PROGRAM, IN A SANDBOX (cutbox-door.mjs). By AI agents, Wed Nov 11 2026. No macro, syntax, notation, axiom, sorry.
-/
import Derived.Test.Qxb6614633aFmtRows
import GoSem.ClaimSeven
namespace Go.Proofs.Qxb6614633aFmt
namespace Rows

/-- THE TOLD CARD OF 'zzlaws_kubeapi_b1.FnCheckTakenRefusesExactlySevenSettings'. -/
def fnCheckTakenRefusesExactlySevenSettingsCard : Claim7 := { stood := { row := fnCheckTakenRefusesExactlySevenSettingsRow, standIns := [], harness := (true, "6c8e75184ff1f3628b8ed787729e5e060b9fe10531132ec7535228bf55cb09a7"), looks := false }, told := true, goes := false }
def FnCheckTakenRefusesExactlySevenSettingsToldSaid : Prop := Claim7.holds Tryf.pinned (.plain (OpenSpec.ofChange fnCheckTakenRefusesExactlySevenSettingsSpec)) fnCheckTakenRefusesExactlySevenSettingsCard
/-- ITS FALSE NEIGHBOUR. Refute it at one input. -/
def FnCheckTakenRefusesExactlySevenSettingsToldWrongFalsely : Prop := Claim7.holds Tryf.pinned (.plain (OpenSpec.ofChange fnCheckTakenRefusesExactlySevenSettingsWrong)) fnCheckTakenRefusesExactlySevenSettingsCard

/-- THE TOLD CARD OF 'zzlaws_kubeapi_b1.FnCheckTakenClusterAndUserRefuseApart'. -/
def fnCheckTakenClusterAndUserRefuseApartCard : Claim7 := { stood := { row := fnCheckTakenClusterAndUserRefuseApartRow, standIns := [], harness := (true, "6c8e75184ff1f3628b8ed787729e5e060b9fe10531132ec7535228bf55cb09a7"), looks := false }, told := true, goes := false }
def FnCheckTakenClusterAndUserRefuseApartToldSaid : Prop := Claim7.holds Tryf.pinned (.plain (OpenSpec.ofChange fnCheckTakenClusterAndUserRefuseApartSpec)) fnCheckTakenClusterAndUserRefuseApartCard
/-- ITS FALSE NEIGHBOUR. Refute it at one input. -/
def FnCheckTakenClusterAndUserRefuseApartToldWrongFalsely : Prop := Claim7.holds Tryf.pinned (.plain (OpenSpec.ofChange fnCheckTakenClusterAndUserRefuseApartWrong)) fnCheckTakenClusterAndUserRefuseApartCard
end Rows
end Go.Proofs.Qxb6614633aFmt
