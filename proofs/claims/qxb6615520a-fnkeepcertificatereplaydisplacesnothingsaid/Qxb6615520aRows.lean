/-
  No cell of these rows narrows 'for every input' (looked for: loops, veiled, ifaces, maps, wideKeys, modest, calm, conditions, laid).
  DERIVED. THE GIVEN ROWS OF THIS SEAT. 2 by the template 'for every input the law returns true; each argument reads behind the call as it read before'; 0 by the template 'total and deterministic' (their statements: Qxb6615520aTotals.lean).
  GIVEN WITH THE SEED: the statements are not yours to turn. If you find one false, say at which input.
  Laid BY PROGRAM, IN A SANDBOX (cutbox-rows.mjs): the forced cells as the released guide's own fill.sh prints them over the translation 4cfdfc19f80171c5… (all of the seat's roots in one cut). By AI agents, Wed Nov 11 2026. No macro, syntax, notation, axiom, sorry.
-/
import Derived.Test.Qxb6615520aChecked
import GoSem.Claim
import GoSem.ClaimJoined
import GoSem.ClaimMapViews
import Derived.JoinedTies
import Derived.KernelRfl
namespace Go.Proofs.Qxb6615520a
/- THE CELL 'sum', in the pinned program and in every row, IS THE sha256 OF THE DUMP (.gsa) THAT Qxb6615520aProg.lean LOADS. Nothing in Lean hashes anything: it is a label: what it is worth is what the hold of that sum in a sandbox is worth. -/
noncomputable def Try.pinned : Pinned := { name := "qxb6615520a", sum := "4cfdfc19f80171c500d21e7b6df77958297cd3382ddafd7361b2e0ff89e5e4a6", checked := Try.checked }
namespace Rows
def none {H : Type} : Left H := { results := [], args := [] }

/-- 'zzlaws_internal_pbft_b1.FnKeepCertificateKeepsFirstOfLatestView': WHATEVER THE INPUT: true; the input reads as it did. -/
def fnKeepCertificateKeepsFirstOfLatestViewSpec : ChangeSpec := { name := "fnKeepCertificateKeepsFirstOfLatestView", fn := fun _ => fun
  | [d1, d2, d3] => { results := [.lit (.bool true)], args := [d1, d2, d3] }
  | _ => none }
def fnKeepCertificateKeepsFirstOfLatestViewRow : OpenClaim := { program := "qxb6615520a", sum := "4cfdfc19f80171c500d21e7b6df77958297cd3382ddafd7361b2e0ff89e5e4a6", func := "example.com/quorale/quorale/zzlaws_internal_pbft_b1.FnKeepCertificateKeepsFirstOfLatestView", spec := "fnKeepCertificateKeepsFirstOfLatestView", plainKeys := false, apart := false }
def FnKeepCertificateKeepsFirstOfLatestViewSaid : Prop := fnKeepCertificateKeepsFirstOfLatestViewRow.holds Try.pinned (OpenSpec.ofChange fnKeepCertificateKeepsFirstOfLatestViewSpec)

/-- ITS FALSE NEIGHBOUR: 'it returns false'. Refute it at one input. -/
def fnKeepCertificateKeepsFirstOfLatestViewWrong : ChangeSpec := { name := "fnKeepCertificateKeepsFirstOfLatestView", fn := fun _ => fun
  | [d1, d2, d3] => { results := [.lit (.bool false)], args := [d1, d2, d3] }
  | _ => none }
def FnKeepCertificateKeepsFirstOfLatestViewWrongFalsely : Prop := fnKeepCertificateKeepsFirstOfLatestViewRow.holds Try.pinned (OpenSpec.ofChange fnKeepCertificateKeepsFirstOfLatestViewWrong)

/-- 'zzlaws_internal_pbft_b1.FnKeepCertificateReplayDisplacesNothing': WHATEVER THE INPUT: true; the input reads as it did. -/
def fnKeepCertificateReplayDisplacesNothingSpec : ChangeSpec := { name := "fnKeepCertificateReplayDisplacesNothing", fn := fun _ => fun
  | [d1, d2] => { results := [.lit (.bool true)], args := [d1, d2] }
  | _ => none }
def fnKeepCertificateReplayDisplacesNothingRow : OpenClaim := { program := "qxb6615520a", sum := "4cfdfc19f80171c500d21e7b6df77958297cd3382ddafd7361b2e0ff89e5e4a6", func := "example.com/quorale/quorale/zzlaws_internal_pbft_b1.FnKeepCertificateReplayDisplacesNothing", spec := "fnKeepCertificateReplayDisplacesNothing", plainKeys := false, apart := false }
def FnKeepCertificateReplayDisplacesNothingSaid : Prop := fnKeepCertificateReplayDisplacesNothingRow.holds Try.pinned (OpenSpec.ofChange fnKeepCertificateReplayDisplacesNothingSpec)

/-- ITS FALSE NEIGHBOUR: 'it returns false'. Refute it at one input. -/
def fnKeepCertificateReplayDisplacesNothingWrong : ChangeSpec := { name := "fnKeepCertificateReplayDisplacesNothing", fn := fun _ => fun
  | [d1, d2] => { results := [.lit (.bool false)], args := [d1, d2] }
  | _ => none }
def FnKeepCertificateReplayDisplacesNothingWrongFalsely : Prop := fnKeepCertificateReplayDisplacesNothingRow.holds Try.pinned (OpenSpec.ofChange fnKeepCertificateReplayDisplacesNothingWrong)

end Rows
end Go.Proofs.Qxb6615520a
