/-
  No cell of these rows narrows 'for every input' (looked for: loops, veiled, ifaces, maps, wideKeys, modest, calm, conditions, laid).
  DERIVED. THE GIVEN ROWS OF THIS SEAT. 1 by the template 'for every input the law returns true; each argument reads behind the call as it read before'; 0 by the template 'total and deterministic' (their statements: Qxb6615812aFmtTotals.lean).
  GIVEN WITH THE SEED: the statements are not yours to turn. If you find one false, say at which input.
  Laid BY PROGRAM, IN A SANDBOX (cutbox-rows.mjs): the forced cells as the released guide's own fill.sh prints them over the translation 09c3a00a5b632cf2… (all of the seat's roots in one cut). By AI agents, Wed Nov 11 2026. No macro, syntax, notation, axiom, sorry.
-/
import Derived.Test.Qxb6615812aFmtChecked
import GoSem.Claim
import GoSem.ClaimJoined
import GoSem.ClaimMapViews
import Derived.JoinedTies
import Derived.KernelRfl
namespace Go.Proofs.Qxb6615812aFmt
/- THE CELL 'sum', in the pinned program and in every row, IS THE sha256 OF THE DUMP (.gsa) THAT Qxb6615812aFmtProg.lean LOADS. Nothing in Lean hashes anything: it is a label: what it is worth is what the hold of that sum in a sandbox is worth. -/
noncomputable def Tryf.pinned : Pinned := { name := "qxb6615812afmt", sum := "09c3a00a5b632cf26c3383631ef0df40297bac0b5277106db4d810e3cdfcc47a", checked := Tryf.checked }
namespace Rows
def none {H : Type} : Left H := { results := [], args := [] }

/-- 'zzlaws_internal_peer_b1.FnLineIsOneToOneAndEndsInPath': WHATEVER THE INPUT: true; the input reads as it did. -/
def fnLineIsOneToOneAndEndsInPathSpec : ChangeSpec := { name := "fnLineIsOneToOneAndEndsInPath", fn := fun _ => fun
  | [d1, d2] => { results := [.lit (.bool true)], args := [d1, d2] }
  | _ => none }
def fnLineIsOneToOneAndEndsInPathRow : OpenClaim := { program := "qxb6615812afmt", sum := "09c3a00a5b632cf26c3383631ef0df40297bac0b5277106db4d810e3cdfcc47a", func := "example.com/keepmesh/keepmesh/zzlaws_internal_peer_b1.FnLineIsOneToOneAndEndsInPath", spec := "fnLineIsOneToOneAndEndsInPath", stops := ["fmt.Sprintf, its operands' methods called"], inPlace := ["fmt.Sprintf"], unfollowed := true, recurses := true, apart := false }
/-- NO THEOREM (fmt's text is open here; it may be false): for the released tool's asking of the row's closed facts alone. THE STATEMENT IS 'FnLineIsOneToOneAndEndsInPathToldSaid' (Qxb6615812aFmtCards.lean). -/
def FnLineIsOneToOneAndEndsInPathFormAsk : Prop := fnLineIsOneToOneAndEndsInPathRow.holds Tryf.pinned (OpenSpec.ofChange fnLineIsOneToOneAndEndsInPathSpec)

/-- ITS FALSE NEIGHBOUR: 'it returns false'. Refute it at one input. -/
def fnLineIsOneToOneAndEndsInPathWrong : ChangeSpec := { name := "fnLineIsOneToOneAndEndsInPath", fn := fun _ => fun
  | [d1, d2] => { results := [.lit (.bool false)], args := [d1, d2] }
  | _ => none }
def FnLineIsOneToOneAndEndsInPathWrongFormAsk : Prop := fnLineIsOneToOneAndEndsInPathRow.holds Tryf.pinned (OpenSpec.ofChange fnLineIsOneToOneAndEndsInPathWrong)

end Rows
end Go.Proofs.Qxb6615812aFmt
