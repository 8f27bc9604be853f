/-
  No cell of these rows narrows 'for every input' (looked for: loops, veiled, ifaces, maps, wideKeys, modest, calm, conditions, laid).
  DERIVED. THE GIVEN ROWS OF THIS SEAT. 2 by the template 'for every input the law returns true; each argument reads behind the call as it read before'; 0 by the template 'total and deterministic' (their statements: Qxb6615799aFmtTotals.lean).
  GIVEN WITH THE SEED: the statements are not yours to turn. If you find one false, say at which input.
  Laid BY PROGRAM, IN A SANDBOX (cutbox-rows.mjs): the forced cells as the released guide's own fill.sh prints them over the translation 6987063be788cac1… (all of the seat's roots in one cut). By AI agents, Wed Nov 11 2026. No macro, syntax, notation, axiom, sorry.
-/
import Derived.Test.Qxb6615799aFmtChecked
import GoSem.Claim
import GoSem.ClaimJoined
import GoSem.ClaimMapViews
import Derived.JoinedTies
import Derived.KernelRfl
namespace Go.Proofs.Qxb6615799aFmt
/- THE CELL 'sum', in the pinned program and in every row, IS THE sha256 OF THE DUMP (.gsa) THAT Qxb6615799aFmtProg.lean LOADS. Nothing in Lean hashes anything: it is a label: what it is worth is what the hold of that sum in a sandbox is worth. -/
noncomputable def Tryf.pinned : Pinned := { name := "qxb6615799afmt", sum := "6987063be788cac1df0dbc1193f28a1ec3fd4cb15801e374140650ec04475378", checked := Tryf.checked }
namespace Rows
def none {H : Type} : Left H := { results := [], args := [] }

/-- 'zzlaws_internal_disk_b1.FnSegmentNameSortsAsItsNumbers': WHATEVER THE INPUT: true; the input reads as it did. -/
def fnSegmentNameSortsAsItsNumbersSpec : ChangeSpec := { name := "fnSegmentNameSortsAsItsNumbers", fn := fun _ => fun
  | [d1, d2, d3, d4, d5, d6] => { results := [.lit (.bool true)], args := [d1, d2, d3, d4, d5, d6] }
  | _ => none }
def fnSegmentNameSortsAsItsNumbersRow : OpenClaim := { program := "qxb6615799afmt", sum := "6987063be788cac1df0dbc1193f28a1ec3fd4cb15801e374140650ec04475378", func := "example.com/attestant/attestant/zzlaws_internal_disk_b1.FnSegmentNameSortsAsItsNumbers", spec := "fnSegmentNameSortsAsItsNumbers", stops := ["fmt.Sprintf"], inPlace := ["fmt.Sprintf"], apart := false }
/-- NO THEOREM (fmt's text is open here; it may be false): for the released tool's asking of the row's closed facts alone. THE STATEMENT IS 'FnSegmentNameSortsAsItsNumbersToldSaid' (Qxb6615799aFmtCards.lean). -/
def FnSegmentNameSortsAsItsNumbersFormAsk : Prop := fnSegmentNameSortsAsItsNumbersRow.holds Tryf.pinned (OpenSpec.ofChange fnSegmentNameSortsAsItsNumbersSpec)

/-- ITS FALSE NEIGHBOUR: 'it returns false'. Refute it at one input. -/
def fnSegmentNameSortsAsItsNumbersWrong : ChangeSpec := { name := "fnSegmentNameSortsAsItsNumbers", fn := fun _ => fun
  | [d1, d2, d3, d4, d5, d6] => { results := [.lit (.bool false)], args := [d1, d2, d3, d4, d5, d6] }
  | _ => none }
def FnSegmentNameSortsAsItsNumbersWrongFormAsk : Prop := fnSegmentNameSortsAsItsNumbersRow.holds Tryf.pinned (OpenSpec.ofChange fnSegmentNameSortsAsItsNumbersWrong)

/-- 'zzlaws_internal_disk_b1.FnSegmentNameReadsBackWhateverItsBytes': WHATEVER THE INPUT: true; the input reads as it did. -/
def fnSegmentNameReadsBackWhateverItsBytesSpec : ChangeSpec := { name := "fnSegmentNameReadsBackWhateverItsBytes", fn := fun _ => fun
  | [d1, d2, d3, d4] => { results := [.lit (.bool true)], args := [d1, d2, d3, d4] }
  | _ => none }
def fnSegmentNameReadsBackWhateverItsBytesRow : OpenClaim := { program := "qxb6615799afmt", sum := "6987063be788cac1df0dbc1193f28a1ec3fd4cb15801e374140650ec04475378", func := "example.com/attestant/attestant/zzlaws_internal_disk_b1.FnSegmentNameReadsBackWhateverItsBytes", spec := "fnSegmentNameReadsBackWhateverItsBytes", stops := ["fmt.Sprintf"], inPlace := ["fmt.Sprintf"], apart := false }
/-- NO THEOREM (fmt's text is open here; it may be false): for the released tool's asking of the row's closed facts alone. THE STATEMENT IS 'FnSegmentNameReadsBackWhateverItsBytesToldSaid' (Qxb6615799aFmtCards.lean). -/
def FnSegmentNameReadsBackWhateverItsBytesFormAsk : Prop := fnSegmentNameReadsBackWhateverItsBytesRow.holds Tryf.pinned (OpenSpec.ofChange fnSegmentNameReadsBackWhateverItsBytesSpec)

/-- ITS FALSE NEIGHBOUR: 'it returns false'. Refute it at one input. -/
def fnSegmentNameReadsBackWhateverItsBytesWrong : ChangeSpec := { name := "fnSegmentNameReadsBackWhateverItsBytes", fn := fun _ => fun
  | [d1, d2, d3, d4] => { results := [.lit (.bool false)], args := [d1, d2, d3, d4] }
  | _ => none }
def FnSegmentNameReadsBackWhateverItsBytesWrongFormAsk : Prop := fnSegmentNameReadsBackWhateverItsBytesRow.holds Tryf.pinned (OpenSpec.ofChange fnSegmentNameReadsBackWhateverItsBytesWrong)

end Rows
end Go.Proofs.Qxb6615799aFmt
