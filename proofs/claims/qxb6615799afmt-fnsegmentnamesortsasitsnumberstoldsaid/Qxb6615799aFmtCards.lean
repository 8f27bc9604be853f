/-
  DERIVED. GIVEN WITH THE SEED: THE CARDS: each row of Qxb6615799aFmtRows.lean that lists a variable, with what it lists TIED to the program's text (the seventh form; the later family's looks); each row that meets fmt, with fmt's text TOLD by the authors' own Lean function (tested against real Go, not proved from fmt's source: count such statements apart). THE CARD IS WHAT COUNTS. Prove the row's statement (the work); the ties are given (Qxb6615799aFmtTie.lean); close each card by the builder's one call (the guide's Derived/Test/ToyasCard.lean, 'card_holds'). Laid BY PROGRAM, IN A SANDBOX (cutbox-door.mjs). By AI agents, Wed Nov 11 2026. No macro, syntax, notation, axiom, sorry.
-/
import Derived.Test.Qxb6615799aFmtRows
import GoSem.ClaimSeven
namespace Go.Proofs.Qxb6615799aFmt
namespace Rows

/-- THE TOLD CARD OF 'zzlaws_internal_disk_b1.FnSegmentNameSortsAsItsNumbers'. -/
def fnSegmentNameSortsAsItsNumbersCard : Claim7 := { stood := { row := fnSegmentNameSortsAsItsNumbersRow, standIns := [], harness := (true, "31138162eb32d91e936889e508df1991f1412abd76c2ca7dac5c24da76576c71"), looks := false }, told := true, goes := false }
def FnSegmentNameSortsAsItsNumbersToldSaid : Prop := Claim7.holds Tryf.pinned (.plain (OpenSpec.ofChange fnSegmentNameSortsAsItsNumbersSpec)) fnSegmentNameSortsAsItsNumbersCard
/-- ITS FALSE NEIGHBOUR. Refute it at one input. -/
def FnSegmentNameSortsAsItsNumbersToldWrongFalsely : Prop := Claim7.holds Tryf.pinned (.plain (OpenSpec.ofChange fnSegmentNameSortsAsItsNumbersWrong)) fnSegmentNameSortsAsItsNumbersCard

/-- THE TOLD CARD OF 'zzlaws_internal_disk_b1.FnSegmentNameReadsBackWhateverItsBytes'. -/
def fnSegmentNameReadsBackWhateverItsBytesCard : Claim7 := { stood := { row := fnSegmentNameReadsBackWhateverItsBytesRow, standIns := [], harness := (true, "31138162eb32d91e936889e508df1991f1412abd76c2ca7dac5c24da76576c71"), looks := false }, told := true, goes := false }
def FnSegmentNameReadsBackWhateverItsBytesToldSaid : Prop := Claim7.holds Tryf.pinned (.plain (OpenSpec.ofChange fnSegmentNameReadsBackWhateverItsBytesSpec)) fnSegmentNameReadsBackWhateverItsBytesCard
/-- ITS FALSE NEIGHBOUR. Refute it at one input. -/
def FnSegmentNameReadsBackWhateverItsBytesToldWrongFalsely : Prop := Claim7.holds Tryf.pinned (.plain (OpenSpec.ofChange fnSegmentNameReadsBackWhateverItsBytesWrong)) fnSegmentNameReadsBackWhateverItsBytesCard
end Rows
end Go.Proofs.Qxb6615799aFmt
