/-
  DERIVED. GIVEN WITH THE SEED: THE CARDS: each row of Qxb6615812aFmtRows.lean that lists a variable, with what it lists TIED to the program's text (the seventh form; the later family's looks); each row that meets fmt, with fmt's text TOLD by the authors' own Lean function (tested against real Go, not proved from fmt's source: count such statements apart). THE CARD IS WHAT COUNTS. Prove the row's statement (the work); the ties are given (Qxb6615812aFmtTie.lean); close each card by the builder's one call (the guide's Derived/Test/ToyasCard.lean, 'card_holds'). Laid BY PROGRAM, IN A SANDBOX (cutbox-door.mjs). By AI agents, Wed Nov 11 2026. No macro, syntax, notation, axiom, sorry.
-/
import Derived.Test.Qxb6615812aFmtRows
import GoSem.ClaimSeven
namespace Go.Proofs.Qxb6615812aFmt
namespace Rows

/-- THE TOLD CARD OF 'zzlaws_internal_peer_b1.FnLineIsOneToOneAndEndsInPath'. -/
def fnLineIsOneToOneAndEndsInPathCard : Claim7 := { stood := { row := fnLineIsOneToOneAndEndsInPathRow, standIns := [], harness := (true, "74fa4ee8267c9c93179e1977c6d61c32087bc944fe742189df64510ed45bfdfb"), looks := false }, told := true, goes := false }
def FnLineIsOneToOneAndEndsInPathToldSaid : Prop := Claim7.holds Tryf.pinned (.plain (OpenSpec.ofChange fnLineIsOneToOneAndEndsInPathSpec)) fnLineIsOneToOneAndEndsInPathCard
/-- ITS FALSE NEIGHBOUR. Refute it at one input. -/
def FnLineIsOneToOneAndEndsInPathToldWrongFalsely : Prop := Claim7.holds Tryf.pinned (.plain (OpenSpec.ofChange fnLineIsOneToOneAndEndsInPathWrong)) fnLineIsOneToOneAndEndsInPathCard
end Rows
end Go.Proofs.Qxb6615812aFmt
