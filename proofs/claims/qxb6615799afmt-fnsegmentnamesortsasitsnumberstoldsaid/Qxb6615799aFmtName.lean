/-
  THE NAME's CONTRACT: disk.ZZsegmentName hands back "log-", sixteen hex digits, '-', sixteen hex digits, whatever the byte count (fmt's text TOLD).
-/
import Derived.Test.Qxb6615799aFmtFacts
import Derived.Test.Qxb6615799aFmtPlain
import Derived.Test.Qxb6615799aFmtRows
import Derived.WalkKit
import Derived.WalkSpells
import Derived.Stop.Texts
import Derived.Stop.JoinedTold
import Derived.Stop.FmtTextKit
namespace Go.Proofs.Qxb6615799aFmt
open Go.RowKit Go.Extern.Stop Go.Stop Go.Extern Go.Kit

/-- WHAT fmt IS ASKED. -/
def reading (s f : Int) : List (List UInt8) :=
  [[108, 111, 103, 45, 37, 48, 49, 54, 120, 45, 37, 48, 49, 54, 120], Tryf.shape22, digits 8 (s % 18446744073709551616).toNat, Tryf.shape22, digits 8 (f % 18446744073709551616).toNat]

theorem t_parse : (FmtText.parse [108, 111, 103, 45, 37, 48, 49, 54, 120, 45, 37, 48, 49, 54, 120]).map FmtText.glue = some [.lit [108, 111, 103, 45], .verb { widPresent := true, wid := 16, zero := true } 120, .lit [45], .verb { widPresent := true, wid := 16, zero := true } 120] := by rfl

theorem wf_u64 {x : Int} (h : (Lit.int .u64 x).wf = true) : 0 ≤ x ∧ x < 18446744073709551616 := by
  obtain ⟨_, b, _, d⟩ := FmtText.int_bounds64 h
  have := d rfl
  omega

theorem t_text (s f : Int) (hs : (Lit.int .u64 s).wf = true) (hf : (Lit.int .u64 f).wf = true) : FmtText.text "fmt.Sprintf" (reading s f) = some (nameL s f) := by
  have h0 := FmtText.operand_int_at (sh := Tryf.shape22) (k := .u64) rfl rfl s hs
  have h1 := FmtText.operand_int_at (sh := Tryf.shape22) (k := .u64) rfl rfl f hf
  rw [reading, FmtText.text_sprintf_glued t_parse (FmtText.operands_cons h0 (FmtText.operands_cons h1 FmtText.operands_nil))]
  have p0 := FmtText.printArg_x_zero (wrap := false) (sharp := false) 16 (name := [117, 105, 110, 116, 54, 52]) hs
  have p1 := FmtText.printArg_x_zero (wrap := false) (sharp := false) 16 (name := [117, 105, 110, 116, 54, 52]) hf
  obtain ⟨a0, a1⟩ := wf_u64 hs
  obtain ⟨b0, b1⟩ := wf_u64 hf
  rw [hexZeros_hexK s a0 a1] at p0
  rw [hexZeros_hexK f b0 b1] at p1
  simp [FmtText.render, p0, p1, nameL]

theorem told_name (F : Interp) (s f : Int) (hs : (Lit.int .u64 s).wf = true) (hf : (Lit.int .u64 f).wf = true) : FmtStop.textOf (F.told "fmt.Sprintf" (reading s f) 0) = nameS s f := by
  have ht := told_string F (t_text s f hs hf) (by rw [nameL_length]; decide)
  rw [← textOf_list] at ht
  rw [nameS, ← ht]

set_option maxHeartbeats 400000 in
theorem name_all (F : Interp) (s f b : Int) (w : World) (hF : F.answers w.tape) :
    Calls Tryf.prog 10 #[.agg #[.int .u64 s, .int .u64 f, .int .i64 b]] w fun e w' => e = .returned (.string (FmtStop.textOf (F "fmt.Sprintf" (reading s f) 0))) ∧ Below w.heap.size w w' := by
  have hF' := answers_open hF
  go_enter Tryf.func10, Tryf.ntmps10
  go_wp2
  go_ret
  exact ⟨rfl, (((Below.refl _ w).alloc (Nat.le_refl _) _).alloc (by simp) _).drew⟩

set_option maxHeartbeats 400000 in
theorem seg_name (F : Interp) (s f b : Int) (w : World) (hF : F.told.answers w.tape) (hs : (Lit.int .u64 s).wf = true) (hf : (Lit.int .u64 f).wf = true) :
    Calls Tryf.prog 5 #[.int .u64 s, .int .u64 f, .int .i64 b] w fun e w' => e = .returned (.string (nameS s f)) ∧ Below w.heap.size w w' := by
  have hc := name_all F.told s f b w hF
  rw [told_name F s f hs hf] at hc
  go_enter Tryf.func5, Tryf.ntmps5
  go_wp2_with fail
  refine hc.mono ?_
  rintro e w1 ⟨rfl, hb⟩
  go_wp2
  go_ret
  exact ⟨rfl, hb⟩

end Go.Proofs.Qxb6615799aFmt
