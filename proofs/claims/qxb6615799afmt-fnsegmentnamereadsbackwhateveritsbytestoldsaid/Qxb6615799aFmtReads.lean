/-
  FnSegmentNameReadsBackWhateverItsBytes: THE WALK, THE TOLD ROW, THE CARD.
-/
import Derived.Test.Qxb6615799aFmtName
import Derived.Test.Qxb6615799aFmtParse
import Derived.Test.Qxb6615799aFmtCards
import Derived.ProofKit
import Derived.Carry
import Derived.Stop.JoinedAt
import Derived.Stop.Texts
import Derived.Stop.JoinedTold
import Derived.SizedLaws
import Derived.SevenToldRow
namespace Go.Proofs.Qxb6615799aFmt
open Go.ChangeShapes Go.WideShapes Go.ChangeAt Go.RowKit Go.Kit
open Go.Extern.Stop Go.Stop Go.Extern

set_option maxHeartbeats 400000 in
theorem reads_core (x : ByteArray) (s f b1 b2 : Int) (w : World)
    (hc1 : Calls Tryf.prog 5 #[.int .u64 s, .int .u64 f, .int .i64 b1] w fun e w' => e = .returned (.string x) ∧ Below w.heap.size w w')
    (hc2 : ∀ w1, Below w.heap.size w w1 → Calls Tryf.prog 5 #[.int .u64 s, .int .u64 f, .int .i64 b2] w1 fun e w' => e = .returned (.string x) ∧ Below w1.heap.size w1 w')
    (hp : ∀ w1, Calls Tryf.prog 9 #[.string x] w1 fun e w' => e = .returned (.tuple #[.int .u64 s, .int .u64 f, .bool true]) ∧ w' = w1) :
    Calls Tryf.prog 4 #[.int .u64 s, .int .u64 f, .int .i64 b1, .int .i64 b2] w fun e w' => e = .returned (.bool true) ∧ Below w.heap.size w w' := by
  go_enter Tryf.func4, Tryf.ntmps4
  go_wp2_with fail
  refine hc1.mono ?_
  rintro e w1 ⟨rfl, hb1⟩
  go_wp2_with fail
  refine (hc2 w1 hb1).mono ?_
  rintro e w2 ⟨rfl, hb2⟩
  go_wp2_with fail
  refine (hp w2).mono ?_
  rintro e w3 ⟨rfl, rfl⟩
  go_wp2
  go_ret
  exact ⟨rfl, hb1.trans (hb2.mono hb1.size)⟩

theorem reads_walk (F : Interp) (s f b1 b2 : Int) (w : World) (hF : F.told.answers w.tape) (hs : (Lit.int .u64 s).wf = true) (hf : (Lit.int .u64 f).wf = true) :
    Calls Tryf.prog 4 #[.int .u64 s, .int .u64 f, .int .i64 b1, .int .i64 b2] w fun e w' => e = .returned (.bool true) ∧ Below w.heap.size w w' :=
  reads_core (nameS s f) s f b1 b2 w (seg_name F s f b1 w hF hs hf) (fun w1 hb => seg_name F s f b2 w1 (by rw [hb.tape]; exact hF) hs hf) (fun w1 => parse_name s f w1 (wf_u64 hs) (wf_u64 hf))

theorem Tryf.own : ownKnob Tryf.prog.godebug = none := by kernel_rfl
theorem Tryf.laidOut : laidOutB Tryf.pinned.checked.prog = true := by kernel_rfl
theorem Tryf.stops : Tryf.pinned.checked.prog.stops = ["fmt.Sprintf"] := by kernel_rfl
theorem Tryf.stopKnobs : Tryf.pinned.checked.prog.stopKnobs = [] := by kernel_rfl
theorem Tryf.quiet (os : Os) : Stop.quiet Tryf.pinned.checked.prog os := by
  intro k hk
  rw [Tryf.stopKnobs] at hk
  cases hk

set_option maxRecDepth 100000 in
theorem reads_lifted (os : Os) (started : os.Started) (H : Type) (enc : TypeId × Value → H) :
    ReturnsInTold none {} Tryf.checked os 4 .any Input.okWide ((OpenSpec.ofChange Rows.fnSegmentNameReadsBackWhateverItsBytesSpec).preRow enc Tryf.prog Tryf.f4 [] false []) (fun F => ((OpenSpec.ofChange Rows.fnSegmentNameReadsBackWhateverItsBytesSpec).at F).post enc Tryf.prog Tryf.f4 false true false false) (aloneAtReturn Tryf.prog) nothingAlways := by
  refine returnsInTold_of_row (C := Tryf.checked) (s := OpenSpec.ofChange Rows.fnSegmentNameReadsBackWhateverItsBytesSpec) (by kernel_rfl) Tryf.own started (by kernel_rfl) Tryf.func4
    (OpenSpec.witness_stopped (enc := enc) (C := Tryf.checked) false ⟨#[], #[.int .u64 0, .int .u64 0, .int .i64 0, .int .i64 0], []⟩ 8 (by kernel_rfl) (by kernel_rfl) (by kernel_rfl) (by kernel_rfl)) ?_
  intro F W base args ds gs before _ hF hval0 hW _ _ _ _ _
  have hval : ∀ (j : Nat) t v, Tryf.f4.params[j]? = some t → args[j]? = some v → Value.okWide Tryf.prog W .any base t v := hval0
  have hW' := hW
  obtain ⟨p, q, hA0, hV, rfl, hfz, hnd⟩ := hW
  have hA : DataW.TrodAll enc Tryf.prog W 0 (fun _ => true) true Tryf.f4.params.toList args.toList ds p := hA0
  rw [Tryf.params4] at hA hval
  obtain ⟨v0, v1, v2, v3, d0, d1, d2, d3, p0, p1, p2, p3, rfl, rfl, rfl, h0, h1, h2, h3⟩ := trodAll_four hA
  obtain ⟨rfl, rfl⟩ := trodVars_none hV
  obtain ⟨s, rfl, rfl, rfl, ws⟩ := open_int Tryf.underlying22 (hval 0 22 v0 rfl rfl) h0
  obtain ⟨f, rfl, rfl, rfl, wf⟩ := open_int Tryf.underlying22 (hval 1 22 v1 rfl rfl) h1
  obtain ⟨b1, rfl, rfl, rfl, wb1⟩ := open_int Tryf.underlying2 (hval 2 2 v2 rfl rfl) h2
  obtain ⟨b2, rfl, rfl, rfl, wb2⟩ := open_int Tryf.underlying2 (hval 3 2 v3 rfl rfl) h3
  clear hA0 hval0
  refine (reads_walk F s f b1 b2 W hF ws wf).mono fun e W' ⟨he, hnx⟩ => ?_
  subst he
  refine ⟨_, rfl, _, _, _, [], [], [], hW', ?_, ?_, rfl, hnx.frame _, fun h => by cases h⟩
  · exact trodAll_mk1 (shut_bool Tryf.underlying4 true)
  · exact trodAll_mk4 (shut_int Tryf.underlying22 ws) (shut_int Tryf.underlying22 wf) (shut_int Tryf.underlying2 wb1) (shut_int Tryf.underlying2 wb2)

theorem reads_back_holds : Rows.FnSegmentNameReadsBackWhateverItsBytesToldSaid :=
  Claim7.holds_of_told_any 4 Tryf.f4 "fmt.Sprintf" [] [] _ _ _ (by kernel_rfl) rfl rfl rfl Tryf.laidOut (by kernel_rfl) rfl ⟨rfl, rfl, rfl, rfl, rfl, rfl, rfl⟩ rfl rfl (by kernel_rfl) (by kernel_rfl) Tryf.func4 (by kernel_rfl)
    (of_decide_eq_true (by kernel_rfl)) (of_decide_eq_true (by kernel_rfl)) Tryf.stops.symm rfl Tryf.stopKnobs.symm (by kernel_rfl)
    (by kernel_rfl) (by kernel_rfl) (by kernel_rfl) (by kernel_rfl) (by kernel_rfl) (by kernel_rfl) (by kernel_rfl) (by kernel_rfl) (by kernel_rfl) rfl (by kernel_rfl) rfl rfl
    rfl rfl
    rfl (by kernel_rfl) (by kernel_rfl) (by kernel_rfl) (by decide) (by kernel_rfl)
    (OpenClaim.moreEntering_of (by kernel_rfl) (by kernel_rfl) (by kernel_rfl) (by kernel_rfl) (by kernel_rfl) (by kernel_rfl) (by kernel_rfl) (by kernel_rfl) (by kernel_rfl) (by kernel_rfl))
    ⟨_, WideRow.started_initial, Tryf.quiet _⟩
    (fun os started _ H enc _ => reads_lifted os started H enc)

#print axioms reads_back_holds
end Go.Proofs.Qxb6615799aFmt
