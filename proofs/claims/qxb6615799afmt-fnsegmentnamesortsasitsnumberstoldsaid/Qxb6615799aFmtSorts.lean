/-
  FnSegmentNameSortsAsItsNumbers: THE WALK, THE TOLD ROW, THE CARD.
-/
import Derived.Test.Qxb6615799aFmtName
import Derived.Test.Qxb6615799aFmtModel
import Derived.Test.Qxb6615799aFmtCards
import Derived.ProofKit
import Derived.Carry
import Derived.OpenShut
import Derived.Stop.JoinedAt
import Derived.Stop.Texts
import Derived.Stop.JoinedTold
import Derived.SizedLaws
import Derived.SevenToldRow
namespace Go.Proofs.Qxb6615799aFmt
open Go.ChangeShapes Go.WideShapes Go.ChangeAt Go.RowKit Go.Kit
open Go.Extern.Stop Go.Stop Go.Extern

set_option maxHeartbeats 400000 in
theorem sorts_core (x y : ByteArray) (s1 f1 b1 s2 f2 b2 c d r : Int) (w : World) (hr : r = if c = 0 then d else c)
    (hc1 : Calls Tryf.prog 5 #[.int .u64 s1, .int .u64 f1, .int .i64 b1] w fun e w' => e = .returned (.string x) ∧ Below w.heap.size w w')
    (hc2 : ∀ w1, Below w.heap.size w w1 → Calls Tryf.prog 5 #[.int .u64 s2, .int .u64 f2, .int .i64 b2] w1 fun e w' => e = .returned (.string y) ∧ Below w1.heap.size w1 w')
    (hm : ∀ w1, Calls Tryf.prog 6 #[.int .u64 s1, .int .u64 f1] w1 fun e w' => e = .returned (.string x) ∧ Below w1.heap.size w1 w')
    (hs : ∀ w1, Calls Tryf.prog 7 #[.int .u64 s1, .int .u64 s2] w1 fun e w' => e = .returned (.int .i64 c) ∧ w' = w1)
    (hf : ∀ w1, Calls Tryf.prog 7 #[.int .u64 f1, .int .u64 f2] w1 fun e w' => e = .returned (.int .i64 d) ∧ w' = w1)
    (hp : ∀ w1, Calls Tryf.prog 8 #[.string x, .string y] w1 fun e w' => e = .returned (.int .i64 r) ∧ Below w1.heap.size w1 w') :
    Calls Tryf.prog 3 #[.int .u64 s1, .int .u64 f1, .int .i64 b1, .int .u64 s2, .int .u64 f2, .int .i64 b2] w fun e w' => e = .returned (.bool true) ∧ Below w.heap.size w w' := by
  by_cases h0 : c = 0
  · subst h0
    rw [if_pos rfl] at hr
    subst hr
    go_enter Tryf.func3, Tryf.ntmps3
    go_wp2_with fail
    refine hc1.mono ?_
    rintro e w1 ⟨rfl, hb1⟩
    go_wp2_with fail
    refine (hc2 w1 hb1).mono ?_
    rintro e w2 ⟨rfl, hb2⟩
    go_wp2_with fail
    refine (hm w2).mono ?_
    rintro e w3 ⟨rfl, hb3⟩
    go_wp2_with fail
    refine (hs w3).mono ?_
    rintro e w4 ⟨rfl, rfl⟩
    go_wp2_with fail
    refine (hf w4).mono ?_
    rintro e w5 ⟨rfl, rfl⟩
    go_wp2_with fail
    refine (hp w5).mono ?_
    rintro e w6 ⟨rfl, hb6⟩
    go_wp2
    go_ret
    have h13 := hb1.trans ((hb2.mono hb1.size).trans (hb3.mono (Nat.le_trans hb1.size hb2.size)))
    exact ⟨by simp, h13.trans (hb6.mono h13.size)⟩
  · rw [if_neg h0] at hr
    subst hr
    have h0' : (r == 0) = false := by simpa using h0
    go_enter Tryf.func3, Tryf.ntmps3
    go_wp2_with fail
    refine hc1.mono ?_
    rintro e w1 ⟨rfl, hb1⟩
    go_wp2_with fail
    refine (hc2 w1 hb1).mono ?_
    rintro e w2 ⟨rfl, hb2⟩
    go_wp2_with fail
    refine (hm w2).mono ?_
    rintro e w3 ⟨rfl, hb3⟩
    go_wp2_with fail
    refine (hs w3).mono ?_
    rintro e w4 ⟨rfl, rfl⟩
    go_wp2_with fail
    refine (hp w4).mono ?_
    rintro e w6 ⟨rfl, hb6⟩
    go_wp2
    go_ret
    have h13 := hb1.trans ((hb2.mono hb1.size).trans (hb3.mono (Nat.le_trans hb1.size hb2.size)))
    exact ⟨by simp, h13.trans (hb6.mono h13.size)⟩

theorem sorts_walk (F : Interp) (s1 f1 b1 s2 f2 b2 : Int) (w : World) (hF : F.told.answers w.tape) (hs1 : (Lit.int .u64 s1).wf = true) (hf1 : (Lit.int .u64 f1).wf = true) (hs2 : (Lit.int .u64 s2).wf = true) (hf2 : (Lit.int .u64 f2).wf = true) :
    Calls Tryf.prog 3 #[.int .u64 s1, .int .u64 f1, .int .i64 b1, .int .u64 s2, .int .u64 f2, .int .i64 b2] w fun e w' => e = .returned (.bool true) ∧ Below w.heap.size w w' := by
  obtain ⟨a0, a1⟩ := wf_u64 hs1
  obtain ⟨c0, c1⟩ := wf_u64 hf1
  obtain ⟨d0, d1⟩ := wf_u64 hs2
  obtain ⟨e0, e1⟩ := wf_u64 hf2
  exact sorts_core (nameS s1 f1) (nameS s2 f2) s1 f1 b1 s2 f2 b2 (cmpN s1 s2) (cmpN f1 f2) (cmpL (nameL s1 f1) (nameL s2 f2)) w (cmpL_nameL s1 f1 s2 f2 a0 a1 c0 c1 d0 d1 e0 e1)
    (seg_name F s1 f1 b1 w hF hs1 hf1) (fun w1 hb => seg_name F s2 f2 b2 w1 (by rw [hb.tape]; exact hF) hs2 hf2)
    (fun w1 => model_all s1 f1 w1 ⟨a0, a1⟩ ⟨c0, c1⟩) (fun w1 => cmpu s1 s2 w1) (fun w1 => cmpu f1 f2 w1)
    (fun w1 => cmps (nameS s1 f1) (nameS s2 f2) w1 (nameS_size _ _) (nameS_size _ _))

theorem Tryf.ownS : ownKnob Tryf.prog.godebug = none := by kernel_rfl
theorem Tryf.laidOutS : laidOutB Tryf.pinned.checked.prog = true := by kernel_rfl
theorem Tryf.stopsS : Tryf.pinned.checked.prog.stops = ["fmt.Sprintf"] := by kernel_rfl
theorem Tryf.stopKnobsS : Tryf.pinned.checked.prog.stopKnobs = [] := by kernel_rfl
theorem Tryf.quietS (os : Os) : Stop.quiet Tryf.pinned.checked.prog os := by
  intro k hk
  rw [Tryf.stopKnobsS] at hk
  cases hk

set_option maxRecDepth 100000 in
theorem sorts_lifted (os : Os) (started : os.Started) (H : Type) (enc : TypeId × Value → H) :
    ReturnsInTold none {} Tryf.checked os 3 .any Input.okWide ((OpenSpec.ofChange Rows.fnSegmentNameSortsAsItsNumbersSpec).preRow enc Tryf.prog Tryf.f3 [] false []) (fun F => ((OpenSpec.ofChange Rows.fnSegmentNameSortsAsItsNumbersSpec).at F).post enc Tryf.prog Tryf.f3 false true false false) (aloneAtReturn Tryf.prog) nothingAlways := by
  refine returnsInTold_of_row (C := Tryf.checked) (s := OpenSpec.ofChange Rows.fnSegmentNameSortsAsItsNumbersSpec) (by kernel_rfl) Tryf.ownS started (by kernel_rfl) Tryf.func3
    (OpenSpec.witness_stopped (enc := enc) (C := Tryf.checked) false ⟨#[], #[.int .u64 0, .int .u64 0, .int .i64 0, .int .u64 0, .int .u64 0, .int .i64 0], []⟩ 8 (by kernel_rfl) (by kernel_rfl) (by kernel_rfl) (by kernel_rfl)) ?_
  intro F W base args ds gs before _ hF hval0 hW _ _ _ _ _
  have hval : ∀ (j : Nat) t v, Tryf.f3.params[j]? = some t → args[j]? = some v → Value.okWide Tryf.prog W .any base t v := hval0
  have hW' := hW
  obtain ⟨p, q, hA0, hV, rfl, hfz, hnd⟩ := hW
  have hA : DataW.TrodAll enc Tryf.prog W 0 (fun _ => true) true Tryf.f3.params.toList args.toList ds p := hA0
  rw [Tryf.params3] at hA hval
  obtain ⟨v0, vs0, d0, ds0, p0, q0, hargs, rfl, rfl, h0, r0⟩ := trodAll_cons hA
  obtain ⟨v1, vs1, d1, ds1, p1, q1, rfl, rfl, rfl, h1, r1⟩ := trodAll_cons r0
  obtain ⟨v2, vs2, d2, ds2, p2, q2, rfl, rfl, rfl, h2, r2⟩ := trodAll_cons r1
  obtain ⟨v3, vs3, d3, ds3, p3, q3, rfl, rfl, rfl, h3, r3⟩ := trodAll_cons r2
  obtain ⟨v4, vs4, d4, ds4, p4, q4, rfl, rfl, rfl, h4, r4⟩ := trodAll_cons r3
  obtain ⟨v5, vs5, d5, ds5, p5, q5, rfl, rfl, rfl, h5, r5⟩ := trodAll_cons r4
  obtain ⟨rfl, rfl, rfl⟩ := trodAll_nil r5
  obtain rfl : args = #[v0, v1, v2, v3, v4, v5] := by cases args; simp_all
  obtain ⟨rfl, rfl⟩ := trodVars_none hV
  obtain ⟨s1, rfl, rfl, rfl, w0⟩ := open_int Tryf.underlying22 (hval 0 22 v0 rfl rfl) h0
  obtain ⟨f1, rfl, rfl, rfl, w1⟩ := open_int Tryf.underlying22 (hval 1 22 v1 rfl rfl) h1
  obtain ⟨b1, rfl, rfl, rfl, w2⟩ := open_int Tryf.underlying2 (hval 2 2 v2 rfl rfl) h2
  obtain ⟨s2, rfl, rfl, rfl, w3⟩ := open_int Tryf.underlying22 (hval 3 22 v3 rfl rfl) h3
  obtain ⟨f2, rfl, rfl, rfl, w4⟩ := open_int Tryf.underlying22 (hval 4 22 v4 rfl rfl) h4
  obtain ⟨b2, rfl, rfl, rfl, w5⟩ := open_int Tryf.underlying2 (hval 5 2 v5 rfl rfl) h5
  clear hA0 hval0
  simp only [List.append_nil] at hW'
  refine (sorts_walk F s1 f1 b1 s2 f2 b2 W hF w0 w1 w3 w4).mono fun e W' ⟨he, hnx⟩ => ?_
  subst he
  refine ⟨_, rfl, _, _, _, [], [], [], hW', ?_, ?_, rfl, hnx.frame _, fun h => by cases h⟩
  · exact trodAll_mk1 (shut_bool Tryf.underlying4 true)
  · exact trodAll_cons_mk (shut_int Tryf.underlying22 w0) (trodAll_cons_mk (shut_int Tryf.underlying22 w1) (trodAll_cons_mk (shut_int Tryf.underlying2 w2) (trodAll_cons_mk (shut_int Tryf.underlying22 w3) (trodAll_cons_mk (shut_int Tryf.underlying22 w4) (trodAll_cons_mk (shut_int Tryf.underlying2 w5) trodAll_mk0)))))

theorem sorts_holds : Rows.FnSegmentNameSortsAsItsNumbersToldSaid :=
  Claim7.holds_of_told_any 3 Tryf.f3 "fmt.Sprintf" [] [] _ _ _ (by kernel_rfl) rfl rfl rfl Tryf.laidOutS (by kernel_rfl) rfl ⟨rfl, rfl, rfl, rfl, rfl, rfl, rfl⟩ rfl rfl (by kernel_rfl) (by kernel_rfl) Tryf.func3 (by kernel_rfl)
    (of_decide_eq_true (by kernel_rfl)) (of_decide_eq_true (by kernel_rfl)) Tryf.stopsS.symm rfl Tryf.stopKnobsS.symm (by kernel_rfl)
    (by kernel_rfl) (by kernel_rfl) (by kernel_rfl) (by kernel_rfl) (by kernel_rfl) (by kernel_rfl) (by kernel_rfl) (by kernel_rfl) (by kernel_rfl) rfl (by kernel_rfl) rfl rfl
    rfl rfl
    rfl (by kernel_rfl) (by kernel_rfl) (by kernel_rfl) (by decide) (by kernel_rfl)
    (OpenClaim.moreEntering_of (by kernel_rfl) (by kernel_rfl) (by kernel_rfl) (by kernel_rfl) (by kernel_rfl) (by kernel_rfl) (by kernel_rfl) (by kernel_rfl) (by kernel_rfl) (by kernel_rfl))
    ⟨_, WideRow.started_initial, Tryf.quietS _⟩
    (fun os started _ H enc _ => sorts_lifted os started H enc)

#print axioms sorts_holds
end Go.Proofs.Qxb6615799aFmt
