/-
  FnLineIsOneToOneAndEndsInPath: THE TOLD ROW, THE CARD.
-/
import Derived.Test.Qxb6615812aFmtLaw
import Derived.Test.Qxb6615812aFmtCards
import Derived.ProofKit
import Derived.Carry
import Derived.OpenShut
import Derived.Stop.JoinedAt
import Derived.Stop.Texts
import Derived.Stop.JoinedTold
import Derived.SizedLaws
import Derived.SevenToldRow
namespace Go.Proofs.Qxb6615812aFmt
open Go.ChangeShapes Go.WideShapes Go.ChangeAt Go.RowKit Go.Kit
open Go.Extern.Stop Go.Stop Go.Extern

/-- A list of thirty-five cells, taken apart as the record's reading has it. -/
theorem cells_row {l : List Value} (hl : l.length = 35) (hb : ∀ i, i < 32 → ∃ x : Int, (l.drop i).take 1 = [Value.int .u8 x] ∧ (Lit.int .u8 x).wf = true) {d c : Int} {p : ByteArray}
    (h1 : (l.drop 32).take 1 = [Value.int .i64 d]) (h2 : (l.drop 33).take 1 = [Value.int .i64 c]) (h3 : (l.drop 34).take 1 = [Value.string p]) :
    ∃ ids : List Int, ids.length = 32 ∧ (∀ x ∈ ids, (Lit.int .u8 x).wf = true) ∧ l = ids.map (Value.int .u8) ++ [Value.int .i64 d, Value.int .i64 c, Value.string p] := by
  have hat : ∀ (i : Nat) (v : Value), (l.drop i).take 1 = [v] → l[i]? = some v := fun i v hv => by
    have := congrArg (fun m : List Value => m[0]?) hv
    simpa [List.getElem?_take] using this
  have hx : ∀ v ∈ l.take 32, Value.int .u8 (intOf v) = v ∧ (Lit.int .u8 (intOf v)).wf = true := fun v hv => by
    obtain ⟨i, hi, rfl⟩ := List.mem_iff_getElem.1 hv
    have hi32 : i < 32 := by rw [List.length_take] at hi; omega
    obtain ⟨x, e, wx⟩ := hb i hi32
    have e' := hat i _ e
    rw [List.getElem?_eq_getElem (by omega)] at e'
    have e2 : (l.take 32)[i] = Value.int .u8 x := by rw [List.getElem_take]; exact Option.some.inj e'
    rw [e2]
    exact ⟨rfl, wx⟩
  refine ⟨(l.take 32).map intOf, by simp [hl], fun x hxm => ?_, ?_⟩
  · obtain ⟨v, hv, rfl⟩ := List.mem_map.1 hxm
    exact (hx v hv).2
  · have e1 : ((l.take 32).map intOf).map (Value.int .u8) = l.take 32 := by
      rw [List.map_map]
      conv => rhs; rw [← List.map_id (l.take 32)]
      exact List.map_congr_left fun v hv => (hx v hv).1
    have e2 : l.drop 32 = [Value.int .i64 d, Value.int .i64 c, Value.string p] := by
      have a1 := hat 32 _ h1
      have a2 := hat 33 _ h2
      have a3 := hat 34 _ h3
      rw [List.getElem?_eq_getElem (by omega)] at a1 a2 a3
      rw [List.drop_eq_getElem_cons (by omega), List.drop_eq_getElem_cons (by omega), List.drop_eq_getElem_cons (by omega), List.drop_of_length_le (by omega)]
      rw [Option.some.inj a1, Option.some.inj a2, Option.some.inj a3]
    rw [e1, ← e2, List.take_append_drop]

/-- THE ARGUMENT, a record by value. -/
theorem open_row {H : Type} {enc : TypeId × Value → H} {W : World} {r : Reach} {b0 base : Nat} {sp : Nat → Bool} {held : Bool} {v : Value} {dd : DataW H} {ps : List MemPlace}
    (hv : Value.okWide Tryf.prog W r b0 24 v) (h : DataW.Trod enc Tryf.prog W base sp held 24 v dd ps) :
    ∃ (ids : List Int) (d c : Int) (p : ByteArray), v = .agg (rowC ids d c p) ∧ ids.length = 32 ∧ (∀ x ∈ ids, (Lit.int .u8 x).wf = true) ∧ (Lit.int .i64 d).wf = true ∧ (Lit.int .i64 c).wf = true ∧ p.size ≤ maxLen := by
  obtain ⟨cs, rfl, hsz⟩ := okWide_struct Tryf.underlying24 hv
  rw [Tryf.cells24] at hsz
  obtain ⟨fuel, hf⟩ := h
  have hf' : DataW.trod enc Tryf.prog W base sp held fuel 24 cs.toList = some (dd, ps) := hf
  obtain ⟨xs, n, _, _, _, hlen, hfld⟩ := DataW.trod_struct Tryf.underlying24 hf'
  have hlen4 : xs.length = 4 := hlen
  have g0 : DataW.trod enc Tryf.prog W base sp held n 22 ((cs.toList.drop 0).take (Tryf.prog.cellsOf 22)) = xs[0]? := hfld 0 _ rfl
  have g1 : DataW.trod enc Tryf.prog W base sp held n 3 ((cs.toList.drop 32).take (Tryf.prog.cellsOf 3)) = xs[1]? := hfld 1 _ rfl
  have g2 : DataW.trod enc Tryf.prog W base sp held n 3 ((cs.toList.drop 33).take (Tryf.prog.cellsOf 3)) = xs[2]? := hfld 2 _ rfl
  have g3 : DataW.trod enc Tryf.prog W base sp held n 9 ((cs.toList.drop 34).take (Tryf.prog.cellsOf 9)) = xs[3]? := hfld 3 _ rfl
  rw [Tryf.cells22] at g0
  rw [Tryf.cells3] at g1 g2
  rw [Tryf.cells9] at g3
  rw [List.getElem?_eq_getElem (by omega)] at g0 g1 g2 g3
  obtain ⟨d, e1, _, wd⟩ := DataW.trod_int Tryf.underlying3 g1
  obtain ⟨c, e2, _, wc⟩ := DataW.trod_int Tryf.underlying3 g2
  obtain ⟨p, e3, _, wp⟩ := DataW.trod_string Tryf.underlying9 g3
  obtain ⟨ys, m, _, _, _, hylen, hy⟩ := DataW.trod_array Tryf.underlying22 g0
  have hb : ∀ i, i < 32 → ∃ x : Int, (cs.toList.drop i).take 1 = [Value.int .u8 x] ∧ (Lit.int .u8 x).wf = true := fun i hi => by
    have g := hy i hi
    rw [Tryf.cells5, Nat.mul_one, List.getElem?_eq_getElem (by omega)] at g
    obtain ⟨x, ex, _, wx⟩ := DataW.trod_int Tryf.underlying5 g
    refine ⟨x, ?_, wx⟩
    rw [← ex, List.drop_zero, List.drop_take, List.take_take, Nat.min_eq_left (by omega)]
  obtain ⟨ids, hi, hw, he⟩ := cells_row (by rw [Array.length_toList, hsz]) hb e1 e2 e3
  refine ⟨ids, d, c, p, ?_, hi, hw, wd, wc, wp⟩
  rw [rowC, ← he]

theorem Tryf.own : ownKnob Tryf.prog.godebug = none := by kernel_rfl
theorem Tryf.laidOut : laidOutB Tryf.pinned.checked.prog = true := by kernel_rfl
theorem Tryf.stopsAre : Rows.fnLineIsOneToOneAndEndsInPathRow.stops = Tryf.pinned.checked.prog.stops := by kernel_rfl
theorem Tryf.stopKnobs : Tryf.pinned.checked.prog.stopKnobs = [] := by kernel_rfl
theorem Tryf.quiet (os : Os) : Stop.quiet Tryf.pinned.checked.prog os := by
  intro k hk
  rw [Tryf.stopKnobs] at hk
  cases hk

/-- A record for the witness: all noughts. -/
def zeroRow : Array Value := (List.replicate 32 (Value.int .u8 0) ++ [Value.int .i64 0, Value.int .i64 0, Value.string ⟨#[]⟩]).toArray

set_option maxRecDepth 100000 in
theorem line_lifted (os : Os) (started : os.Started) (H : Type) (enc : TypeId × Value → H) :
    ReturnsInTold none {} Tryf.checked os 3 .any Input.okWide ((OpenSpec.ofChange Rows.fnLineIsOneToOneAndEndsInPathSpec).preRow enc Tryf.prog Tryf.f3 [] false []) (fun F => ((OpenSpec.ofChange Rows.fnLineIsOneToOneAndEndsInPathSpec).at F).post enc Tryf.prog Tryf.f3 false true false false) (aloneAtReturn Tryf.prog) nothingAlways := by
  refine returnsInTold_of_row (C := Tryf.checked) (s := OpenSpec.ofChange Rows.fnLineIsOneToOneAndEndsInPathSpec) (by kernel_rfl) Tryf.own started (by kernel_rfl) Tryf.func3
    (OpenSpec.witness_stopped (enc := enc) (C := Tryf.checked) false ⟨#[], #[.agg zeroRow, .agg zeroRow], []⟩ 8 (by kernel_rfl) (by kernel_rfl) (by kernel_rfl) (by kernel_rfl)) ?_
  intro F W base args ds gs before _ hF hval0 hW _ _ _ _ _
  have hval : ∀ (j : Nat) t v, Tryf.f3.params[j]? = some t → args[j]? = some v → Value.okWide Tryf.prog W .any base t v := hval0
  have hW' := hW
  obtain ⟨p, q, hA0, hV, rfl, hfz, hnd⟩ := hW
  have hA : DataW.TrodAll enc Tryf.prog W 0 (fun _ => true) true Tryf.f3.params.toList args.toList ds p := hA0
  rw [Tryf.params3] at hA hval
  obtain ⟨v0, v1, d0, d1, p0, p1, rfl, rfl, rfl, h0, h1⟩ := trodAll_two hA
  obtain ⟨rfl, rfl⟩ := trodVars_none hV
  have h0k := h0
  have h1k := h1
  obtain ⟨ids, d, c, pa, rfl, hi, hw, wd, wc, wp⟩ := open_row (hval 0 24 v0 rfl rfl) h0
  obtain ⟨ids', d', c', pa', rfl, hi', hw', wd', wc', wp'⟩ := open_row (hval 1 24 v1 rfl rfl) h1
  clear hA0 hval0
  simp only [List.append_nil] at hW'
  have hlt0 : ∀ x ∈ p0, x.block < W.heap.size := fun x hx => by simpa using hW'.lt x (List.mem_append_left _ hx)
  have hlt1 : ∀ x ∈ p1, x.block < W.heap.size := fun x hx => by simpa using hW'.lt x (List.mem_append_right _ hx)
  have hr : ∀ x ∈ ids, 0 ≤ x ∧ x < 256 := fun x hx => by have := bounds_u8 (hw x hx); omega
  have hr' : ∀ x ∈ ids', 0 ≤ x ∧ x < 256 := fun x hx => by have := bounds_u8 (hw' x hx); omega
  refine (law_walk F ids ids' d c d' c' pa pa' W hF hi hw hr wd wc wp hi' hw' hr' wd' wc' wp').mono fun e W' ⟨he, hnx⟩ => ?_
  subst he
  refine ⟨_, rfl, _, _, _, [], p0 ++ p1, [], hW', ?_, ?_, rfl, hnx.frame _, fun h => by cases h⟩
  · exact trodAll_mk1 (shut_bool Tryf.underlying4 true)
  · exact trodAll_mk2 (Below.trod Tryf.laidOut (by kernel_rfl) (of_decide_eq_true (by kernel_rfl)) h0k hnx hlt0) (Below.trod Tryf.laidOut (by kernel_rfl) (of_decide_eq_true (by kernel_rfl)) h1k hnx hlt1)

theorem line_holds : Rows.FnLineIsOneToOneAndEndsInPathToldSaid :=
  Claim7.holds_of_told_any 3 Tryf.f3 _ _ [] _ _ _ (by kernel_rfl) rfl rfl rfl Tryf.laidOut (by kernel_rfl) rfl ⟨rfl, rfl, rfl, rfl, rfl, rfl, rfl⟩ rfl rfl (by kernel_rfl) (by kernel_rfl) Tryf.func3 (by kernel_rfl)
    (of_decide_eq_true (by kernel_rfl)) (of_decide_eq_true (by kernel_rfl)) Tryf.stopsAre rfl Tryf.stopKnobs.symm (by kernel_rfl)
    (by kernel_rfl) (by kernel_rfl) (by kernel_rfl) (by kernel_rfl) (by kernel_rfl) (by kernel_rfl) (by kernel_rfl) (by kernel_rfl) (by kernel_rfl) rfl (by kernel_rfl) rfl rfl
    rfl rfl
    rfl (by kernel_rfl) (by kernel_rfl) (by kernel_rfl) (by decide) (by kernel_rfl)
    (OpenClaim.moreEntering_of (by kernel_rfl) (by kernel_rfl) (by kernel_rfl) (by kernel_rfl) (by kernel_rfl) (by kernel_rfl) (by kernel_rfl) (by kernel_rfl) (by kernel_rfl) (by kernel_rfl))
    ⟨_, WideRow.started_initial, Tryf.quiet _⟩
    (fun os started _ H enc _ => line_lifted os started H enc)

#print axioms line_holds
end Go.Proofs.Qxb6615812aFmt
