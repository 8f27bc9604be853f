/-
  (wire.FileID).String and (peer.BackedUpFile).Line by their contracts.
-/
import Derived.Test.Qxb6615812aFmtFacts
import Derived.Test.Qxb6615812aFmtHex
import Derived.Test.Qxb6615812aFmtPlain
import Derived.Test.Qxb6615812aFmtRows
import Derived.WalkKit
import Derived.WalkSpells
import Derived.WalkLawsBesides
import Derived.Deep.MidRow
import Derived.Stop.Texts
import Derived.Stop.JoinedTold
import Derived.Stop.FmtTextKit
namespace Go.Proofs.Qxb6615812aFmt
open Go.RowKit Go.Extern.Stop Go.Stop Go.Extern Go.Lib

/-- The id's cells. -/
def idC (ids : List Int) : Array Value := (ids.map (Value.int .u8)).toArray

theorem idC_size {ids : List Int} (h : ids.length = 32) : (idC ids).size = 32 := by simp [idC, h]
theorem idC_at (ids : List Int) (i : Nat) (h : i < ids.length) : (idC ids)[i]? = some (.int .u8 (ids.getD i 0)) := by
  simp [idC, h, List.getD_eq_getElem?_getD]

/-- The id in hexadecimal. -/
def hexS (ids : List Int) : ByteArray := ⟨(Hx.encode (Lib.bytesOf ids)).toArray⟩

set_option maxHeartbeats 400000 in
theorem string_core (I : Array Value) (x : ByteArray) (w : World)
    (hc : Calls Tryf.prog 9 #[.slice (some ⟨w.heap.size, 0, none⟩) 32 32] (w.alloc (.cells I 26)) fun e w' => e = .returned (.string x) ∧ Below (w.heap.size + 1) (w.alloc (.cells I 26)) w') :
    Calls Tryf.prog 8 #[.agg I] w fun e w' => e = .returned (.string x) ∧ Below w.heap.size w w' := by
  go_enter Tryf.func8, Tryf.ntmps8
  go_wp2_with fail
  refine hc.mono ?_
  rintro e w1 ⟨rfl, hb⟩
  go_wp2
  go_ret
  exact ⟨rfl, ((Below.refl _ w).alloc (Nat.le_refl _) _).trans (hb.mono (by omega))⟩

theorem id_string (ids : List Int) (w : World) (h32 : ids.length = 32) (hr : ∀ x ∈ ids, 0 ≤ x ∧ x < 256) :
    Calls Tryf.prog 8 #[.agg (idC ids)] w fun e w' => e = .returned (.string (hexS ids)) ∧ Below w.heap.size w w' := by
  refine string_core (idC ids) (hexS ids) w ?_
  have hg : ∀ i, i < 32 → 0 ≤ ids.getD i 0 ∧ ids.getD i 0 < 256 := fun i hi => by
    rw [List.getD_eq_getElem?_getD, List.getElem?_eq_getElem (by omega)]
    exact hr _ (List.getElem_mem _)
  have hcell : ∀ i, i < 32 → (w.alloc (.cells (idC ids) 26)).cell? ⟨w.heap.size, i, none⟩ = some (.int .u8 (ids.getD i 0)) := fun i hi => by
    rw [cell_of_row _ _ i (idC ids) 26 (0, 0) (by show (w.heap.push _)[w.heap.size]? = _; simp), idC_at ids i (by omega)]
  have hsz : (w.alloc (.cells (idC ids) 26)).heap.size = w.heap.size + 1 := by simp
  have h := hex32 w.heap.size ids (w.alloc (.cells (idC ids) 26)) h32 hg hcell (by omega)
  rw [hsz] at h
  exact h

/-- WHAT fmt IS ASKED: the format; the id (its String() was run: what that gave); the degree; the chunks; the path. -/
def reading (x : List UInt8) (d c : Int) (p : List UInt8) : List (List UInt8) :=
  [[102, 105, 108, 101, 32, 37, 115, 32, 100, 101, 103, 114, 101, 101, 32, 37, 100, 32, 99, 104, 117, 110, 107, 115, 32, 37, 100, 32, 112, 97, 116, 104, 32, 37, 115],
   20 :: 0 :: FmtStop.pack "wire.FileID".toByteArray.data.toList, x, Tryf.shape3, digits 8 (d % 18446744073709551616).toNat, Tryf.shape3, digits 8 (c % 18446744073709551616).toNat, Tryf.shape9, FmtStop.pack p]

theorem Tryf.size26 : (Tryf.prog.info? 26).map (·.size) = some 32 := by kernel_rfl

set_option maxHeartbeats 400000 in
theorem line_core (F : Interp) (A I : Array Value) (d c : Int) (p x : ByteArray) (w : World) (hF : F.answers w.tape)
    (h32 : A[32]? = some (.int .i64 d)) (h33 : A[33]? = some (.int .i64 c)) (h34 : A[34]? = some (.string p)) (hr : Hid ((w.alloc (.cells A 28)).rangeAt w.heap.size 0 I.toList)) (hI : Hid (I.toList.length = 32))
    (hs : Hid (∀ w1, Calls Tryf.prog 8 #[.agg I] w1 fun e w' => e = .returned (.string x) ∧ Below w1.heap.size w1 w')) :
    Calls Tryf.prog 6 #[.agg A] w fun e w' => e = .returned (.string (FmtStop.textOf (F "fmt.Sprintf" (reading x.data.toList d c p.data.toList) 0))) ∧ Below w.heap.size w w' := by
  have hF' := answers_open hF
  go_enter Tryf.func6, Tryf.ntmps6
  go_wp2_with (refine wpList_load_mid rfl 26 (.tmp 3) rfl w.heap.size 0 rfl I.toList _ hr.out Tryf.underlying26 rfl (by rw [hI.out]; exact Tryf.size26) ?_)
  apply rows_call Tryf.nextTurns
  case hr =>
    go_simp
    exact ⟨⟨rfl, rfl, rfl⟩, rfl⟩
  case hi => exact Tryf.invokeString26 _ _
  case hc =>
    refine (hs.out _).mono fun e w₃ ⟨he, hx⟩ => ?_
    subst he
    have hF3 := answers_open (show F.answers w₃.tape by rw [hx.tape]; exact hF)
    have hcell : ∀ j, w₃.cell? ⟨w.heap.size + 1, j, none⟩ = #[Value.iface 26 (.agg I), .iface 3 (.int .i64 d), .iface 3 (.int .i64 c), .iface 9 (.string p)][j]? := fun j => by
      rw [hx.cell (p := ⟨w.heap.size + 1, j, none⟩) (by simp)]
      exact cell_of_row _ _ j _ 20 (0, 0) (by show ((w.heap.push _).push _)[w.heap.size + 1]? = _; rw [Array.getElem?_push, if_pos (by simp)])
    have hc0 := hcell 0
    have hc1 := hcell 1
    have hc2 := hcell 2
    have hc3 := hcell 3
    clear hcell
    simp at hc0 hc1 hc2 hc3
    apply rows_value Tryf.nextReturned
    case hr =>
      go_simp
      exact ⟨rfl, rfl⟩
    case h =>
      go_wp2
      go_ret
      have h2 : Below w.heap.size w ((w.alloc (.cells A 28)).alloc (.cells #[Value.iface 26 (.agg I), .iface 3 (.int .i64 d), .iface 3 (.int .i64 c), .iface 9 (.string p)] 20)) := ((Below.refl _ w).alloc (Nat.le_refl _) _).alloc (by simp) _
      exact ⟨rfl, (h2.trans (hx.mono h2.size)).drew⟩

/-! ### The text -/
theorem t_parse : (FmtText.parse [102, 105, 108, 101, 32, 37, 115, 32, 100, 101, 103, 114, 101, 101, 32, 37, 100, 32, 99, 104, 117, 110, 107, 115, 32, 37, 100, 32, 112, 97, 116, 104, 32, 37, 115]).map FmtText.glue = some [.lit [102, 105, 108, 101, 32], .verb {} 115, .lit [32, 100, 101, 103, 114, 101, 101, 32], .verb {} 100, .lit [32, 99, 104, 117, 110, 107, 115, 32], .verb {} 100, .lit [32, 112, 97, 116, 104, 32], .verb {} 115] := by rfl

theorem t_text (x : List UInt8) (d c : Int) (p : List UInt8) (hd : (Lit.int .i64 d).wf = true) (hc : (Lit.int .i64 c).wf = true) (hp : p.length < 2 ^ 64) : FmtText.text "fmt.Sprintf" (reading x d c p) = some (lineL x d c p) := by
  have hl : FmtText.unpack (FmtStop.pack "wire.FileID".toByteArray.data.toList) = some "wire.FileID".toByteArray.data.toList := FmtText.unpack_pack _ (by decide)
  have h0 : FmtText.operand (20 :: 0 :: FmtStop.pack "wire.FileID".toByteArray.data.toList) x = some (.said "wire.FileID".toByteArray.data.toList false false x) := FmtText.operand_stringer hl false x
  have h1 := FmtText.operand_int_at (sh := Tryf.shape3) (k := .i64) rfl rfl d hd
  have h2 := FmtText.operand_int_at (sh := Tryf.shape3) (k := .i64) rfl rfl c hc
  have h3 := FmtText.operand_str_at (sh := Tryf.shape9) rfl rfl p hp
  rw [reading, FmtText.text_sprintf_glued t_parse (FmtText.operands_cons h0 (FmtText.operands_cons h1 (FmtText.operands_cons h2 (FmtText.operands_cons h3 FmtText.operands_nil))))]
  simp [FmtText.render, FmtText.printArg_s_said, FmtText.printArg_s_str, FmtText.printArg_d _ _ hd, FmtText.printArg_d _ _ hc, lineL, tailL]

end Go.Proofs.Qxb6615812aFmt
