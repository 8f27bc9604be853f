/-
  encoding/hex's three functions AT THIS DUMP (10: EncodedLen, 11: Encode, 9: EncodeToString), AT THE THIRTY-TWO BYTES OF AN ID: the library's own Go text is walked. What they compute is named by the kit's plain function 'Hx.encode'.
-/
import Derived.Test.Qxb6615812aFmtProg
import Derived.WalkKit
import Derived.WalkSpells
import Derived.Deep.OwnRows
import Derived.Laws.BytesArg
import Derived.Lib.HexFns
namespace Go.Proofs.Qxb6615812aFmt
open Go.RowKit Go.Lib

/-- The sixty-four digits as numbers. -/
def digs (ids : List Int) : List Int := (Hx.encode (Lib.bytesOf ids)).map fun c => (c.toNat : Int)

theorem digs_length {ids : List Int} (h : ids.length = 32) : (digs ids).length = 64 := by
  rw [digs, List.length_map, Hx.encode_length, Lib.bytesOf_length, h]

/-- What dst holds when m digits have been written. -/
def part64 (ids : List Int) (m j : Nat) : Value := .int .u8 (if j < m then (digs ids).getD j 0 else 0)

theorem part64_zero (ids : List Int) (j : Nat) : Value.int .u8 0 = part64 ids 0 j := by simp [part64]

theorem part64_step (ids : List Int) (m j : Nat) (x : Int) (hx : x = (digs ids).getD m 0) : (if j = m then Value.int .u8 x else part64 ids m j) = part64 ids (m + 1) j := by
  subst hx
  unfold part64
  by_cases h1 : j = m
  · subst h1
    rw [if_pos rfl, if_pos (Nat.lt_succ_self j)]
  · rw [if_neg h1]
    by_cases h2 : j < m
    · rw [if_pos h2, if_pos (by omega)]
    · rw [if_neg h2, if_neg (by omega)]

/-- The two digits of byte k, as the walk reads them out of the table. -/
theorem digs_two (ids : List Int) (k : Nat) (hk : k < ids.length) (x : Int) (hx : x = ids.getD k 0) (h0 : 0 ≤ x) (h1 : x < 256) (ha : (x / 16).toNat < Hx.tab.size) (hb : (x % 16).toNat < Hx.tab.size) :
    ((Hx.tab[(x / 16).toNat]'ha).toNat : Int) = (digs ids).getD (2 * k) 0 ∧ ((Hx.tab[(x % 16).toNat]'hb).toNat : Int) = (digs ids).getD (2 * k + 1) 0 := by
  obtain ⟨e1, e2⟩ := Hx.encode_at (Lib.bytesOf ids) k _ (Hx.bytes_at ids k hk)
  rw [← hx] at e1 e2
  rw [Hx.dig_hi x h0 h1 ha, Hx.dig_lo x h0 h1 hb]
  simp only [digs, List.getD_eq_getElem?_getD, List.getElem?_map, e1, e2, Option.map_some, Option.getD_some, and_self]

set_option maxHeartbeats 1000000 in
/-- Encode, dst a row of sixty-four cells that lies above B, src thirty-two cells below it. -/
theorem encode32 (B bd bs : Nat) (ids : List Int) (w : World) (hi : ids.length = 32) (hr : ∀ i, i < 32 → 0 ≤ ids.getD i 0 ∧ ids.getD i 0 < 256) (hsrc : ∀ i, i < 32 → w.cell? ⟨bs, i, none⟩ = some (.int .u8 (ids.getD i 0)))
    (hdst : w.rowIs bd 5 64 (part64 ids 0)) (hbs : bs < B) (hbd : B ≤ bd) :
    Calls Tryf.prog 11 #[.slice (some ⟨bd, 0, none⟩) 64 64, .slice (some ⟨bs, 0, none⟩) 32 32] w fun e w' => e = .returned (.int .i64 64) ∧ w'.rowIs bd 5 64 (part64 ids 64) ∧ Below B w w' := by
  have S : Hid (∀ i, i < 32 → w.cell? ⟨bs, i, none⟩ = some (.int .u8 (ids.getD i 0))) := hsrc
  have R : Hid (∀ i, i < 32 → 0 ≤ ids.getD i 0 ∧ ids.getD i 0 < 256) := hr
  have I : Hid (ids.length = 32) := hi
  have D : Hid (w.rowIs bd 5 64 (part64 ids 0)) := hdst
  clear hsrc hr hi hdst
  go_enter Tryf.func11, Tryf.ntmps11
  go_wp2
  go_loopw [5, 10] (fun j i wr => ∃ k : Nat, k ≤ 32 ∧ i = .int .i64 k ∧ j = .int .i64 ((2 * k : Nat) : Int) ∧ Hid (wr.rowIs bd 5 64 (part64 ids (2 * k))) ∧ Hid (Below B w wr)) (fun _ i _ => 32 - (intOf i).toNat)
  case atStart => exact ⟨0, by omega, rfl, rfl, D, Below.refl _ _⟩
  case round =>
    obtain ⟨k, hk, rfl, rfl, hrow, hbel⟩ := hrel
    by_cases hlt : k < 32
    · obtain ⟨x, hx⟩ : ∃ x, x = ids.getD k 0 := ⟨_, rfl⟩
      have hx0 : 0 ≤ x := by rw [hx]; exact (R.out k hlt).1
      have hx1 : x < 256 := by rw [hx]; exact (R.out k hlt).2
      have hcx : wr.cell? ⟨bs, k, none⟩ = some (.int .u8 x) := by rw [hx, hbel.out.cell (p := ⟨bs, k, none⟩) hbs]; exact S.out k hlt
      have X : Hid (x = ids.getD k 0) := hx
      clear hx
      have c1 : wr.cell? ⟨bd, 2 * k, none⟩ = some (part64 ids (2 * k) (2 * k)) := hrow.out.cell (by omega)
      have f1 : wr.frozen? ⟨bd, 2 * k, none⟩ = false := hrow.out.frozen _
      have c2 : ∀ v, (wr.setCell ⟨bd, 2 * k, none⟩ v).cell? ⟨bd, 2 * k + 1, none⟩ = some (part64 ids (2 * k) (2 * k + 1)) := fun v => by
        have := (hrow.out.set (2 * k) v).cell (i := 2 * k + 1) (by omega)
        rwa [if_neg (by omega)] at this
      have f2 : ∀ v, (wr.setCell ⟨bd, 2 * k, none⟩ v).frozen? ⟨bd, 2 * k + 1, none⟩ = false := fun v => (hrow.out.set _ v).frozen _
      go_wp2
      go_roundw
      case rel =>
        obtain ⟨t1, t2⟩ := digs_two ids k (by rw [I.out]; exact hlt) x X.out hx0 hx1 (by show _ < 16; omega) (by show _ < 16; omega)
        refine ⟨k + 1, by omega, by go_num, by go_num, ?_, (hbel.out.setCell hbd _).setCell hbd _⟩
        have r1 := (hrow.out.set (2 * k) _).congr (fun j _ => part64_step ids (2 * k) j _ t1)
        exact (r1.set (2 * k + 1) _).congr (fun j _ => part64_step ids (2 * k + 1) j _ t2)
      case measure => simp [intOf]; omega
    · have e : k = 32 := by omega
      subst e
      go_wp2
      go_ret
      exact ⟨rfl, hrow.out, hbel.out⟩

theorem len_two (w : World) : Calls Tryf.prog 10 #[.int .i64 32] w fun e w' => e = .returned (.int .i64 64) ∧ w' = w := by
  go_enter Tryf.func10, Tryf.ntmps10
  go_wp2
  go_ret
  exact ⟨rfl, rfl⟩

/-- What 'make([]byte, 64)' lays. -/
def made64 : Obj := .cells (madeCells #[.int .u8 0] 64) 5

theorem Tryf.info5 : (Tryf.prog.info? 5).map (fun i => (i.zero, i.size, i.bytes)) = some (some (Value.int IntKind.u8 0), 1, 1) := by kernel_rfl

set_option maxHeartbeats 1000000 in
/-- EncodeToString at thirty-two bytes. -/
theorem hex32 (bs : Nat) (ids : List Int) (w : World) (hi : ids.length = 32) (hr : ∀ i, i < 32 → 0 ≤ ids.getD i 0 ∧ ids.getD i 0 < 256) (hsrc : ∀ i, i < 32 → w.cell? ⟨bs, i, none⟩ = some (.int .u8 (ids.getD i 0))) (hbs : bs < w.heap.size) :
    Calls Tryf.prog 9 #[.slice (some ⟨bs, 0, none⟩) 32 32] w fun e w' => e = .returned (.string ⟨(Hx.encode (Lib.bytesOf ids)).toArray⟩) ∧ Below w.heap.size w w' := by
  have hmk : ∀ w : World, (Instr.makeSlice 33 (.int .i64 64) (.int .i64 64)).run Tryf.prog w = .ok (.slice (some ⟨w.heap.size, 0, none⟩) 64 64) (w.alloc made64) := fun w =>
    run_make_row' (P := Tryf.prog) 33 5 (.int .u8 0) 1 Tryf.underlying33 Tryf.info5 rfl .i64 .i64 64 (by decide) (by decide) w
  have h1 : Below w.heap.size w (w.alloc made64) := (Below.refl _ w).alloc (Nat.le_refl _) _
  have hdst : (w.alloc made64).rowIs w.heap.size 5 64 (part64 ids 0) := (World.rowIs_made w (.int .u8 0) 64 5).congr (fun j _ => part64_zero ids j)
  have hc : Hid (Calls Tryf.prog 11 #[.slice (some ⟨w.heap.size, 0, none⟩) 64 64, .slice (some ⟨bs, 0, none⟩) 32 32] (w.alloc made64) fun e w' => e = .returned (.int .i64 64) ∧ w'.rowIs w.heap.size 5 64 (part64 ids 64) ∧ Below w.heap.size (w.alloc made64) w') :=
    encode32 w.heap.size w.heap.size bs ids (w.alloc made64) hi hr (fun i h => (h1.cell (p := ⟨bs, i, none⟩) hbs).trans (hsrc i h)) hdst hbs (Nat.le_refl _)
  have I : Hid (ids.length = 32) := hi
  have H1 : Hid (Below w.heap.size w (w.alloc made64)) := h1
  clear hdst hsrc hr hi h1
  go_enter Tryf.func9, Tryf.ntmps9
  go_wp2_with fail
  refine (len_two _).mono ?_
  rintro e w1 ⟨rfl, rfl⟩
  go_wp2_with fail
  refine hc.out.mono ?_
  rintro e w2 ⟨rfl, hrow, hb2⟩
  have g := run_convert_bytes_arg (P := Tryf.prog) w2 33 5 Tryf.underlying33 Tryf.underlying5 w1.heap.size 0 64 64 (digs ids) (digs_length I.out) (fun i h => by rw [Nat.zero_add, hrow.cell h, part64, if_pos h]) 9 Tryf.underlying9
  have e : strOfNums (digs ids) = ⟨(Hx.encode (Lib.bytesOf ids)).toArray⟩ := by simp [strOfNums, digs, Function.comp_def]
  rw [e] at g
  have B2 : Hid (Below w1.heap.size (w1.alloc made64) w2) := hb2
  clear hrow e hb2
  go_wp2
  go_ret
  exact ⟨rfl, H1.out.trans B2.out⟩

end Go.Proofs.Qxb6615812aFmt
