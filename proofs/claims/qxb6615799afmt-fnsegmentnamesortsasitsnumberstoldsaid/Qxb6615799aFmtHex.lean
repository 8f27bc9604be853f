/-
  zzHexDigitDiskB1, zzHex16DiskB1, zzSegNameModelDiskB1 by their contracts.
-/
import Derived.Test.Qxb6615799aFmtPlain
import Derived.Test.Qxb6615799aFmtRows
import Derived.WalkKit
import Derived.WalkSpells
import Derived.WalkLawsBesides
import Derived.Deep.OwnRows
import Derived.Laws.BytesArg
namespace Go.Proofs.Qxb6615799aFmt
open Go.RowKit Go.Extern

theorem hd_dec (d : Int) (w : World) (h1 : 0 ≤ d) (h2 : d < 10) :
    Calls Tryf.prog 14 #[.int .u64 d] w fun e w' => e = .returned (.int .u8 (48 + d)) ∧ w' = w := by
  go_enter Tryf.func14, Tryf.ntmps14
  go_wp2
  go_ret
  exact ⟨rfl, rfl⟩

theorem hd_hex (d : Int) (w : World) (h1 : 10 ≤ d) (h2 : d < 16) :
    Calls Tryf.prog 14 #[.int .u64 d] w fun e w' => e = .returned (.int .u8 (97 + (d - 10))) ∧ w' = w := by
  go_enter Tryf.func14, Tryf.ntmps14
  go_wp2
  go_ret
  exact ⟨rfl, rfl⟩

theorem digit_dec' : ∀ d : Fin 10, ((FmtText.digit false d.val).toNat : Int) = 48 + d.val := by decide
theorem digit_hex' : ∀ d : Fin 6, ((FmtText.digit false (d.val + 10)).toNat : Int) = 97 + d.val := by decide

theorem hd_at (x : Int) (d : Nat) (w : World) (hd : d < 16) (hx : x = d) :
    Calls Tryf.prog 14 #[.int .u64 x] w fun e w' => e = .returned (.int .u8 ((FmtText.digit false d).toNat : Int)) ∧ w' = w := by
  subst hx
  by_cases h : d < 10
  · have e := digit_dec' ⟨d, h⟩
    simp only at e
    have := hd_dec d w (by omega) (by omega)
    rw [← e] at this
    exact this
  · have e := digit_hex' ⟨d - 10, by omega⟩
    simp only [show d - 10 + 10 = d by omega] at e
    have := hd_hex d w (by omega) (by omega)
    rw [show (97 : Int) + (d - 10) = 97 + ((d - 10 : Nat) : Int) by omega, ← e] at this
    exact this

theorem and_step (n m : Nat) (hn : n < 18446744073709551616) : bits BinOp.and IntKind.u64 ((n : Int) / 2 ^ (4 * m)) 15 = ((n / 16 ^ m % 16 : Nat) : Int) := by
  have e1 : (n : Int) / 2 ^ (4 * m) = ((n / 16 ^ m : Nat) : Int) := by
    have : (16 : Nat) ^ m = 2 ^ (4 * m) := by rw [Nat.pow_mul]
    rw [this]
    simp
  have hq : n / 16 ^ m ≤ n := Nat.div_le_self _ _
  rw [e1]
  generalize n / 16 ^ m = q at hq
  have h := bits_and_u64_nat q 15 (by omega) (by decide)
  have h4 := Nat.and_two_pow_sub_one_eq_mod q 4
  rw [show (2 : Nat) ^ 4 = 16 from rfl] at h4
  rw [← h4]
  exact h

/-- What 'make([]byte, 16)' lays. -/
def madeObj : Obj := .cells (madeCells #[.int .u8 0] 16) 5

theorem Tryf.info5 : (Tryf.prog.info? 5).map (fun i => (i.zero, i.size, i.bytes)) = some (some (Value.int IntKind.u8 0), 1, 1) := by kernel_rfl

/-- What the row holds behind k rounds. -/
def rowAt (n k j : Nat) : Value := if j < k then .int .u8 ((FmtText.digit false (n / 16 ^ (15 - j) % 16)).toNat : Int) else .int .u8 0

theorem row_step (n k j : Nat) : (if j = k then .int .u8 ((FmtText.digit false (n / 16 ^ (15 - k) % 16)).toNat : Int) else rowAt n k j) = rowAt n (k + 1) j := by
  unfold rowAt
  by_cases h : j = k
  · subst h; simp
  · by_cases h2 : j < k
    · rw [if_neg h, if_pos h2, if_pos (by omega)]
    · rw [if_neg h, if_neg h2, if_neg (by omega)]

def numsK (n : Nat) : List Int := (hexK 16 n).map fun c => (c.toNat : Int)
theorem numsK_length (n : Nat) : (numsK n).length = 16 := by simp [numsK, hexK_length]
theorem numsK_str (n : Nat) : strOfNums (numsK n) = ⟨(hexK 16 n).toArray⟩ := by
  simp [strOfNums, numsK, Function.comp_def]
theorem numsK_at (n i : Nat) (h : i < 16) : rowAt n 16 i = .int .u8 ((numsK n).getD i 0) := by
  have := hexK_getElem? 16 n i h
  rw [rowAt, if_pos h, List.getD_eq_getElem?_getD, numsK, List.getElem?_map, this]
  rfl

set_option maxHeartbeats 400000 in
theorem hex16_all (n : Nat) (w : World) (h1 : n < 18446744073709551616) :
    Calls Tryf.prog 11 #[.int .u64 n] w fun e w' => e = .returned (.string ⟨(hexK 16 n).toArray⟩) ∧ Below w.heap.size w w' := by
  have hmk : ∀ w : World, (Instr.makeSlice 38 (.int .i64 16) (.int .i64 16)).run Tryf.prog w = .ok (.slice (some ⟨w.heap.size, 0, none⟩) 16 16) (w.alloc madeObj) := fun w =>
    run_make_row' (P := Tryf.prog) 38 5 (.int .u8 0) 1 Tryf.underlying38 Tryf.info5 rfl .i64 .i64 16 (by decide) (by decide) w
  have hrow : Hid ((w.alloc madeObj).rowIs w.heap.size 5 16 (rowAt n 0)) := (World.rowIs_made w (.int .u8 0) 16 5).congr (fun j _ => by simp [rowAt])
  go_enter Tryf.func11, Tryf.ntmps11
  go_wp2
  go_loopw [4] (fun vi wr => ∃ k : Nat, k ≤ 16 ∧ vi = .int .i64 k ∧ Hid (wr.rowIs w.heap.size 5 16 (rowAt n k)) ∧ Hid (Below w.heap.size w wr)) (fun vi _ => 16 - (intOf vi).toNat)
  case atStart => exact ⟨0, by omega, rfl, hrow, (Below.refl _ w).alloc (Nat.le_refl _) _⟩
  case round =>
    obtain ⟨k, hk, rfl, hrw, hbl⟩ := hrel
    by_cases hlt : k < 16
    · have hf1 : wr.frozen? ⟨w.heap.size, k, none⟩ = false := hrw.out.frozen _
      have hc1 : wr.cell? ⟨w.heap.size, k, none⟩ = some (rowAt n k k) := hrw.out.cell hlt
      go_wp2_with fail
      refine (hd_at _ (n / 16 ^ (15 - k) % 16) wr (Nat.mod_lt _ (by decide)) (and_step n (15 - k) h1)).mono ?_
      rintro e w1 ⟨rfl, rfl⟩
      go_wp2
      go_roundw
      case rel => exact ⟨k + 1, by omega, by go_num, (hrw.out.set k _).congr (fun j _ => row_step n k j), hbl.out.setCell (Nat.le_refl _) _⟩
      case measure => simp [intOf]; omega
    · have e : k = 16 := by omega
      subst e
      have g := run_convert_bytes_arg (P := Tryf.prog) wr 38 5 Tryf.underlying38 Tryf.underlying5 w.heap.size 0 16 16 (numsK n) (numsK_length n) (fun i hi => by rw [Nat.zero_add, hrw.out.cell hi, numsK_at n i hi]) 9 Tryf.underlying9
      rw [numsK_str] at g
      go_wp2
      go_ret
      exact ⟨rfl, hbl.out⟩
end Go.Proofs.Qxb6615799aFmt
