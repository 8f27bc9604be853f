/-
  zzSegNameModelDiskB1, zzCmpU64DiskB1, zzCmpStrDiskB1 by their contracts.
-/
import Derived.Test.Qxb6615799aFmtHex
import Derived.Deep.QuietTactic
import Derived.BigQuiet
namespace Go.Proofs.Qxb6615799aFmt
open Go.RowKit Go.Extern

set_option maxHeartbeats 400000 in
theorem model_core (x y : ByteArray) (m n : Int) (w : World) (hx : x.size = 16) (hy : y.size = 16)
    (hc1 : Calls Tryf.prog 11 #[.int .u64 m] w fun e w' => e = .returned (.string x) ∧ Below w.heap.size w w')
    (hc2 : ∀ w1, Calls Tryf.prog 11 #[.int .u64 n] w1 fun e w' => e = .returned (.string y) ∧ Below w1.heap.size w1 w') :
    Calls Tryf.prog 6 #[.int .u64 m, .int .u64 n] w fun e w' => e = .returned (.string ((⟨#[108, 111, 103, 45]⟩ : ByteArray) ++ x ++ (⟨#[45]⟩ : ByteArray) ++ y)) ∧ Below w.heap.size w w' := by
  go_enter Tryf.func6, Tryf.ntmps6
  go_wp2_with fail
  refine hc1.mono ?_
  rintro e w1 ⟨rfl, hb1⟩
  have ha1 := run_string_add_sum (P := Tryf.prog) w1 (⟨#[108, 111, 103, 45]⟩ : ByteArray) x (by rw [hx]; decide)
  have ha2 := run_string_add_sum (P := Tryf.prog) w1 ((⟨#[108, 111, 103, 45]⟩ : ByteArray) ++ x) (⟨#[45]⟩ : ByteArray) (by rw [ByteArray.size_append, hx]; decide)
  go_wp2_with fail
  refine (hc2 w1).mono ?_
  rintro e w2 ⟨rfl, hb2⟩
  have ha3 := run_string_add_sum (P := Tryf.prog) w2 ((⟨#[108, 111, 103, 45]⟩ : ByteArray) ++ x ++ (⟨#[45]⟩ : ByteArray)) y (by rw [ByteArray.size_append, ByteArray.size_append, hx, hy]; decide)
  clear ha1 ha2
  go_wp2
  go_ret
  exact ⟨rfl, hb1.trans (hb2.mono hb1.size)⟩

theorem hexS_size (n : Nat) : (⟨(hexK 16 n).toArray⟩ : ByteArray).size = 16 := by
  show (hexK 16 n).toArray.size = 16
  simp [hexK_length]

theorem model_all (s f : Int) (w : World) (hs : 0 ≤ s ∧ s < 18446744073709551616) (hf : 0 ≤ f ∧ f < 18446744073709551616) :
    Calls Tryf.prog 6 #[.int .u64 s, .int .u64 f] w fun e w' => e = .returned (.string (nameS s f)) ∧ Below w.heap.size w w' := by
  have h := model_core ⟨(hexK 16 s.toNat).toArray⟩ ⟨(hexK 16 f.toNat).toArray⟩ s f w (hexS_size _) (hexS_size _)
    (by have := hex16_all s.toNat w (by omega); rwa [Int.toNat_of_nonneg hs.1] at this)
    (fun w1 => by have := hex16_all f.toNat w1 (by omega); rwa [Int.toNat_of_nonneg hf.1] at this)
  have e : (⟨#[108, 111, 103, 45]⟩ : ByteArray) ++ (⟨(hexK 16 s.toNat).toArray⟩ : ByteArray) ++ (⟨#[45]⟩ : ByteArray) ++ (⟨(hexK 16 f.toNat).toArray⟩ : ByteArray) = nameS s f := by
    apply ByteArray.ext
    simp [nameS, nameL]
  rw [e] at h
  exact h

theorem cmpu (a b : Int) (w : World) :
    Calls Tryf.prog 7 #[.int .u64 a, .int .u64 b] w fun e w' => e = .returned (.int .i64 (cmpN a b)) ∧ w' = w := by
  unfold cmpN
  by_cases h1 : a < b
  · rw [if_pos h1]
    go_enter Tryf.func7, Tryf.ntmps7
    go_wp2
    go_ret
    exact ⟨rfl, rfl⟩
  · rw [if_neg h1]
    by_cases h2 : b < a
    · rw [if_pos h2]
      go_enter Tryf.func7, Tryf.ntmps7
      go_wp2
      go_ret
      exact ⟨rfl, rfl⟩
    · rw [if_neg h2]
      go_enter Tryf.func7, Tryf.ntmps7
      go_wp2
      go_ret
      exact ⟨rfl, rfl⟩

theorem drop_at (a : ByteArray) (k : Nat) (h : k < a.size) : a.data.toList.drop k = a[k] :: a.data.toList.drop (k + 1) := by
  rw [List.drop_eq_getElem_cons (by simpa using h)]
  rfl
theorem cmp_lt {a b : ByteArray} {k : Nat} {r : Int} (ha : k < a.size) (hb : k < b.size) (hr : cmpL (a.data.toList.drop k) (b.data.toList.drop k) = r) (h : a[k].toNat < b[k].toNat) : -1 = r := by
  rw [drop_at a k ha, drop_at b k hb, cmpL, if_pos (UInt8.lt_iff_toNat_lt.2 h)] at hr
  exact hr
theorem cmp_gt {a b : ByteArray} {k : Nat} {r : Int} (ha : k < a.size) (hb : k < b.size) (hr : cmpL (a.data.toList.drop k) (b.data.toList.drop k) = r) (h : b[k].toNat < a[k].toNat) : 1 = r := by
  rw [drop_at a k ha, drop_at b k hb, cmpL, if_neg (by rw [UInt8.lt_iff_toNat_lt]; omega), if_pos (UInt8.lt_iff_toNat_lt.2 h)] at hr
  exact hr
theorem cmp_eq {a b : ByteArray} {k : Nat} {r : Int} (ha : k < a.size) (hb : k < b.size) (hr : cmpL (a.data.toList.drop k) (b.data.toList.drop k) = r) (h1 : ¬ a[k].toNat < b[k].toNat) (h2 : ¬ b[k].toNat < a[k].toNat) : cmpL (a.data.toList.drop (k + 1)) (b.data.toList.drop (k + 1)) = r := by
  rw [drop_at a k ha, drop_at b k hb, cmpL, if_neg (by rw [UInt8.lt_iff_toNat_lt]; omega), if_neg (by rw [UInt8.lt_iff_toNat_lt]; omega)] at hr
  exact hr
theorem cmp_end {a b : ByteArray} {r : Int} (ha : a.size = 37) (hb : b.size = 37) (hr : cmpL (a.data.toList.drop 37) (b.data.toList.drop 37) = r) : 0 = r := by
  rw [List.drop_of_length_le (by simp [ha]), List.drop_of_length_le (by simp [hb])] at hr
  exact hr
theorem ret_i {a b : Int} (h : a = b) : Ending.returned (.int .i64 a) = .returned (.int .i64 b) := by rw [h]

set_option maxHeartbeats 1000000 in
theorem cmps (a b : ByteArray) (w : World) (ha : a.size = 37) (hb : b.size = 37) :
    Calls Tryf.prog 8 #[.string a, .string b] w fun e w' => e = .returned (.int .i64 (cmpL a.data.toList b.data.toList)) ∧ Below w.heap.size w w' := by
  go_enter Tryf.func8, Tryf.ntmps8
  go_wp2
  go_loopw [6] (fun vi wr => ∃ k : Nat, k ≤ 37 ∧ vi = .int .i64 k ∧ Hid (cmpL (a.data.toList.drop k) (b.data.toList.drop k) = cmpL a.data.toList b.data.toList) ∧ Hid (Below w.heap.size w wr)) (fun vi _ => 37 - (intOf vi).toNat)
  case atStart => exact ⟨0, by omega, rfl, rfl, Below.refl _ _⟩
  case round =>
    obtain ⟨k, hk, rfl, hrw, hbl⟩ := hrel
    by_cases hlt : k < 37
    · have hka : k < a.size := by omega
      have hkb : k < b.size := by omega
      go_wp2
      go_quiet (fail)
      go_wp2
      · go_ret
        exact ⟨ret_i (cmp_lt hka hkb hrw.out (by assumption)), below_drewN hbl.out _⟩
      · go_quiet (fail)
        go_wp2
        · go_ret
          exact ⟨ret_i (cmp_gt hka hkb hrw.out (by assumption)), below_drewN (below_drewN hbl.out _) _⟩
        · go_roundw
          case rel => exact ⟨k + 1, by omega, by go_num, cmp_eq hka hkb hrw.out (by assumption) (by assumption), below_drewN hbl.out _⟩
          case measure => simp [intOf]; omega
    · have e : k = 37 := by omega
      subst e
      go_wp2
      go_ret
      exact ⟨ret_i (cmp_end ha hb hrw.out), hbl.out⟩
end Go.Proofs.Qxb6615799aFmt
