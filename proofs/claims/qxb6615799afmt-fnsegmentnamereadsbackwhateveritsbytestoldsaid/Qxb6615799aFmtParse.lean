/-
  THE READER OF THE NAME: zzHexValDiskB1, zzParseHex16DiskB1, zzParseSegNameDiskB1 by their contracts.
-/
import Derived.Test.Qxb6615799aFmtPlain
import Derived.Test.Qxb6615799aFmtRows
import Derived.WalkKit
import Derived.WalkSpells
namespace Go.Proofs.Qxb6615799aFmt
open Go.RowKit Go.Extern

theorem hv_dec (c : Int) (w : World) (h1 : 48 ≤ c) (h2 : c ≤ 57) :
    Calls Tryf.prog 15 #[.int .u8 c] w fun e w' => e = .returned (.tuple #[.int .u64 (c - 48), .bool true]) ∧ w' = w := by
  go_enter Tryf.func15, Tryf.ntmps15
  go_wp2
  go_ret2
  exact ⟨rfl, rfl⟩

theorem hv_hex (c : Int) (w : World) (h1 : 97 ≤ c) (h2 : c ≤ 102) :
    Calls Tryf.prog 15 #[.int .u8 c] w fun e w' => e = .returned (.tuple #[.int .u64 (c - 97 + 10), .bool true]) ∧ w' = w := by
  go_enter Tryf.func15, Tryf.ntmps15
  go_wp2
  go_ret2
  exact ⟨rfl, rfl⟩

theorem digit_dec : ∀ d : Fin 10, ((FmtText.digit false d.val).toNat : Int) = 48 + d.val := by decide
theorem digit_hex : ∀ d : Fin 6, ((FmtText.digit false (d.val + 10)).toNat : Int) = 97 + d.val := by decide

theorem hv_at (c : UInt8) (d : Nat) (w : World) (hd : d < 16) (hc : c = FmtText.digit false d) :
    Calls Tryf.prog 15 #[.int .u8 c.toNat] w fun e w' => e = .returned (.tuple #[.int .u64 d, .bool true]) ∧ w' = w := by
  by_cases h : d < 10
  · have e := digit_dec ⟨d, h⟩
    simp only at e
    have := hv_dec (48 + d) w (by omega) (by omega)
    rw [show (48 + (d : Int)) - 48 = d by omega, ← e, ← hc] at this
    exact this
  · have e := digit_hex ⟨d - 10, by omega⟩
    simp only [show d - 10 + 10 = d by omega] at e
    have := hv_hex (97 + (d - 10 : Nat)) w (by omega) (by omega)
    rw [show (97 + ((d - 10 : Nat) : Int)) - 97 + 10 = d by omega, ← e, ← hc] at this
    exact this

theorem bytes_getElem {s : ByteArray} {l : List UInt8} (h : s.data.toList = l) (k : Nat) (hk : k < s.size) (c : UInt8) (hc : l[k]? = some c) : s[k] = c := by
  subst h
  have hk' : k < s.data.toList.length := by simpa using hk
  rw [List.getElem?_eq_getElem hk'] at hc
  have : s[k] = s.data.toList[k] := rfl
  rw [this]
  exact Option.some.inj hc

/-- One digit more: 'v<<4 | d'. -/
theorem step_or (n k : Nat) (hn : n < 18446744073709551616) (hk : k < 16) :
    bits BinOp.or IntKind.u64 (IntKind.u64.wrap ((n : Int) / 16 ^ (16 - k) * 16)) ((n : Int) / 16 ^ (15 - k) % 16) = ((n / 16 ^ (16 - (k + 1)) : Nat) : Int) := by
  have e1 : (n : Int) / 16 ^ (16 - k) = ((n / 16 ^ (16 - k) : Nat) : Int) := by simp
  have e2 : (n : Int) / 16 ^ (15 - k) % 16 = ((n / 16 ^ (15 - k) % 16 : Nat) : Int) := by simp
  have e3 : 16 - (k + 1) = 15 - k := by omega
  have e4 : n / 16 ^ (16 - k) = n / 16 ^ (15 - k) / 16 := by
    rw [Nat.div_div_eq_div_mul, ← Nat.pow_succ, show (15 - k).succ = 16 - k by omega]
  rw [e1, e2, e3, e4]
  have hq : n / 16 ^ (15 - k) ≤ n := Nat.div_le_self _ _
  generalize n / 16 ^ (15 - k) = q at hq
  have hw : IntKind.u64.wrap (((q / 16 : Nat) : Int) * 16) = ((16 * (q / 16) : Nat) : Int) := by rw [IntKind.wrap_u64]; omega
  rw [hw, bits_or_u64_nat _ _ (by omega) (by omega)]
  have := Nat.two_pow_add_eq_or_of_lt (i := 4) (b := q % 16) (Nat.mod_lt _ (by decide)) (q / 16)
  rw [show (2 : Nat) ^ 4 = 16 from rfl] at this
  rw [← this]
  omega

set_option maxHeartbeats 400000 in
theorem parse16 (s : ByteArray) (n : Nat) (w : World) (hn : n < 18446744073709551616) (hs : s.data.toList = hexK 16 n) :
    Calls Tryf.prog 12 #[.string s] w fun e w' => e = .returned (.tuple #[.int .u64 n, .bool true]) ∧ w' = w := by
  have hsz : s.size = 16 := by
    have := congrArg List.length hs
    simpa [hexK_length] using this
  have HS : Hid (s.data.toList = hexK 16 n) := hs
  clear hs
  go_enter Tryf.func12, Tryf.ntmps12
  go_wp2
  go_loop [4, 5] (fun v i => ∃ k : Nat, k ≤ 16 ∧ i = .int .i64 k ∧ v = .int .u64 ((n / 16 ^ (16 - k) : Nat) : Int)) (fun _ i => 16 - (intOf i).toNat)
  case atStart => exact ⟨0, by omega, rfl, by rw [Nat.div_eq_of_lt (by simpa using hn)]; rfl⟩
  case round =>
    obtain ⟨k, hk, rfl, rfl⟩ := hrel
    by_cases hlt : k < 16
    · have hks : k < s.size := by omega
      have hd : n / 16 ^ (15 - k) % 16 < 16 := Nat.mod_lt _ (by decide)
      have hv := hv_at s[k] (n / 16 ^ (15 - k) % 16) w hd (bytes_getElem HS.out k hks _ (by rw [hexK_getElem? 16 n k hlt]))
      go_wp2_with (go_at_call 15; refine hv.mono ?_; rintro e w' ⟨rfl, rfl⟩)
      go_round
      case rel => exact ⟨k + 1, by omega, by go_num, by rw [step_or n k hn hlt]⟩
      case measure => simp [intOf]; omega
    · have e : k = 16 := by omega
      subst e
      go_wp2
      go_ret2
      exact ⟨by simp, rfl⟩

set_option maxHeartbeats 400000 in
theorem parse_any (x : ByteArray) (m n : Nat) (w : World) (hm : m < 18446744073709551616) (hn : n < 18446744073709551616) (hsz : x.size = 37) (h4 : (x.extract 0 4).toList = [108, 111, 103, 45]) (h20 : (x[20]'(by omega)) = 45)
    (h5 : (x.extract 4 20).data.toList = hexK 16 m) (h6 : (x.extract 21 37).data.toList = hexK 16 n) :
    Calls Tryf.prog 9 #[.string x] w fun e w' => e = .returned (.tuple #[.int .u64 m, .int .u64 n, .bool true]) ∧ w' = w := by
  have hc1 := parse16 (x.extract 4 20) m w hm h5
  have hc2 := parse16 (x.extract 21 37) n w hn h6
  clear h5 h6
  go_enter Tryf.func9, Tryf.ntmps9
  go_wp2_with fail
  refine hc1.mono ?_
  rintro e w1 ⟨rfl, rfl⟩
  go_wp2_with fail
  refine hc2.mono ?_
  rintro e w2 ⟨rfl, rfl⟩
  go_wp2
  go_ret3
  exact ⟨rfl, rfl⟩

theorem extract_list (l : List UInt8) (i j : Nat) : ((⟨l.toArray⟩ : ByteArray).extract i j).data.toList = (l.drop i).take (j - i) := by
  simp [ByteArray.data_extract]

theorem parse_name (s f : Int) (w : World) (hs : 0 ≤ s ∧ s < 18446744073709551616) (hf : 0 ≤ f ∧ f < 18446744073709551616) :
    Calls Tryf.prog 9 #[.string (nameS s f)] w fun e w' => e = .returned (.tuple #[.int .u64 s, .int .u64 f, .bool true]) ∧ w' = w := by
  have h1 := hexK_length 16 s.toNat
  have h2 := hexK_length 16 f.toNat
  have l0 : (nameS s f).data.toList = nameL s f := rfl
  have := parse_any (nameS s f) s.toNat f.toNat w (by omega) (by omega) (nameS_size s f)
    (by rw [ByteArray.toList_eq, nameS, extract_list, nameL]; rfl)
    (bytes_getElem l0 20 (by rw [nameS_size]; decide) 45 (by
      rw [nameL, List.getElem?_append_right (by simp), List.getElem?_append_right (by rw [h1]; simp), h1]
      rfl))
    (by
      rw [nameS, extract_list, nameL, List.drop_left' (by simp), List.take_left' (by rw [h1])])
    (by
      rw [nameS, extract_list, nameL, ← List.append_assoc, ← List.append_assoc, List.drop_left' (by simp [h1]), List.take_of_length_le (by rw [h2]; decide)])
  rw [Int.toNat_of_nonneg hs.1, Int.toNat_of_nonneg hf.1] at this
  exact this
end Go.Proofs.Qxb6615799aFmt
