/-
  THE PLAIN MATHEMATICS OF THE SEGMENT NAMES: sixteen hex digits, read back, compared. No Go in sight.
-/
import Derived.Stop.FmtTextBases
namespace Go.Proofs.Qxb6615799aFmt
open Go.Extern

/-- The k hex digits of n, the highest first. -/
def hexK : Nat → Nat → List UInt8
  | 0, _ => []
  | k + 1, n => hexK k (n / 16) ++ [FmtText.digit false (n % 16)]

theorem hexK_length : ∀ (k n : Nat), (hexK k n).length = k
  | 0, _ => rfl
  | k + 1, n => by simp [hexK, hexK_length k]

theorem hexK_zero : ∀ (k : Nat), hexK k 0 = List.replicate k 48
  | 0 => rfl
  | k + 1 => by
    rw [hexK, Nat.zero_div, hexK_zero k, List.replicate_succ']
    rfl

theorem digitsFrom_acc : ∀ (fuel u : Nat) (acc : List UInt8), FmtText.digitsFrom 16 false fuel u acc = FmtText.digitsFrom 16 false fuel u [] ++ acc
  | 0, _, acc => by simp [FmtText.digitsFrom]
  | fuel + 1, u, acc => by
    rw [FmtText.digitsFrom, FmtText.digitsFrom]
    split
    · simp
    · rw [digitsFrom_acc fuel (u / 16) (_ :: acc), digitsFrom_acc fuel (u / 16) [_]]
      simp

theorem digitsFrom_hexK : ∀ (k fuel u : Nat), u < 16 ^ (k + 1) → k + 1 ≤ fuel →
    (FmtText.digitsFrom 16 false fuel u []).length ≤ k + 1 ∧ List.replicate (k + 1 - (FmtText.digitsFrom 16 false fuel u []).length) 48 ++ FmtText.digitsFrom 16 false fuel u [] = hexK (k + 1) u
  | 0, fuel + 1, u, hu, _ => by
    have hu' : u < 16 := by simpa using hu
    rw [FmtText.digitsFrom, if_pos hu']
    simp [hexK, Nat.mod_eq_of_lt hu']
  | k + 1, fuel + 1, u, hu, hf => by
    by_cases hs : u < 16
    · rw [FmtText.digitsFrom, if_pos hs]
      refine ⟨by simp, ?_⟩
      have e : u / 16 = 0 := by omega
      rw [hexK, e, hexK_zero, Nat.mod_eq_of_lt hs]
      simp
    · rw [FmtText.digitsFrom, if_neg hs, digitsFrom_acc]
      have hd : u / 16 < 16 ^ (k + 1) := by
        rw [Nat.div_lt_iff_lt_mul (by decide)]
        rw [Nat.pow_succ] at hu
        exact hu
      obtain ⟨h1, h2⟩ := digitsFrom_hexK k fuel (u / 16) hd (by omega)
      refine ⟨by simp; omega, ?_⟩
      rw [hexK, ← h2]
      simp

/-- '%016x' OF A uint64: its sixteen digits. -/
theorem hexZeros_hexK (x : Int) (h0 : 0 ≤ x) (h1 : x < 18446744073709551616) : FmtText.hexZeros false false 16 x = hexK 16 x.toNat := by
  have e : x.natAbs = x.toNat := by omega
  have hp : (16 : Nat) ^ (15 + 1) = 18446744073709551616 := by decide
  obtain ⟨_, h⟩ := digitsFrom_hexK 15 64 x.toNat (by rw [hp]; omega) (by decide)
  have hn : ¬ x < 0 := by omega
  rw [FmtText.hexZeros, e, FmtText.numeral, ← h]
  simp [hn]

/-- THE NAME: "log-", sixteen digits, '-', sixteen digits. -/
def nameL (s f : Int) : List UInt8 := [108, 111, 103, 45] ++ (hexK 16 s.toNat ++ ([45] ++ hexK 16 f.toNat))

theorem nameL_length (s f : Int) : (nameL s f).length = 37 := by simp [nameL, hexK_length]

/-- THE NAME AS A Go STRING. -/
def nameS (s f : Int) : ByteArray := ⟨(nameL s f).toArray⟩

theorem nameS_size (s f : Int) : (nameS s f).size = 37 := by
  show (nameL s f).toArray.size = 37
  simp [nameL_length]

/-! ### The digits one by one -/

theorem hexK_getElem? : ∀ (k n i : Nat), i < k → (hexK k n)[i]? = some (FmtText.digit false (n / 16 ^ (k - 1 - i) % 16))
  | k + 1, n, i, h => by
    rw [hexK]
    by_cases hi : i < k
    · rw [List.getElem?_append_left (by rw [hexK_length]; exact hi), hexK_getElem? k _ i hi]
      have e : k + 1 - 1 - i = (k - 1 - i) + 1 := by omega
      rw [e, Nat.pow_succ', Nat.div_div_eq_div_mul]
    · have e : i = k := by omega
      subst e
      rw [List.getElem?_append_right (by rw [hexK_length]; omega), hexK_length]
      simp

/-! ### Comparing -/

/-- Byte-wise comparison, as Go's cmp gives it. -/
def cmpL : List UInt8 → List UInt8 → Int
  | [], [] => 0
  | [], _ :: _ => -1
  | _ :: _, [] => 1
  | x :: xs, y :: ys => if x < y then -1 else if y < x then 1 else cmpL xs ys

def cmpN (a b : Int) : Int := if a < b then -1 else if b < a then 1 else 0

theorem digit_lt (a b : Nat) (ha : a < 16) (hb : b < 16) : (FmtText.digit false a < FmtText.digit false b) ↔ a < b := by
  have h : ∀ a b : Fin 16, (FmtText.digit false a.val < FmtText.digit false b.val) ↔ a.val < b.val := by decide
  exact h ⟨a, ha⟩ ⟨b, hb⟩

theorem cmpL_hexK : ∀ (k m n : Nat) (r s : List UInt8), cmpL (hexK k m ++ r) (hexK k n ++ s) = if m % 16 ^ k < n % 16 ^ k then -1 else if n % 16 ^ k < m % 16 ^ k then 1 else cmpL r s
  | 0, m, n, r, s => by simp [hexK, Nat.mod_one]
  | k + 1, m, n, r, s => by
    have hm := Nat.mod_lt m (show 0 < 16 by decide)
    have hn := Nat.mod_lt n (show 0 < 16 by decide)
    have em : m % 16 ^ (k + 1) = m % 16 + 16 * (m / 16 % 16 ^ k) := by rw [Nat.pow_succ', Nat.mod_mul]
    have en : n % 16 ^ (k + 1) = n % 16 + 16 * (n / 16 % 16 ^ k) := by rw [Nat.pow_succ', Nat.mod_mul]
    rw [hexK, hexK, List.append_assoc, List.append_assoc, cmpL_hexK k, em, en]
    simp only [List.cons_append, List.nil_append, cmpL, digit_lt _ _ hm hn, digit_lt _ _ hn hm]
    generalize m / 16 % 16 ^ k = A
    generalize n / 16 % 16 ^ k = B
    repeat' split
    all_goals first | rfl | (exfalso; omega)

/-- THE PLAIN LAW OF THE SORTING: the names compare as the pairs of numbers. -/
theorem cmpL_nameL (s1 f1 s2 f2 : Int) (a1 : 0 ≤ s1) (a2 : s1 < 18446744073709551616) (b1 : 0 ≤ f1) (b2 : f1 < 18446744073709551616) (c1 : 0 ≤ s2) (c2 : s2 < 18446744073709551616) (d1 : 0 ≤ f2) (d2 : f2 < 18446744073709551616) :
    cmpL (nameL s1 f1) (nameL s2 f2) = if cmpN s1 s2 = 0 then cmpN f1 f2 else cmpN s1 s2 := by
  have hp : ∀ a b : List UInt8, cmpL ([108, 111, 103, 45] ++ a) ([108, 111, 103, 45] ++ b) = cmpL a b := by intro a b; simp [cmpL]
  have hq : ∀ a b : List UInt8, cmpL ([45] ++ a) ([45] ++ b) = cmpL a b := by intro a b; simp [cmpL]
  have hk := cmpL_hexK 16 f1.toNat f2.toNat [] []
  simp only [List.append_nil] at hk
  have hm : ∀ x : Int, x < 18446744073709551616 → x.toNat % 16 ^ 16 = x.toNat := fun x hx => Nat.mod_eq_of_lt (by rw [show (16 : Nat) ^ 16 = 18446744073709551616 by decide]; omega)
  rw [nameL, nameL, hp, cmpL_hexK, hq, hk, hm s1 a2, hm s2 c2, hm f1 b2, hm f2 d2]
  unfold cmpN
  have t : cmpL [] [] = 0 := rfl
  rw [t]
  repeat' split
  all_goals first | rfl | omega

end Go.Proofs.Qxb6615799aFmt
