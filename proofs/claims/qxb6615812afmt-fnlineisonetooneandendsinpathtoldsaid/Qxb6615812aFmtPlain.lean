/-
  THE PLAIN MATHEMATICS OF THE REPORT LINE: it is one to one, and it ends in " path " and the path. No Go in sight.
-/
import Derived.Lib.HexFns
import Derived.Lib.ItoaNum
namespace Go.Proofs.Qxb6615812aFmt
open Go.Lib

/-! ### Decimal numerals -/
def valL (l : List UInt8) : Nat := l.foldl (fun a c => a * 10 + (c.toNat - 48)) 0

theorem valL_snoc (l : List UInt8) (c : UInt8) : valL (l ++ [c]) = valL l * 10 + (c.toNat - 48) := by simp [valL]

theorem dec_val (u : Nat) : valL (decDigits u) = u ∧ ∀ c ∈ decDigits u, 48 ≤ c.toNat ∧ c.toNat ≤ 57 := by
  induction u using Nat.strongRecOn with
  | _ u ih =>
    rw [decDigits]
    split
    · rename_i h
      have e : (UInt8.ofNat (48 + u)).toNat = 48 + u := by rw [UInt8.toNat_ofNat']; omega
      refine ⟨?_, ?_⟩
      · simp only [valL, List.foldl_cons, List.foldl_nil, e]; omega
      · intro c hc
        rw [List.mem_singleton] at hc
        subst hc
        rw [e]; omega
    · rename_i h
      obtain ⟨h1, h2⟩ := ih (u / 10) (by omega)
      have e : (UInt8.ofNat (48 + u % 10)).toNat = 48 + u % 10 := by rw [UInt8.toNat_ofNat']; omega
      refine ⟨?_, ?_⟩
      · rw [valL_snoc, h1, e]; omega
      · intro c hc
        rcases List.mem_append.1 hc with hc | hc
        · exact h2 c hc
        · rw [List.mem_singleton] at hc
          subst hc
          rw [e]; omega

theorem dec_inj {a b : Nat} (h : decDigits a = decDigits b) : a = b := by rw [← (dec_val a).1, h, (dec_val b).1]

theorem itoa_signs (n : Int) : ∀ c ∈ itoa n, c.toNat = 45 ∨ (48 ≤ c.toNat ∧ c.toNat ≤ 57) := by
  intro c hc
  rw [itoa] at hc
  split at hc
  · rcases List.mem_cons.1 hc with rfl | hc
    · left; rfl
    · right; exact (dec_val _).2 c hc
  · right; exact (dec_val _).2 c hc

theorem itoa_blank (n : Int) : ∀ c ∈ itoa n, c ≠ 32 := by
  intro c hc e
  subst e
  have := itoa_signs n 32 hc
  revert this
  decide

theorem no_minus (u : Nat) (r : List UInt8) : decDigits u ≠ 45 :: r := by
  intro e
  have := (dec_val u).2 45 (by rw [e]; exact List.mem_cons_self)
  revert this
  decide

theorem itoa_inj {a b : Int} (h : itoa a = itoa b) : a = b := by
  by_cases ha : a < 0 <;> by_cases hb : b < 0 <;> simp only [itoa, ha, hb, if_true, if_false] at h
  · have := dec_inj (List.cons.inj h).2
    omega
  · exact absurd h.symm (no_minus _ _)
  · exact absurd h (no_minus _ _)
  · have := dec_inj h
    omega

/-! ### Hexadecimal digits -/
theorem digit_inj : ∀ a b : Fin 16, Hx.digit a.val = Hx.digit b.val → a = b := by decide

theorem encode_inj : ∀ {l m : List UInt8}, Hx.encode l = Hx.encode m → l = m
  | [], [], _ => rfl
  | [], b :: m, h => by rw [Hx.encode_cons] at h; cases h
  | a :: l, [], h => by rw [Hx.encode_cons] at h; cases h
  | a :: l, b :: m, h => by
    rw [Hx.encode_cons, Hx.encode_cons] at h
    obtain ⟨h1, h'⟩ := List.cons.inj h
    obtain ⟨h2, h3⟩ := List.cons.inj h'
    have ha := a.toNat_lt
    have hb := b.toNat_lt
    have e1 := digit_inj ⟨a.toNat / 16, by omega⟩ ⟨b.toNat / 16, by omega⟩ h1
    have e2 := digit_inj ⟨a.toNat % 16, by omega⟩ ⟨b.toNat % 16, by omega⟩ h2
    simp only [Fin.mk.injEq] at e1 e2
    have e : a = b := UInt8.toNat_inj.1 (by omega)
    rw [e, encode_inj h3]

/-! ### The line -/
theorem split_blank : ∀ {l m r s : List UInt8}, (∀ c ∈ l, c ≠ 32) → (∀ c ∈ m, c ≠ 32) → l ++ 32 :: r = m ++ 32 :: s → l = m ∧ r = s
  | [], [], r, s, _, _, h => ⟨rfl, (List.cons.inj h).2⟩
  | [], b :: m, r, s, _, hm, h => absurd (List.cons.inj h).1.symm (hm b List.mem_cons_self)
  | a :: l, [], r, s, hl, _, h => absurd (List.cons.inj h).1 (hl a List.mem_cons_self)
  | a :: l, b :: m, r, s, hl, hm, h => by
    obtain ⟨h1, h2⟩ := List.cons.inj h
    obtain ⟨h3, h4⟩ := split_blank (fun c hc => hl c (List.mem_cons_of_mem _ hc)) (fun c hc => hm c (List.mem_cons_of_mem _ hc)) h2
    exact ⟨by rw [h1, h3], h4⟩

/-- " path " and the path. -/
def tailL (p : List UInt8) : List UInt8 := [32, 112, 97, 116, 104, 32] ++ p

/-- "file ", the id in hexadecimal, " degree ", the degree, " chunks ", the number of chunks, " path " and the path. -/
def lineL (x : List UInt8) (d c : Int) (p : List UInt8) : List UInt8 :=
  [102, 105, 108, 101, 32] ++ (x ++ ([32, 100, 101, 103, 114, 101, 101, 32] ++ (itoa d ++ ([32, 99, 104, 117, 110, 107, 115, 32] ++ (itoa c ++ tailL p)))))

theorem lineL_inj {x y : List UInt8} {d c d' c' : Int} {p q : List UInt8} (hl : x.length = y.length) (h : lineL x d c p = lineL y d' c' q) : x = y ∧ d = d' ∧ c = c' ∧ p = q := by
  have h1 := List.append_cancel_left h
  obtain ⟨hx, h2⟩ := List.append_inj h1 hl
  have h3 := List.append_cancel_left h2
  simp only [List.cons_append, List.nil_append] at h3
  obtain ⟨hd, h4⟩ := split_blank (itoa_blank d) (itoa_blank d') h3
  simp only [List.cons.injEq, true_and] at h4
  simp only [tailL, List.cons_append, List.nil_append] at h4
  obtain ⟨hc, h6⟩ := split_blank (itoa_blank c) (itoa_blank c') h4
  simp only [List.cons.injEq, true_and] at h6
  exact ⟨hx, itoa_inj hd, itoa_inj hc, h6⟩

theorem lineL_ends (x : List UInt8) (d c : Int) (p : List UInt8) : (tailL p).length ≤ (lineL x d c p).length ∧ (lineL x d c p).drop ((lineL x d c p).length - (tailL p).length) = tailL p := by
  have e : lineL x d c p = ([102, 105, 108, 101, 32] ++ (x ++ ([32, 100, 101, 103, 114, 101, 101, 32] ++ (itoa d ++ ([32, 99, 104, 117, 110, 107, 115, 32] ++ itoa c))))) ++ tailL p := by
    simp only [lineL, List.append_assoc]
  rw [e]
  generalize [102, 105, 108, 101, 32] ++ (x ++ ([32, 100, 101, 103, 114, 101, 101, 32] ++ (itoa d ++ ([32, 99, 104, 117, 110, 107, 115, 32] ++ itoa c)))) = a
  rw [List.length_append, Nat.add_sub_cancel, List.drop_left]
  exact ⟨by omega, rfl⟩

theorem lineL_length (x : List UInt8) (d c : Int) (p : List UInt8) : (lineL x d c p).length = x.length + (itoa d).length + (itoa c).length + p.length + 27 := by
  simp [lineL, tailL]
  omega

end Go.Proofs.Qxb6615812aFmt
