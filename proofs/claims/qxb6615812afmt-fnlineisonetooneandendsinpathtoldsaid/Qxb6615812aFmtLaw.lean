/-
  FnLineIsOneToOneAndEndsInPath: THE WALK.
-/
import Derived.Test.Qxb6615812aFmtEql
namespace Go.Proofs.Qxb6615812aFmt
open Go.RowKit Go.Extern.Stop Go.Stop Go.Extern Go.Lib

theorem keeps {W w1 : World} {b o : Nat} {cs : List Value} (hb : Below W.heap.size W w1) (hr : W.rangeAt b o cs) (hlt : b < W.heap.size) : w1.rangeAt b o cs := by
  intro j v hv
  rw [hb.cell (p := ⟨b, o + j, none⟩) hlt]
  exact hr j v hv

theorem at34 {w1 : World} {b : Nat} {A : Array Value} {v : Value} (hr : w1.rangeAt b 0 A.toList) (ha : A[34]? = some v) : w1.cell? ⟨b, 34, none⟩ = some v := by
  have := hr 34 v (by simpa using ha)
  rwa [Nat.zero_add] at this

theorem ret_bool {b : Bool} (h : b = true) : Ending.returned (.bool b) = .returned (.bool true) := by rw [h]

set_option maxHeartbeats 400000 in
theorem law_no (A B : Array Value) (w : World) (hA : Hid (A.toList.length = 35)) (hB : Hid (B.toList.length = 35))
    (hb : Hid (∀ w1, Calls Tryf.prog 4 #[.agg A, .agg B] w1 fun e w' => e = .returned (.bool false) ∧ Below w1.heap.size w1 w')) :
    Calls Tryf.prog 3 #[.agg A, .agg B] w fun e w' => e = .returned (.bool true) ∧ Below w.heap.size w w' := by
  have hrA : Hid (((w.alloc (.cells A 24)).alloc (.cells B 24)).rangeAt w.heap.size 0 A.toList) := range_all (t := 24) (by show ((w.heap.push _).push _)[w.heap.size]? = _; rw [Array.getElem?_push, if_neg (by simp), Array.getElem?_push, if_pos rfl])
  have hrB : Hid (((w.alloc (.cells A 24)).alloc (.cells B 24)).rangeAt (w.heap.size + 1) 0 B.toList) := range_all (t := 24) (by show ((w.heap.push _).push _)[w.heap.size + 1]? = _; rw [Array.getElem?_push, if_pos (by simp)])
  go_enter Tryf.func3, Tryf.ntmps3
  go_wp2_with (first
    | (refine wpList_load_mid rfl 24 (.tmp 2) rfl w.heap.size 0 rfl A.toList _ hrA.out Tryf.underlying24 rfl (by rw [hA.out]; exact Tryf.size24) ?_)
    | (refine wpList_load_mid rfl 24 (.tmp 3) rfl (w.heap.size + 1) 0 rfl B.toList _ hrB.out Tryf.underlying24 rfl (by rw [hB.out]; exact Tryf.size24) ?_))
  refine (hb.out _).mono ?_
  rintro e w1 ⟨rfl, hb1⟩
  go_wp2
  go_ret
  have h2 : Below w.heap.size w ((w.alloc (.cells A 24)).alloc (.cells B 24)) := ((Below.refl _ w).alloc (Nat.le_refl _) _).alloc (by simp) _
  exact ⟨rfl, h2.trans (hb1.mono h2.size)⟩

set_option maxHeartbeats 1000000 in
theorem law_ok (A B : Array Value) (p q la lb : ByteArray) (w : World) (hA : Hid (A.toList.length = 35)) (hB : Hid (B.toList.length = 35)) (ha : A[34]? = some (.string p)) (hb' : B[34]? = some (.string q)) (hpq : p.size + q.size ≤ 1048576)
    (hb : Hid (∀ w1, Calls Tryf.prog 4 #[.agg A, .agg B] w1 fun e w' => e = .returned (.bool true) ∧ Below w1.heap.size w1 w'))
    (hfA : Hid (∀ w1, Calls Tryf.prog 5 #[.agg A] w1 fun e w' => e = .returned (.agg A) ∧ Below w1.heap.size w1 w'))
    (hfB : Hid (∀ w1, Calls Tryf.prog 5 #[.agg B] w1 fun e w' => e = .returned (.agg B) ∧ Below w1.heap.size w1 w'))
    (hlA : Hid (∀ w1, w1.tape = w.tape → Calls Tryf.prog 6 #[.agg A] w1 fun e w' => e = .returned (.string la) ∧ Below w1.heap.size w1 w'))
    (hlB : Hid (∀ w1, w1.tape = w.tape → Calls Tryf.prog 6 #[.agg B] w1 fun e w' => e = .returned (.string lb) ∧ Below w1.heap.size w1 w'))
    (heq : Hid (∀ w1, (Op.equalIn 10000 24 (.agg A) (.agg B)).run Tryf.prog w1 = .ok (la.toList == lb.toList) w1)) (hle : 6 + p.size ≤ la.size) (hla : la.size ≤ 9223372036854775807)
    (hend : Hid ((la.extract (la.size - (6 + p.size)) la.size).toList = ((⟨#[32, 112, 97, 116, 104, 32]⟩ : ByteArray) ++ p).toList)) :
    Calls Tryf.prog 3 #[.agg A, .agg B] w fun e w' => e = .returned (.bool true) ∧ Below w.heap.size w w' := by
  have hrA : Hid (((w.alloc (.cells A 24)).alloc (.cells B 24)).rangeAt w.heap.size 0 A.toList) := range_all (t := 24) (by show ((w.heap.push _).push _)[w.heap.size]? = _; rw [Array.getElem?_push, if_neg (by simp), Array.getElem?_push, if_pos rfl])
  have hrB : Hid (((w.alloc (.cells A 24)).alloc (.cells B 24)).rangeAt (w.heap.size + 1) 0 B.toList) := range_all (t := 24) (by show ((w.heap.push _).push _)[w.heap.size + 1]? = _; rw [Array.getElem?_push, if_pos (by simp)])
  have h2 : Hid (Below w.heap.size w ((w.alloc (.cells A 24)).alloc (.cells B 24))) := ((Below.refl _ w).alloc (Nat.le_refl _) _).alloc (by simp) _
  go_enter Tryf.func3, Tryf.ntmps3
  go_wp2_with (first
    | (refine wpList_load_mid rfl 24 (.tmp 2) rfl w.heap.size 0 rfl A.toList _ hrA.out Tryf.underlying24 rfl (by rw [hA.out]; exact Tryf.size24) ?_)
    | (refine wpList_load_mid rfl 24 (.tmp 3) rfl (w.heap.size + 1) 0 rfl B.toList _ hrB.out Tryf.underlying24 rfl (by rw [hB.out]; exact Tryf.size24) ?_))
  refine (hb.out _).mono ?_
  rintro e w1 ⟨rfl, hb1⟩
  obtain ⟨W0, hW0⟩ : ∃ W0, W0 = (w.alloc (.cells A 24)).alloc (.cells B 24) := ⟨_, rfl⟩
  have hs0' : W0.heap.size = w.heap.size + 1 + 1 := by rw [hW0]; simp
  have hs0 : Hid (W0.heap.size = w.heap.size + 1 + 1) := hs0'
  clear hs0'
  rw [← hW0] at hrA hrB h2 hb1
  have k1 : Hid (w1.rangeAt w.heap.size 0 A.toList ∧ w1.rangeAt (w.heap.size + 1) 0 B.toList) := ⟨keeps hb1 hrA.out (by rw [hs0.out]; omega), keeps hb1 hrB.out (by rw [hs0.out]; omega)⟩
  have hca : w1.cell? ⟨w.heap.size, 34, none⟩ = some (.string p) := at34 k1.out.1 ha
  have hcb : w1.cell? ⟨w.heap.size + 1, 34, none⟩ = some (.string q) := at34 k1.out.2 hb'
  have B1 : Hid (Below W0.heap.size W0 w1) := hb1
  clear hb1 hW0
  go_wp2_with (refine wpList_load_mid rfl 24 (.tmp 2) rfl w.heap.size 0 rfl A.toList _ k1.out.1 Tryf.underlying24 rfl (by rw [hA.out]; exact Tryf.size24) ?_)
  refine (hfA.out _).mono ?_
  rintro e w2 ⟨rfl, hb2⟩
  have B2 : Hid (Below W0.heap.size W0 w2) := B1.out.trans (hb2.mono B1.out.size)
  clear hb2
  go_wp2_with fail
  refine (hlA.out _ (by rw [B2.out.tape, h2.out.tape])).mono ?_
  rintro e w3 ⟨rfl, hb3⟩
  have B3 : Hid (Below W0.heap.size W0 w3) := B2.out.trans (hb3.mono B2.out.size)
  have k3 : Hid (w3.rangeAt (w.heap.size + 1) 0 B.toList) := keeps B3.out hrB.out (by rw [hs0.out]; omega)
  clear hb3
  go_wp2_with (refine wpList_load_mid rfl 24 (.tmp 3) rfl (w.heap.size + 1) 0 rfl B.toList _ k3.out Tryf.underlying24 rfl (by rw [hB.out]; exact Tryf.size24) ?_)
  refine (hfB.out _).mono ?_
  rintro e w4 ⟨rfl, hb4⟩
  have B4 : Hid (Below W0.heap.size W0 w4) := B3.out.trans (hb4.mono B3.out.size)
  clear hb4
  go_wp2_with fail
  refine (hlB.out _ (by rw [B4.out.tape, h2.out.tape])).mono ?_
  rintro e w5 ⟨rfl, hb5⟩
  have B5 : Hid (Below W0.heap.size W0 w5) := B4.out.trans (hb5.mono B4.out.size)
  have k5 : Hid (w5.rangeAt w.heap.size 0 A.toList ∧ w5.rangeAt (w.heap.size + 1) 0 B.toList) := ⟨keeps B5.out hrA.out (by rw [hs0.out]; omega), keeps B5.out hrB.out (by rw [hs0.out]; omega)⟩
  have hca5 : w5.cell? ⟨w.heap.size, 34, none⟩ = some (.string p) := at34 k5.out.1 ha
  have hadd := run_string_add_sum (P := Tryf.prog) w5 (⟨#[32, 112, 97, 116, 104, 32]⟩ : ByteArray) p (by have : (⟨#[32, 112, 97, 116, 104, 32]⟩ : ByteArray).size = 6 := rfl; omega)
  clear hb5 hca hcb
  go_wp2_with (first
    | (refine wpList_load_mid rfl 24 (.tmp 2) rfl w.heap.size 0 rfl A.toList _ k5.out.1 Tryf.underlying24 rfl (by rw [hA.out]; exact Tryf.size24) ?_)
    | (refine wpList_load_mid rfl 24 (.tmp 3) rfl (w.heap.size + 1) 0 rfl B.toList _ k5.out.2 Tryf.underlying24 rfl (by rw [hB.out]; exact Tryf.size24) ?_)
    | (refine wpList_eql_agg rfl 24 24 (.tmp 41) (.tmp 42) rfl A B (la.toList == lb.toList) rfl rfl Tryf.eqGuard24 (heq.out _) ?_))
  go_ret
  exact ⟨ret_bool (by rw [hend.out]; simp), h2.out.trans (B5.out.mono h2.out.size)⟩

theorem lineS_size {ids : List Int} (h : ids.length = 32) (d c : Int) (p : ByteArray) : (lineS ids d c p).size = (itoa d).length + (itoa c).length + p.size + 91 := by
  show (lineL (Hx.encode (Lib.bytesOf ids)) d c p.data.toList).toArray.size = _
  have e : p.data.toList.length = p.size := by simp
  rw [List.size_toArray, lineL_length, enc_length h, e]
  omega

theorem lineS_end (ids : List Int) (d c : Int) (p : ByteArray) : ((lineS ids d c p).extract ((lineS ids d c p).size - (6 + p.size)) (lineS ids d c p).size).toList = ((⟨#[32, 112, 97, 116, 104, 32]⟩ : ByteArray) ++ p).toList := by
  obtain ⟨h1, h2⟩ := lineL_ends (Hx.encode (Lib.bytesOf ids)) d c p.data.toList
  have e1 : (tailL p.data.toList).length = 6 + p.size := by
    have e : p.data.toList.length = p.size := by simp
    rw [tailL, List.length_append, e]; rfl
  have e2 : (lineS ids d c p).size = (lineL (Hx.encode (Lib.bytesOf ids)) d c p.data.toList).length := by
    show (lineL (Hx.encode (Lib.bytesOf ids)) d c p.data.toList).toArray.size = _
    rw [List.size_toArray]
  rw [e1] at h1 h2
  rw [e2, ByteArray.toList_eq, ByteArray.toList_eq, lineS]
  generalize lineL (Hx.encode (Lib.bytesOf ids)) d c p.data.toList = L at h1 h2
  have e3 : ((⟨L.toArray⟩ : ByteArray).extract (L.length - (6 + p.size)) L.length).data.toList = (L.drop (L.length - (6 + p.size))).take (L.length - (L.length - (6 + p.size))) := by simp [ByteArray.data_extract]
  rw [e3, List.take_of_length_le (by rw [List.length_drop]; omega), h2, tailL, ByteArray.data_append, Array.toList_append]

theorem bytes_back : ∀ (l : List Int), (∀ x ∈ l, 0 ≤ x ∧ x < 256) → (Lib.bytesOf l).map (fun c => (c.toNat : Int)) = l
  | [], _ => rfl
  | x :: l, h => by
    have hx := h x List.mem_cons_self
    have e : ((UInt8.ofNat x.toNat).toNat : Int) = x := by rw [UInt8.toNat_ofNat']; omega
    show ((UInt8.ofNat x.toNat).toNat : Int) :: (Lib.bytesOf l).map (fun c => (c.toNat : Int)) = x :: l
    rw [e, bytes_back l (fun y hy => h y (List.mem_cons_of_mem _ hy))]

theorem bytesOf_inj {l m : List Int} (hl : ∀ x ∈ l, 0 ≤ x ∧ x < 256) (hm : ∀ x ∈ m, 0 ≤ x ∧ x < 256) (h : Lib.bytesOf l = Lib.bytesOf m) : l = m := by
  rw [← bytes_back l hl, ← bytes_back m hm, h]

/-- THE PLAIN LAW: the two lines are one just where the records are. -/
theorem lineS_one {ids ids' : List Int} (d c d' c' : Int) (p p' : ByteArray) (h : ids.length = 32) (h' : ids'.length = 32) (hr : ∀ x ∈ ids, 0 ≤ x ∧ x < 256) (hr' : ∀ x ∈ ids', 0 ≤ x ∧ x < 256) :
    decide (ids = ids' ∧ d = d' ∧ c = c' ∧ p.data.toList = p'.data.toList) = ((lineS ids d c p).toList == (lineS ids' d' c' p').toList) := by
  rw [Bool.eq_iff_iff, decide_eq_true_iff, beq_iff_eq, ByteArray.toList_eq, ByteArray.toList_eq]
  show _ ↔ lineL (Hx.encode (Lib.bytesOf ids)) d c p.data.toList = lineL (Hx.encode (Lib.bytesOf ids')) d' c' p'.data.toList
  refine ⟨fun ⟨e1, e2, e3, e4⟩ => by rw [e1, e2, e3, e4], fun e => ?_⟩
  obtain ⟨e1, e2, e3, e4⟩ := lineL_inj (by rw [enc_length h, enc_length h']) e
  exact ⟨bytesOf_inj hr hr' (encode_inj e1), e2, e3, e4⟩

theorem law_walk (F : Interp) (ids ids' : List Int) (d c d' c' : Int) (p p' : ByteArray) (w : World) (hF : F.told.answers w.tape)
    (h : ids.length = 32) (hw : ∀ x ∈ ids, (Lit.int .u8 x).wf = true) (hr : ∀ x ∈ ids, 0 ≤ x ∧ x < 256) (hd : (Lit.int .i64 d).wf = true) (hc : (Lit.int .i64 c).wf = true) (hp : p.size ≤ maxLen)
    (h' : ids'.length = 32) (hw' : ∀ x ∈ ids', (Lit.int .u8 x).wf = true) (hr' : ∀ x ∈ ids', 0 ≤ x ∧ x < 256) (hd' : (Lit.int .i64 d').wf = true) (hc' : (Lit.int .i64 c').wf = true) (hp' : p'.size ≤ maxLen) :
    Calls Tryf.prog 3 #[.agg (rowC ids d c p), .agg (rowC ids' d' c' p')] w fun e w' => e = .returned (.bool true) ∧ Below w.heap.size w w' := by
  have hA : (rowC ids d c p).toList.length = 35 := by rw [Array.length_toList, rowC_size h]
  have hB : (rowC ids' d' c' p').toList.length = 35 := by rw [Array.length_toList, rowC_size h']
  by_cases hpq : p.size + p'.size ≤ 1048576
  · have l1 := FmtText.itoa_length_le hd
    have l2 := FmtText.itoa_length_le hc
    have hs := lineS_size h d c p
    exact law_ok (rowC ids d c p) (rowC ids' d' c' p') p p' (lineS ids d c p) (lineS ids' d' c' p') w hA hB (rowC_34 h d c p) (rowC_34 h' d' c' p') hpq
      (fun w1 => bytes_ok _ _ p p' w1 (rowC_34 h d c p) (rowC_34 h' d' c' p') hpq)
      (fun w1 => file_all ids d c p w1 h) (fun w1 => file_all ids' d' c' p' w1 h')
      (fun w1 ht => line_all F ids d c p w1 (by rw [ht]; exact hF) h hr hd hc (by omega))
      (fun w1 ht => line_all F ids' d' c' p' w1 (by rw [ht]; exact hF) h' hr' hd' hc' (by omega))
      (fun w1 => by rw [equal_row ids ids' d c d' c' p p' h hw hd hc hp h' hw' hd' hc' hp' w1, lineS_one d c d' c' p p' h h' hr hr'])
      (by omega) (by omega) (lineS_end ids d c p)
  · exact law_no (rowC ids d c p) (rowC ids' d' c' p') w hA hB (fun w1 => bytes_no _ _ p p' w1 (rowC_34 h d c p) (rowC_34 h' d' c' p') hp hp' (by omega))
end Go.Proofs.Qxb6615812aFmt
