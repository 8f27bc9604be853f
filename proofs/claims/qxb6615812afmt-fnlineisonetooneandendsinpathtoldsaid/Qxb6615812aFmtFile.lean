/-
  zzFile and zzBytes_FnLineIsOneToOneAndEndsInPath by their contracts.
-/
import Derived.Test.Qxb6615812aFmtLine
namespace Go.Proofs.Qxb6615812aFmt
open Go.RowKit Go.Extern.Stop Go.Stop Go.Extern Go.Lib

/-- The record's cells: thirty-two bytes, the degree, the chunks, the path. -/
def rowC (ids : List Int) (d c : Int) (p : ByteArray) : Array Value := (ids.map (Value.int .u8) ++ [Value.int .i64 d, Value.int .i64 c, Value.string p]).toArray

theorem rowC_size {ids : List Int} (h : ids.length = 32) (d c : Int) (p : ByteArray) : (rowC ids d c p).size = 35 := by simp [rowC, h]
theorem rowC_32 {ids : List Int} (h : ids.length = 32) (d c : Int) (p : ByteArray) : (rowC ids d c p)[32]? = some (.int .i64 d) := by simp [rowC, h]
theorem rowC_33 {ids : List Int} (h : ids.length = 32) (d c : Int) (p : ByteArray) : (rowC ids d c p)[33]? = some (.int .i64 c) := by simp [rowC, h]
theorem rowC_34 {ids : List Int} (h : ids.length = 32) (d c : Int) (p : ByteArray) : (rowC ids d c p)[34]? = some (.string p) := by simp [rowC, h]

theorem list32 {α : Type} (l : List α) (h : l.length = 32) : ∃ x0 x1 x2 x3 x4 x5 x6 x7 x8 x9 x10 x11 x12 x13 x14 x15 x16 x17 x18 x19 x20 x21 x22 x23 x24 x25 x26 x27 x28 x29 x30 x31,
    l = [x0, x1, x2, x3, x4, x5, x6, x7, x8, x9, x10, x11, x12, x13, x14, x15, x16, x17, x18, x19, x20, x21, x22, x23, x24, x25, x26, x27, x28, x29, x30, x31] := by
  match l, h with
  | [x0, x1, x2, x3, x4, x5, x6, x7, x8, x9, x10, x11, x12, x13, x14, x15, x16, x17, x18, x19, x20, x21, x22, x23, x24, x25, x26, x27, x28, x29, x30, x31], _ =>
    exact ⟨x0, x1, x2, x3, x4, x5, x6, x7, x8, x9, x10, x11, x12, x13, x14, x15, x16, x17, x18, x19, x20, x21, x22, x23, x24, x25, x26, x27, x28, x29, x30, x31, rfl⟩

theorem built28 (ids : List Int) (h : ids.length = 32) (d c : Int) (p : ByteArray) : Tryf.prog.built 28 [(0, .agg (idC ids)), (1, .int .i64 d), (2, .int .i64 c), (3, .string p)] = some (rowC ids d c p) := by
  obtain ⟨x0, x1, x2, x3, x4, x5, x6, x7, x8, x9, x10, x11, x12, x13, x14, x15, x16, x17, x18, x19, x20, x21, x22, x23, x24, x25, x26, x27, x28, x29, x30, x31, rfl⟩ := list32 ids h
  kernel_rfl

theorem wpList_build4 {P : Program} {ops : Array Oper} {rest : List Oper} {op : Oper} {a : Act} {w : World} {Q : Exit → Act → World → Prop} (hgd : op.guard = none) (t : TypeId) (x0 x1 x2 x3 : Operand) (ho : op.op = .build t #[(0, x0), (1, x1), (2, x2), (3, x3)])
    (cells : Array Value) (v0 v1 v2 v3 : Value) (h0 : a.eval x0 = v0) (h1 : a.eval x1 = v1) (h2 : a.eval x2 = v2) (h3 : a.eval x3 = v3) (hf : P.built t [(0, v0), (1, v1), (2, v2), (3, v3)] = some cells)
    (h : wpList P ops Q rest (a.put op.dst (.agg cells)) w) : wpList P ops Q (op :: rest) a w :=
  wpList_plain hgd fun _ hK => by
    subst h0 h1 h2 h3
    unfold Oper.wp execOp
    have hb := run_build (P := P) w t #[(0, a.eval x0), (1, a.eval x1), (2, a.eval x2), (3, a.eval x3)] cells hf
    simp only [ho, Sem.run_bind, List.map_toArray, List.map_cons, List.map_nil, hb, Result.andThen_ok]
    exact hK _ _ h

theorem Tryf.size22 : (Tryf.prog.info? 22).map (·.size) = some 32 := by kernel_rfl
theorem Tryf.size24 : (Tryf.prog.info? 24).map (·.size) = some 35 := by kernel_rfl
theorem Tryf.size28 : (Tryf.prog.info? 28).map (·.size) = some 35 := by kernel_rfl

theorem there_new (W : World) (Z : Array Value) (t : TypeId) (b n : Nat) (hb : b = W.heap.size) (h : Z.size = n) : (W.alloc (.cells Z t)).there b 0 n := by
  subst hb
  have hh : (W.alloc (.cells Z t)).heap[W.heap.size]? = some (.cells Z t (0, 0)) := by show (W.heap.push _)[W.heap.size]? = _; simp
  intro j hj
  rw [Nat.zero_add, cell_of_row _ _ j Z t (0, 0) hh, frozen_of_row _ _ j Z t hh]
  exact ⟨by simp [h, hj], rfl⟩

theorem below_setAll {B b : Nat} {a : World} (hb : B ≤ b) : ∀ (vs : List Value) (o : Nat) (w : World), Below B a w → Below B a (w.setCells b o vs)
  | [], _, _, h => h
  | v :: r, o, w, h => below_setAll hb r (o + 1) _ (h.setCell (by exact hb) v)

theorem results_cell1 {P : Program} {fn : Func} {t : TypeId} {k : Tmp} {b : Addr} {v : Value} {w : World} (h : fn.results = #[.cell k t]) (tmps : Array Value) (hk : tmps.getD k undef = .pointer (some b))
    (hv : (loadVar t b).run P w = .ok v w) : (results fn tmps).run P w = .ok v w := by
  rw [Array.getD_eq_getD_getElem?] at hk
  simp only [results, h]
  simp [hk, asAddr, hv]

theorem load_stored (W : World) (Z A : Array Value) (b : Nat) (hb : b = W.heap.size) (hZ : Z.size = 35) (hA : A.size = 35) :
    (loadVar 28 ⟨b, 0, none⟩).run Tryf.prog ((W.alloc (.cells Z 28)).setCells b 0 A.toList) = .ok (.agg A) ((W.alloc (.cells Z 28)).setCells b 0 A.toList) := by
  have h := run_loadVar_mid (P := Tryf.prog) _ b 0 28 A.toList _ (World.rangeAt_setCells_same _ b 0 A.toList (there_new W Z 28 b _ hb (by rw [Array.length_toList, hA, hZ]))) Tryf.underlying28 rfl (by rw [Array.length_toList, hA]; exact Tryf.size28)
  rw [Array.toArray_toList] at h
  exact h

set_option maxHeartbeats 400000 in
theorem file_core (A I : Array Value) (d c : Int) (p : ByteArray) (w : World)
    (h32 : A[32]? = some (.int .i64 d)) (h33 : A[33]? = some (.int .i64 c)) (h34 : A[34]? = some (.string p)) (hr : Hid (∀ o, ((w.alloc (.cells A 24)).alloc o).rangeAt w.heap.size 0 I.toList)) (hI : Hid (I.toList.length = 32))
    (hA : Hid (A.size = 35)) (hone : Hid (A.all (·.oneCell') = true)) (hb : Hid (Tryf.prog.built 28 [(0, .agg I), (1, .int .i64 d), (2, .int .i64 c), (3, .string p)] = some A)) :
    Calls Tryf.prog 5 #[.agg A] w fun e w' => e = .returned (.agg A) ∧ Below w.heap.size w w' := by
  go_enter Tryf.func5, Tryf.ntmps5
  go_wp2_with (first
    | (refine wpList_load_mid rfl 22 (.tmp 3) rfl w.heap.size 0 rfl I.toList _ (hr.out _) Tryf.underlying22 rfl (by rw [hI.out]; exact Tryf.size22) ?_)
    | (refine wpList_build4 rfl 28 (.tmp 4) (.tmp 6) (.tmp 8) (.tmp 10) rfl A (.agg I) (.int .i64 d) (.int .i64 c) (.string p) rfl rfl rfl rfl hb.out ?_)
    | (refine wpList_store_mid rfl 28 (.tmp 2) (.tmp 11) rfl (w.heap.size + 1) 0 A rfl rfl ?ht (by rw [hA.out]; exact Tryf.size28) hone.out ?_))
  case ht => exact there_new _ _ 28 _ _ (by simp) (by rw [hA.out]; rfl)
  refine bodyPost_ret (v := .agg A) (results_cell1 rfl _ rfl ?hl) rfl ⟨rfl, below_setAll (by omega) _ _ _ (((Below.refl _ w).alloc (Nat.le_refl _) _).alloc (by simp) _)⟩
  case hl => exact load_stored _ _ A _ (by simp) rfl hA.out

theorem range_id {W : World} {b : Nat} {t : TypeId} {ids : List Int} {d c : Int} {p : ByteArray} (hb : W.heap[b]? = some (.cells (rowC ids d c p) t (0, 0))) : W.rangeAt b 0 (idC ids).toList := by
  intro j v hv
  rw [Nat.zero_add, cell_of_row _ _ j _ t (0, 0) hb]
  have hj : j < (ids.map (Value.int .u8)).length := by
    have := (List.getElem?_eq_some_iff.1 hv).1
    simpa [idC] using this
  have hv' : (ids.map (Value.int .u8))[j]? = some v := hv
  rw [rowC, List.getElem?_toArray, List.getElem?_append_left hj]
  exact hv'

theorem range_all {W : World} {b : Nat} {t : TypeId} {A : Array Value} (hb : W.heap[b]? = some (.cells A t (0, 0))) : W.rangeAt b 0 A.toList := by
  intro j v hv
  rw [Nat.zero_add, cell_of_row _ _ j _ t (0, 0) hb]
  simpa using hv

theorem rowC_one (ids : List Int) (d c : Int) (p : ByteArray) : (rowC ids d c p).all (·.oneCell') = true := by
  refine all_oneCell_toArray fun v hv => ?_
  rcases List.mem_append.1 hv with hv | hv
  · obtain ⟨x, _, rfl⟩ := List.mem_map.1 hv
    rfl
  · simp only [List.mem_cons, List.not_mem_nil, or_false] at hv
    rcases hv with rfl | rfl | rfl <;> rfl

theorem file_all (ids : List Int) (d c : Int) (p : ByteArray) (w : World) (h : ids.length = 32) :
    Calls Tryf.prog 5 #[.agg (rowC ids d c p)] w fun e w' => e = .returned (.agg (rowC ids d c p)) ∧ Below w.heap.size w w' :=
  file_core (rowC ids d c p) (idC ids) d c p w (rowC_32 h d c p) (rowC_33 h d c p) (rowC_34 h d c p)
    (fun o => range_id (t := 24) (d := d) (c := c) (p := p) (by show ((w.heap.push _).push _)[w.heap.size]? = _; rw [Array.getElem?_push, if_neg (by simp), Array.getElem?_push, if_pos rfl])) (by show (idC ids).toList.length = 32; rw [Array.length_toList, idC_size h]) (rowC_size h d c p) (rowC_one ids d c p) (built28 ids h d c p)

/-- The line as a Go string. -/
def lineS (ids : List Int) (d c : Int) (p : ByteArray) : ByteArray := ⟨(lineL (Hx.encode (Lib.bytesOf ids)) d c p.data.toList).toArray⟩

theorem enc_length {ids : List Int} (h : ids.length = 32) : (Hx.encode (Lib.bytesOf ids)).length = 64 := by rw [Hx.encode_length, Lib.bytesOf_length, h]

theorem told_line (F : Interp) (ids : List Int) (d c : Int) (p : ByteArray) (h : ids.length = 32) (hd : (Lit.int .i64 d).wf = true) (hc : (Lit.int .i64 c).wf = true) (hp : p.size ≤ 1048576) :
    FmtStop.textOf (F.told "fmt.Sprintf" (reading (hexS ids).data.toList d c p.data.toList) 0) = lineS ids d c p := by
  have e : (hexS ids).data.toList = Hx.encode (Lib.bytesOf ids) := rfl
  have hpl : p.data.toList.length = p.size := by simp
  have l1 := FmtText.itoa_length_le hd
  have l2 := FmtText.itoa_length_le hc
  have l3 := enc_length h
  have ht := told_string F (t_text (Hx.encode (Lib.bytesOf ids)) d c p.data.toList hd hc (by omega)) (by rw [lineL_length]; omega)
  rw [← Go.Kit.textOf_list] at ht
  rw [e, lineS, ← ht]

theorem line_all (F : Interp) (ids : List Int) (d c : Int) (p : ByteArray) (w : World) (hF : F.told.answers w.tape) (h : ids.length = 32) (hr : ∀ x ∈ ids, 0 ≤ x ∧ x < 256) (hd : (Lit.int .i64 d).wf = true) (hc : (Lit.int .i64 c).wf = true) (hp : p.size ≤ 1048576) :
    Calls Tryf.prog 6 #[.agg (rowC ids d c p)] w fun e w' => e = .returned (.string (lineS ids d c p)) ∧ Below w.heap.size w w' := by
  have := line_core F.told (rowC ids d c p) (idC ids) d c p (hexS ids) w hF (rowC_32 h d c p) (rowC_33 h d c p) (rowC_34 h d c p)
    (range_id (t := 28) (d := d) (c := c) (p := p) (by show (w.heap.push _)[w.heap.size]? = _; simp)) (by show (idC ids).toList.length = 32; rw [Array.length_toList, idC_size h]) (fun w1 => id_string ids w1 h hr)
  rw [told_line F ids d c p h hd hc hp] at this
  exact this

set_option maxHeartbeats 400000 in
theorem bytes_ok (A B : Array Value) (p q : ByteArray) (w : World) (ha : A[34]? = some (.string p)) (hb : B[34]? = some (.string q)) (h : p.size + q.size ≤ 1048576) :
    Calls Tryf.prog 4 #[.agg A, .agg B] w fun e w' => e = .returned (.bool true) ∧ Below w.heap.size w w' := by
  go_enter Tryf.func4, Tryf.ntmps4
  go_wp2
  go_ret
  exact ⟨rfl, ((Below.refl _ w).alloc (Nat.le_refl _) _).alloc (by simp) _⟩

set_option maxHeartbeats 800000 in
theorem bytes_no (A B : Array Value) (p q : ByteArray) (w : World) (ha : A[34]? = some (.string p)) (hb : B[34]? = some (.string q)) (hp : p.size ≤ 9223372036854775807) (hq : q.size ≤ 9223372036854775807) (h : 1048576 < p.size + q.size) :
    Calls Tryf.prog 4 #[.agg A, .agg B] w fun e w' => e = .returned (.bool false) ∧ Below w.heap.size w w' := by
  by_cases h1 : 1048576 < p.size
  · go_enter Tryf.func4, Tryf.ntmps4
    go_wp2
    go_ret
    exact ⟨rfl, ((Below.refl _ w).alloc (Nat.le_refl _) _).alloc (by simp) _⟩
  · by_cases h2 : 1048576 < q.size
    · go_enter Tryf.func4, Tryf.ntmps4
      go_wp2
      go_ret
      exact ⟨rfl, ((Below.refl _ w).alloc (Nat.le_refl _) _).alloc (by simp) _⟩
    · go_enter Tryf.func4, Tryf.ntmps4
      go_wp2
      go_ret
      exact ⟨rfl, ((Below.refl _ w).alloc (Nat.le_refl _) _).alloc (by simp) _⟩
end Go.Proofs.Qxb6615812aFmt
