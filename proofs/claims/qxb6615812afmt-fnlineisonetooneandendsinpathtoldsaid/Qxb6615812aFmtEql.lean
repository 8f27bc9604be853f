/-
  '==' ON TWO RECORDS: by the library's law on deep keys.
-/
import Derived.Test.Qxb6615812aFmtFile
import Derived.DeepKeys
import Derived.Laws.StructEq
namespace Go.Proofs.Qxb6615812aFmt
open Go.RowKit Go.Extern.Stop Go.Stop Go.Extern Go.Lib

theorem mapM_all {α β : Type} (f : α → Option β) (g : α → β) : ∀ (l : List α), (∀ x ∈ l, f x = some (g x)) → l.mapM f = some (l.map g)
  | [], _ => rfl
  | a :: l, h => by
    rw [List.mapM_cons, h a List.mem_cons_self, mapM_all f g l (fun x hx => h x (List.mem_cons_of_mem _ hx))]
    rfl

theorem Tryf.cells22 : Tryf.prog.cellsOf 22 = 32 := by kernel_rfl
theorem Tryf.cells24 : Tryf.prog.cellsOf 24 = 35 := by kernel_rfl
theorem Tryf.cells3 : Tryf.prog.cellsOf 3 = 1 := by kernel_rfl
theorem Tryf.cells9 : Tryf.prog.cellsOf 9 = 1 := by kernel_rfl
theorem Tryf.cells5 : Tryf.prog.cellsOf 5 = 1 := by kernel_rfl

theorem key_ids (ids : List Int) (h : ids.length = 32) (hw : ∀ x ∈ ids, (Lit.int .u8 x).wf = true) : Tryf.prog.keyLits 2 22 (ids.map (Value.int .u8)) = some (ids.map (Lit.int .u8)) := by
  have hk : ∀ x, (Lit.int .u8 x).wf = true → Tryf.prog.keyLits 1 5 [Value.int .u8 x] = some [Lit.int .u8 x] := fun x hx => by
    simp [Program.keyLits, Tryf.underlying5, hx]
  unfold Program.keyLits
  rw [Tryf.underlying22]
  simp only [List.length_map, h, Tryf.cells22, if_true, Tryf.cells5, Nat.mul_one]
  rw [mapM_all _ (fun i => [Lit.int .u8 (ids.getD i 0)]) (List.range 32) (fun i hi => by
    have hi' : i < ids.length := by rw [h]; exact List.mem_range.1 hi
    have e : ((ids.map (Value.int .u8)).drop i).take 1 = [Value.int .u8 (ids.getD i 0)] := by
      rw [List.drop_eq_getElem_cons (by simpa using hi'), List.getD_eq_getElem?_getD, List.getElem?_eq_getElem hi']
      simp
    have hwi : (Lit.int .u8 (ids.getD i 0)).wf = true := by
      rw [List.getD_eq_getElem?_getD, List.getElem?_eq_getElem hi']
      exact hw _ (List.getElem_mem _)
    rw [e]
    exact hk _ hwi)]
  obtain ⟨x0, x1, x2, x3, x4, x5, x6, x7, x8, x9, x10, x11, x12, x13, x14, x15, x16, x17, x18, x19, x20, x21, x22, x23, x24, x25, x26, x27, x28, x29, x30, x31, rfl⟩ := list32 ids h
  rfl

/-- The record as a list of literals. -/
def rowK (ids : List Int) (d c : Int) (p : ByteArray) : List Lit := ids.map (Lit.int .u8) ++ [Lit.int .i64 d, Lit.int .i64 c, Lit.string p.data.toList]

theorem key_row (ids : List Int) (d c : Int) (p : ByteArray) (h : ids.length = 32) (hw : ∀ x ∈ ids, (Lit.int .u8 x).wf = true) (hd : (Lit.int .i64 d).wf = true) (hc : (Lit.int .i64 c).wf = true) (hp : p.size ≤ maxLen) :
    Tryf.prog.keyLits 3 24 (rowC ids d c p).toList = some (rowK ids d c p) := by
  have hl : (ids.map (Value.int .u8)).length = 32 := by simpa using h
  have e0 : (((rowC ids d c p).toList).drop 0).take 32 = ids.map (Value.int .u8) := by
    rw [rowC, List.drop_zero, List.take_left' hl]
  have e1 : (((rowC ids d c p).toList).drop 32).take 1 = [Value.int .i64 d] := by
    rw [rowC, List.drop_left' hl]; rfl
  have e2 : (((rowC ids d c p).toList).drop 33).take 1 = [Value.int .i64 c] := by
    rw [rowC, show 33 = 32 + 1 from rfl, ← List.drop_drop, List.drop_left' hl]; rfl
  have e3 : (((rowC ids d c p).toList).drop 34).take 1 = [Value.string p] := by
    rw [rowC, show 34 = 32 + 2 from rfl, ← List.drop_drop, List.drop_left' hl]; rfl
  have k1 : ∀ x, (Lit.int .i64 x).wf = true → Tryf.prog.keyLits 2 3 [Value.int .i64 x] = some [Lit.int .i64 x] := fun x hx => by
    simp [Program.keyLits, Tryf.underlying3, hx]
  have k3 : Tryf.prog.keyLits 2 9 [Value.string p] = some [Lit.string p.data.toList] := by
    simp [Program.keyLits, Tryf.underlying9, hp]
  have hlen : (rowC ids d c p).toList.length = 35 := by rw [Array.length_toList, rowC_size h]
  unfold Program.keyLits
  rw [Tryf.underlying24]
  simp only [hlen, Tryf.cells24, true_and]
  rw [if_pos (by simp)]
  simp only [List.mapM_cons, List.mapM_nil, Tryf.cells22, Tryf.cells3, Tryf.cells9, e0, e1, e2, e3, key_ids ids h hw, k1 d hd, k1 c hc, k3]
  simp [rowK]

theorem Tryf.keyType24 : Tryf.prog.keyTypeAt 3 24 = true := by kernel_rfl
theorem Tryf.eqGuard24 : Tryf.prog.eqGuardType Tryf.prog.depth 24 = false := by kernel_rfl

theorem formed_row (ids : List Int) (d c : Int) (p : ByteArray) (h : ids.length = 32) : (Value.agg (rowC ids d c p)).formed Tryf.prog 24 = true := by
  simp [Value.formed, Tryf.underlying24, rowC_size h, Tryf.cells24]

theorem rowK_inj {ids ids' : List Int} {d c d' c' : Int} {p p' : ByteArray} (h : ids.length = 32) (h' : ids'.length = 32) : rowK ids d c p = rowK ids' d' c' p' ↔ (ids = ids' ∧ d = d' ∧ c = c' ∧ p.data.toList = p'.data.toList) := by
  refine ⟨fun e => ?_, fun ⟨e1, e2, e3, e4⟩ => by rw [rowK, rowK, e1, e2, e3, e4]⟩
  obtain ⟨e1, e2⟩ := List.append_inj e (by simp [h, h'])
  have e1' : ids = ids' := by
    exact (List.map_inj_right (fun a b hab => by simpa using hab)).1 e1
  simp only [List.cons.injEq, Lit.int.injEq, Lit.string.injEq, true_and, and_true] at e2
  exact ⟨e1', e2⟩

/-- '==' on two records. -/
theorem equal_row (ids ids' : List Int) (d c d' c' : Int) (p p' : ByteArray) (h : ids.length = 32) (hw : ∀ x ∈ ids, (Lit.int .u8 x).wf = true) (hd : (Lit.int .i64 d).wf = true) (hc : (Lit.int .i64 c).wf = true) (hp : p.size ≤ maxLen)
    (h' : ids'.length = 32) (hw' : ∀ x ∈ ids', (Lit.int .u8 x).wf = true) (hd' : (Lit.int .i64 d').wf = true) (hc' : (Lit.int .i64 c').wf = true) (hp' : p'.size ≤ maxLen) (w : World) :
    (Op.equalIn 10000 24 (.agg (rowC ids d c p)) (.agg (rowC ids' d' c' p'))).run Tryf.prog w = .ok (decide (ids = ids' ∧ d = d' ∧ c = c' ∧ p.data.toList = p'.data.toList)) w := by
  obtain ⟨r, hr, hiff⟩ := run_equalIn_deep 9997 3 24 Tryf.keyType24 w 3 3 (.agg (rowC ids d c p)) (.agg (rowC ids' d' c' p')) _ _ (formed_row ids d c p h) (formed_row ids' d' c' p' h') (key_row ids d c p h hw hd hc hp) (key_row ids' d' c' p' h' hw' hd' hc' hp')
  rw [rowK_inj h h'] at hiff
  have e : r = decide (ids = ids' ∧ d = d' ∧ c = c' ∧ p.data.toList = p'.data.toList) := by
    rw [Bool.eq_iff_iff, hiff, decide_eq_true_iff]
  rw [← e]
  exact hr

theorem wpList_eql_agg {P : Program} {ops : Array Oper} {rest : List Oper} {op : Oper} {a : Act} {w : World} {Q : Exit → Act → World → Prop} (hgd : op.guard = none) (t u : TypeId) (x y : Operand) (ho : op.op = .binOp .eql t x y u)
    (xs ys : Array Value) (r : Bool) (hx : a.eval x = .agg xs) (hy : a.eval y = .agg ys) (hm : P.eqGuardType P.depth t = false) (hr : (Op.equalIn 10000 t (.agg xs) (.agg ys)).run P w = .ok r w)
    (h : wpList P ops Q rest (a.put op.dst (.bool r)) w) : wpList P ops Q (op :: rest) a w :=
  wpList_plain hgd fun _ hK => by
    unfold Oper.wp execOp
    simp only [ho, hx, hy, Sem.run_bind, run_eqGuard_agg w .eql t x y xs ys hm, run_eql_struct, hr, Result.andThen_ok]
    exact hK _ _ h

end Go.Proofs.Qxb6615812aFmt
