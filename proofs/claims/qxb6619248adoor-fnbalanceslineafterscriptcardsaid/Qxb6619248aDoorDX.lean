import Derived.Test.Qxb6619248aDoorD5
import Derived.Lib.SlBytesConst
namespace Go.Proofs.Qxb6619248aDoor
open Go.RowKit

/-- a slice that is full: nothing is ever written into its row; or a buffer -/
def Ex (B : Nat) (W0 : World) (v : Value) (L : List UInt8) (w : World) : Prop :=
  Buf B W0 v L w ∨ (Keeps B W0 w ∧ B ≤ w.heap.size ∧ ∃ g, v = .slice (some ⟨g, 0, none⟩) L.length L.length ∧ ∀ j u, (Lib.byteCells L)[j]? = some u → w.cell? ((⟨g, 0, none⟩ : Addr).add j) = some u)

theorem grown_row (w : World) (B n old : Nat) (xs news : List Value) (hB : B ≤ w.heap.size) (hn : (xs ++ news).length = n) (hm : n ≤ maxLen) :
    (w.drew.alloc (.cells (xs.toArray ++ news.toArray ++ Builtin.zeroCells (Value.int .u8 0).cells (grownCap w n old 5 - n)) 5)).ownsRow B 5 1 (.slice (some ⟨w.heap.size, 0, none⟩) n (grownCap w n old 5)) n (xs ++ news) := by
  have hge := grownCap_ge w n old 5
  have hz1 : (Value.int IntKind.u8 0).cells.size = 1 := rfl
  refine ⟨by rw [hn]; omega, .inr ⟨w.heap.size, _, _, rfl, hB, heap_alloc_new w.drew _, hge, grownCap_le_maxLen w n old 5 hm, ?_, ?_⟩⟩
  · have : xs.length + news.length = n := by rw [← hn, List.length_append]
    simp only [Array.size_append, List.size_toArray, size_zeroCells, hz1]
    omega
  · simp only [Array.toList_append, List.append_assoc]
    rw [← List.append_assoc, Nat.mul_one, ← hn]
    exact List.take_left

theorem drew_alloc_below (w : World) (o : Obj) : Below w.heap.size w (w.drew.alloc o) := ((Below.refl _ w).drew).alloc (Nat.le_refl _) o

section
variable {ops : Array Oper} {rest : List Oper} {o : Oper} {a : Act} {Q : Exit → Act → World → Prop}
theorem wpList_ex_text {w : World} (hgd : o.guard = none) (s x : Operand)
    (ho : o.op = .call { callee := .builtin .append, args := #[s, x], argTypes := #[22, 9] })
    {B : Nat} {v : Value} {l : List UInt8} (hs : a.eval s = v) {W0 : World} (hb : Ex B W0 v l w) (t : ByteArray) (hx : a.eval x = .string t) (hlen : l.length + t.size ≤ 140737488355328)
    (h : ∀ v' w', Ex B W0 v' (l ++ t.data.toList) w' → wpList Tryd.prog ops Q rest (a.put o.dst v') w') : wpList Tryd.prog ops Q (o :: rest) a w := by
  rcases hb with hb | ⟨hbel, hB, g, rfl, hc⟩
  · exact wpList_buf_text hgd s x ho hs hb t hx hlen (fun v' w' h' => h v' w' (.inl h'))
  · obtain ⟨i0, hi, hz0, hz1, hz2⟩ := info_parts Tryd.info5
    have hcl : (Lib.byteCells l).length = l.length := Lib.byteCells_length l
    refine wpList_plain hgd fun K hK => ?_
    by_cases ht : t.size = 0
    · have he : t.data.toList = [] := List.eq_nil_of_length_eq_zero ht
      have hr : (Builtin.append_ #[22, 9] o.type #[.slice (some ⟨g, 0, none⟩) l.length l.length, .string t]).run Tryd.prog w = .ok (.slice (some ⟨g, 0, none⟩) l.length l.length) w := by
        have hf := Lib.run_firstCells_string (P := Tryd.prog) w 1 t
        have hn : Lib.strCells t = [] := List.eq_nil_of_length_eq_zero (by rw [Lib.strCells_length]; exact ht)
        rw [ht, hn] at hf
        simp [Builtin.append_, run_underlying Tryd.underlying22, run_underlying Tryd.underlying9, sizeOf, typeInfo, hi, hz1, Builtin.lenOf, ht, hf, storeCells]
      unfold Oper.wp execOp
      simp only [ho, resolve, invoke, builtin, Sem.run_bind, Sem.run_pure, Result.andThen_ok, List.map_toArray, List.map_cons, List.map_nil, hs, hx, hr]
      refine hK _ _ (h _ w (.inr ⟨hbel, hB, g, ?_, ?_⟩))
      · rw [he, List.append_nil]
      · rw [he, List.append_nil]; exact hc
    · have hr := Lib.run_append_grow_string (P := Tryd.prog) w 22 9 o.type 5 i0 (.int .u8 0) Tryd.underlying22 Tryd.underlying9 hi hz0 ⟨g, 0, none⟩ l.length l.length (Lib.byteCells l) (by rw [hz1, hcl]; omega) hc t (by omega) (by omega) (by rw [hz2]; exact growslice_fits (by omega) (by omega))
      unfold Oper.wp execOp
      simp only [ho, resolve, invoke, builtin, Sem.run_bind, Sem.run_pure, Result.andThen_ok, List.map_toArray, List.map_cons, List.map_nil, hs, hx, hr]
      have hrow := grown_row w B (l.length + t.size) l.length (Lib.byteCells l) (Lib.strCells t) hB (by rw [List.length_append, hcl, Lib.strCells_length]) (by unfold maxLen; omega)
      have hbel2 : Below w.heap.size w (w.drew.alloc (.cells ((Lib.byteCells l).toArray ++ (Lib.strCells t).toArray ++ Builtin.zeroCells (Value.int .u8 0).cells (grownCap w (l.length + t.size) l.length 5 - (l.length + t.size))) 5)) :=
        ((Below.refl _ w).drew).alloc (Nat.le_refl _) _
      refine hK _ _ (h _ _ (.inl ⟨?_, hbel.trans (keeps_below hbel2 hB), Nat.le_trans hB hbel2.size⟩))
      rw [List.length_append, Lib.byteCells_append, ← Lib.strCells_eq]
      exact hrow

theorem wpList_ex_byte {w : World} (hgd : o.guard = none) (s x : Operand)
    (ho : o.op = .call { callee := .builtin .append, args := #[s, x], argTypes := #[22, 22] })
    {B : Nat} {v : Value} {l : List UInt8} (hs : a.eval s = v) {W0 : World} (c8 : UInt8) (c : Int) (hc8 : (c8.toNat : Int) = c) {w0 : World} (hb : Ex B W0 v l w0)
    (hx : a.eval x = .slice (some ⟨w0.heap.size, 0, none⟩) 1 1) (hw : w = w0.alloc (.cells #[.int .u8 c] 5)) (hlen : l.length + 1 ≤ 140737488355328)
    (h : ∀ v' w', Buf B W0 v' (l ++ [c8]) w' → wpList Tryd.prog ops Q rest (a.put o.dst v') w') : wpList Tryd.prog ops Q (o :: rest) a w := by
  rcases hb with hb | ⟨hbel, hB, g, rfl, hc⟩
  · exact wpList_buf_nilslice hgd s x ho hs c8 c hc8 hb hx hw hlen h
  · subst hw
    subst hc8
    obtain ⟨i0, hi, hz0, hz1, hz2⟩ := info_parts Tryd.info5
    have hcl : (Lib.byteCells l).length = l.length := Lib.byteCells_length l
    refine wpList_plain hgd fun K hK => ?_
    have hB' : B ≤ (w0.alloc (.cells #[.int .u8 (c8.toNat : Int)] 5)).heap.size := Nat.le_trans hB (by simp)
    have hk' : Keeps B W0 (w0.alloc (.cells #[.int .u8 (c8.toNat : Int)] 5)) := hbel.alloc hB _
    have hr := run_append_grow (P := Tryd.prog) (w0.alloc (.cells #[.int .u8 (c8.toNat : Int)] 5)) 22 o.type 5 i0 (.int .u8 0) Tryd.underlying22 hi hz0 ⟨g, 0, none⟩ l.length l.length (Lib.byteCells l) (by rw [hz1, hcl]; omega)
      (fun j u hj => by rw [World.cell?_alloc_lt _ _ _ (block_lt_of_cell (hc j u hj))]; exact hc j u hj)
      ⟨w0.heap.size, 0, none⟩ 1 1 (Lib.byteCells [c8]) (by rw [hz1, Lib.byteCells_length]; rfl)
      (by
        intro j u hj
        match j, hj with
        | 0, hj => simp [Lib.byteCells] at hj; subst hj; simp [Addr.add]
        | (j + 1), hj => simp [Lib.byteCells] at hj) (by omega) (by omega) (by rw [hz2]; exact growslice_fits (by omega) (by omega))
    unfold Oper.wp execOp
    simp only [ho, resolve, invoke, builtin, Sem.run_bind, Sem.run_pure, Result.andThen_ok, List.map_toArray, List.map_cons, List.map_nil, hs, hx, hr]
    have hrow := grown_row (w0.alloc (.cells #[.int .u8 (c8.toNat : Int)] 5)) B (l.length + 1) l.length (Lib.byteCells l) (Lib.byteCells [c8]) hB' (by rw [List.length_append, hcl, Lib.byteCells_length]; rfl) (by unfold maxLen; omega)
    refine hK _ _ (h _ _ ⟨?_, hk'.trans (keeps_below (drew_alloc_below _ _) hB'), Nat.le_trans hB' (by simp)⟩)
    rw [List.length_append, Lib.byteCells_append]
    exact hrow
end
/-- the constant's row: full, and marked -/
theorem ex_const (w : World) : Ex w.heap.size w (.slice (some ⟨w.heap.size, 0, none⟩) 9 9) (headB ++ [32]) (w.alloc (.cells #[.int .u8 66, .int .u8 65, .int .u8 76, .int .u8 65, .int .u8 78, .int .u8 67, .int .u8 69, .int .u8 83, .int .u8 32] 5 (9, 9 + 1))) := by
  refine .inr ⟨(Keeps.refl _ _).alloc (Nat.le_refl _) _, by simp, w.heap.size, rfl, fun j u hj => ?_⟩
  rw [WideShapes.add_plain, Nat.zero_add]
  have hh : (w.alloc (.cells #[.int .u8 66, .int .u8 65, .int .u8 76, .int .u8 65, .int .u8 78, .int .u8 67, .int .u8 69, .int .u8 83, .int .u8 32] 5 (9, 9 + 1))).heap[w.heap.size]? = some (.cells #[.int .u8 66, .int .u8 65, .int .u8 76, .int .u8 65, .int .u8 78, .int .u8 67, .int .u8 69, .int .u8 83, .int .u8 32] 5 (9, 9 + 1)) := Go.Deep.blk_alloc_new _ _
  simp only [World.cell?, hh]
  have e : Lib.byteCells (headB ++ [32]) = [.int .u8 66, .int .u8 65, .int .u8 76, .int .u8 65, .int .u8 78, .int .u8 67, .int .u8 69, .int .u8 83, .int .u8 32] := rfl
  rw [e] at hj
  simpa using hj
theorem itoa_pos (v : Int) : 0 < (Lib.itoa v).length := by
  unfold Lib.itoa
  split
  · simp
  · exact decDigits_pos _
end Go.Proofs.Qxb6619248aDoor
