import Derived.Test.Qxb6619248aDoorW1
import Derived.Lib.BufSteps
import Derived.Lib.BufferRead
import Derived.Lib.AppendIntMem
import Derived.Lib.ItoaLen
import Derived.Lib.Slices
import Derived.Laws.IdiomStrings
import Derived.Laws.CopyOwn
import Derived.Laws.CopyRow
import Derived.OwnWalk
namespace Go.Proofs.Qxb6619248aDoor
open Go.RowKit

theorem Tryd.info5 : (Tryd.prog.info? 5).map (fun i => (i.zero, i.size, i.bytes)) = some (some (.int .u8 0), 1, 1) := by kernel_rfl
theorem Tryd.size5 : (Tryd.prog.info? 5).map (·.size) = some 1 := by kernel_rfl

/-- below B everything is kept; from B on everything but the rows of bytes -/
structure Keeps (B : Nat) (w w' : World) : Prop where
  below : Below B w w'
  others : Lib.OthersKept 5 none w w'
theorem Keeps.refl (B : Nat) (w : World) : Keeps B w w := ⟨Below.refl _ _, Lib.OthersKept.refl _ _ _⟩
theorem Keeps.trans {B : Nat} {a b c : World} (h : Keeps B a b) (k : Keeps B b c) : Keeps B a c := ⟨h.below.trans k.below, h.others.trans k.others⟩
theorem Keeps.alloc {B : Nat} {a w : World} (h : Keeps B a w) (hB : B ≤ w.heap.size) (o : Obj) : Keeps B a (w.alloc o) := ⟨h.below.alloc hB o, h.others.alloc o⟩
/-- from the heap's size on: everything that was there is kept -/
theorem keeps_below {B : Nat} {w w' : World} (h : Below w.heap.size w w') (hB : B ≤ w.heap.size) : Keeps B w w' :=
  ⟨h.mono hB, fun k o hk _ _ => by
    rw [h.block k (Array.getElem?_eq_some_iff.1 hk).1]; exact hk⟩

/-- a buffer of the call's own: its bytes are l -/
structure Buf (B : Nat) (W0 : World) (v : Value) (l : List UInt8) (w : World) : Prop where
  own : w.ownsRow B 5 1 v l.length (Lib.byteCells l)
  keeps : Keeps B W0 w
  base : B ≤ w.heap.size

theorem Buf.nil {B : Nat} {W0 w : World} (h : Keeps B W0 w) (hB : B ≤ w.heap.size) : Buf B W0 (.slice none 0 0) [] w := ⟨World.ownsRow_nil _ _ _ _, h, hB⟩
theorem own_row {w : World} {B : Nat} {v : Value} {n : Nat} {xs : List Value} (h : w.ownsRow B 5 1 v n xs) : ∀ g, v.ownBlock = some g → ∃ c fz, w.heap[g]? = some (.cells c 5 fz) := by
  intro g hg
  rcases h.2 with ⟨rfl, _⟩ | ⟨g', cap, cur, rfl, _, hh, _⟩
  · simp [Value.ownBlock] at hg
  · simp [Value.ownBlock] at hg
    subst hg
    exact ⟨_, _, hh⟩
theorem Buf.grown {B : Nat} {W0 w w' : World} {v v' : Value} {l l' : List UInt8} (h : Buf B W0 v l w) (ho : w'.ownsRow B 5 1 v' l'.length (Lib.byteCells l')) (hg : w.grownBy w' v.ownBlock) : Buf B W0 v' l' w' :=
  ⟨ho, ⟨h.keeps.below.grown hg h.base (fun k hk => (h.own.lt k hk).1), h.keeps.others.grown hg (own_row h.own)⟩, Nat.le_trans h.base hg.size⟩
theorem Buf.alloc {B : Nat} {W0 w : World} {v : Value} {l : List UInt8} (h : Buf B W0 v l w) (o : Obj) : Buf B W0 v l (w.alloc o) :=
  ⟨h.own.alloc o, h.keeps.alloc h.base o, Nat.le_trans h.base (by simp)⟩
/-- behind something that keeps all that was there -/
theorem Buf.after {B : Nat} {W0 w w' : World} {v : Value} {l : List UInt8} (h : Buf B W0 v l w) (hb : Below w.heap.size w w') : Buf B W0 v l w' :=
  ⟨h.own.kept (row := none) ⟨hb.os, hb.tape, hb.output, hb.size, fun k hk _ => hb.block k hk⟩ (by cases hv : v.ownBlock <;> simp), h.keeps.trans (keeps_below hb h.base), Nat.le_trans h.base hb.size⟩
/-- counted from a later world -/
theorem Buf.since {B : Nat} {W0 w : World} {v : Value} {l : List UInt8} (h : Buf B W0 v l w) : Buf B w v l w := ⟨h.own, Keeps.refl _ _, h.base⟩
theorem Buf.back {B : Nat} {W0 W1 w : World} {v : Value} {l : List UInt8} (h : Buf B W1 v l w) (k : Keeps B W0 W1) : Buf B W0 v l w := ⟨h.own, k.trans h.keeps, h.base⟩

theorem byteCells_one (l : List UInt8) : ∀ u ∈ Lib.byteCells l, u.oneCell' = true := by
  intro u hu
  simp only [Lib.byteCells, List.mem_map] at hu
  obtain ⟨b, _, rfl⟩ := hu
  rfl

section
variable {ops : Array Oper} {rest : List Oper} {o : Oper} {a : Act} {Q : Exit → Act → World → Prop}

theorem wpList_buf_slice {w : World} (hgd : o.guard = none) (s x : Operand)
    (ho : o.op = .call { callee := .builtin .append, args := #[s, x], argTypes := #[22, 22] })
    {B : Nat} {v : Value} {l : List UInt8} (hs : a.eval s = v) {W0 : World} (hb : Buf B W0 v l w) (l2 : List UInt8) (ad : Addr) (c : Nat)
    (hx : a.eval x = .slice (some ad) l2.length c) (hc : ∀ j u, (Lib.byteCells l2)[j]? = some u → w.cell? (ad.add j) = some u) (hlen : l.length + l2.length ≤ 140737488355328)
    (h : ∀ v' w', Buf B W0 v' (l ++ l2) w' → w.grownBy w' v.ownBlock → wpList Tryd.prog ops Q rest (a.put o.dst v') w') : wpList Tryd.prog ops Q (o :: rest) a w := by
  obtain ⟨i0, hi, hz0, hz1, hz2⟩ := info_parts Tryd.info5
  refine wpList_append_own _ hgd s x 22 ho B 5 i0 (.int .u8 0) 1 1 Tryd.underlying22 hi hz0 hz1 hz2 rfl (by decide) v l.length _ hs hb.own ad l2.length c (Lib.byteCells l2) hx (by rw [Lib.byteCells_length]; omega) hc (byteCells_one _) (by unfold maxLen; omega) (by omega) hb.base ?_
  intro v' w' ho' hg _
  exact h v' w' (hb.grown (by rw [List.length_append, Lib.byteCells_append]; exact ho') hg) hg

theorem wpList_buf_nilslice {w : World} (hgd : o.guard = none) (s x : Operand)
    (ho : o.op = .call { callee := .builtin .append, args := #[s, x], argTypes := #[22, 22] })
    {B : Nat} {v : Value} {l : List UInt8} (hs : a.eval s = v) {W0 : World} (c8 : UInt8) (c : Int) (hc8 : (c8.toNat : Int) = c) {w0 : World} (hb : Buf B W0 v l w0)
    (hx : a.eval x = .slice (some ⟨w0.heap.size, 0, none⟩) 1 1) (hw : w = w0.alloc (.cells #[.int .u8 c] 5)) (hlen : l.length + 1 ≤ 140737488355328)
    (h : ∀ v' w', Buf B W0 v' (l ++ [c8]) w' → wpList Tryd.prog ops Q rest (a.put o.dst v') w') : wpList Tryd.prog ops Q (o :: rest) a w := by
  subst hw
  subst hc8
  refine wpList_buf_slice hgd s x ho hs (hb.alloc _) [c8] ⟨w0.heap.size, 0, none⟩ 1 hx ?_ hlen (fun v' w' h1 _ => h v' w' h1)
  intro j u hj
  match j, hj with
  | 0, hj => simp [Lib.byteCells] at hj; subst hj; simp [Addr.add]
  | (j + 1), hj => simp [Lib.byteCells] at hj

theorem wpList_buf_text {w : World} (hgd : o.guard = none) (s x : Operand)
    (ho : o.op = .call { callee := .builtin .append, args := #[s, x], argTypes := #[22, 9] })
    {B : Nat} {v : Value} {l : List UInt8} (hs : a.eval s = v) {W0 : World} (hb : Buf B W0 v l w) (t : ByteArray) (hx : a.eval x = .string t) (hlen : l.length + t.size ≤ 140737488355328)
    (h : ∀ v' w', Buf B W0 v' (l ++ t.data.toList) w' → wpList Tryd.prog ops Q rest (a.put o.dst v') w') : wpList Tryd.prog ops Q (o :: rest) a w := by
  obtain ⟨i0, hi, hz0, hz1, hz2⟩ := info_parts Tryd.info5
  refine Lib.wpList_append_own_string _ hgd s x 22 9 ho B 5 i0 Tryd.underlying22 Tryd.underlying9 hi hz0 hz1 hz2 v l.length _ hs hb.own t hx (by unfold maxLen; omega) (by omega) hb.base ?_
  intro v' w' ho' hg _
  refine h v' w' (hb.grown ?_ hg)
  rw [List.length_append, Lib.byteCells_append]
  rw [Lib.strCells_eq] at ho'
  exact ho'
end

theorem appendInt_any {B : Nat} {W0 : World} {v : Value} {l : List UInt8} {w : World} (h : Buf B W0 v l w) (i : Int) (h0 : -9223372036854775808 ≤ i) (h1 : i ≤ 9223372036854775807) (hlim : l.length + 21 ≤ 140737488355328)
    (htab : Lib.TabBelow Tryd.prog B W0 "internal/strconv.uint64pow10" .u64 Lib.pow10Tab) :
    Calls Tryd.prog 18 #[v, .int .i64 i, .int .i64 10] w fun e w' => ∃ v', e = .returned v' ∧ Buf B W0 v' (l ++ Lib.itoa i) w' := by
  refine (Any.strconv_AppendInt_10 Tryd.lays176 B l.length i h0 h1 v _ w h.own h.base hlim (htab.on h.keeps.below)).mono ?_
  rintro e w' ⟨v', rfl, hown, hbel, hoth⟩
  refine ⟨v', rfl, ⟨?_, h.keeps.trans ⟨hbel, hoth⟩, Nat.le_trans h.base hbel.size⟩⟩
  rw [List.length_append, Lib.byteCells_append]
  exact hown

/-- 'string(b)' of a buffer -/
theorem Buf.str {B : Nat} {W0 : World} {v : Value} {l : List UInt8} {w : World} (h : Buf B W0 v l w) : (convert 22 9 v).run Tryd.prog w = .ok (.string ⟨l.toArray⟩) w := by
  rcases h.own.2 with ⟨rfl, h0⟩ | ⟨g, cap, cur, rfl, hr⟩
  · have : l = [] := List.eq_nil_of_length_eq_zero h0
    subst this
    exact Lib.run_convert_nil_bytes (P := Tryd.prog) w 22 9 5 0 Tryd.underlying22 Tryd.underlying5 Tryd.underlying9
  · exact run_convert_bytes_back (P := Tryd.prog) w 22 9 5 ⟨g, 0, none⟩ cap l Tryd.underlying22 Tryd.underlying5 Tryd.underlying9 (fun j hj => h.own.cells (g := g) rfl j _ (by simp [Lib.byteCells, hj]))

/-- where a buffer that is not empty lies -/
theorem Buf.at {B : Nat} {W0 : World} {v : Value} {l : List UInt8} {w : World} (h : Buf B W0 v l w) (hl : 0 < l.length) :
    ∃ g cap, v = .slice (some ⟨g, 0, none⟩) l.length cap ∧ B ≤ g ∧ g < w.heap.size ∧ l.length ≤ cap ∧ (cap : Int) ≤ 9223372036854775807 ∧ ∀ j u, (Lib.byteCells l)[j]? = some u → w.cell? ⟨g, 0 + j, none⟩ = some u := by
  rcases h.own.2 with ⟨rfl, h0⟩ | ⟨g, cap, cur, rfl, h1, h2, h3, h4, h5⟩
  · omega
  · refine ⟨g, cap, rfl, h1, (Array.getElem?_eq_some_iff.1 h2).1, h3, by unfold maxLen at h4; omega, fun j u hj => ?_⟩
    have := h.own.cells (g := g) rfl j u hj
    rw [WideShapes.add_plain] at this
    exact this

/-- a slice of bytes that came in -/
def IsBytes (w : World) (a : Option Addr) (l : List UInt8) : Prop :=
  (a = none ∧ l = []) ∨ ∃ ad, a = some ad ∧ ∀ j u, (Lib.byteCells l)[j]? = some u → w.cell? (ad.add j) = some u

theorem copy_bytes (w : World) (l : List UInt8) (ad : Addr) (cap : Nat) (hc : ∀ j u, (Lib.byteCells l)[j]? = some u → w.cell? (ad.add j) = some u) (hlen : l.length ≤ 1048576) :
    ∃ w2, (Builtin.copy_ #[22, 22] 3 #[.slice (some ⟨w.heap.size, 0, none⟩) l.length l.length, .slice (some ad) l.length cap]).run Tryd.prog (w.alloc (.cells (madeCells #[.int .u8 0] l.length) 5)) = .ok (goInt l.length) w2 ∧
      Buf w.heap.size w (.slice (some ⟨w.heap.size, 0, none⟩) l.length l.length) l w2 := by
  have hg : (w.alloc (.cells (madeCells #[.int .u8 0] l.length) 5)).heap[w.heap.size]? = some (.cells (madeCells #[.int .u8 0] l.length) 5 (0, 0)) := Go.Deep.blk_alloc_new _ _
  have hsz : (madeCells #[Value.int .u8 0] l.length).size = l.length := size_madeCells _ _
  have hcl : (Lib.byteCells l).length = l.length := Lib.byteCells_length l
  have hrun := run_copy_row (P := Tryd.prog) (w.alloc (.cells (madeCells #[.int .u8 0] l.length) 5)) 22 22 3 5 w.heap.size 0 l.length l.length ad l.length cap _ 5 (Lib.byteCells l) Tryd.underlying22 Tryd.size5 hg
    (by rw [hcl]; exact (Nat.min_self _).symm)
    (fun j v hj => by
      have h := hc j v hj
      rw [World.cell?_alloc_lt _ _ _ (block_lt_of_cell h)]; exact h)
    (by rw [hcl, hsz]; omega) (byteCells_one _)
  rw [hcl] at hrun
  refine ⟨_, hrun, ?_⟩
  have h2 := setRow_heap _ w.heap.size _ ((madeCells #[Value.int .u8 0] l.length).toList.take 0 ++ Lib.byteCells l ++ (madeCells #[Value.int .u8 0] l.length).toList.drop (0 + l.length)).toArray 5 (0, 0) hg
  have hd : (madeCells #[Value.int .u8 0] l.length).toList.drop (0 + l.length) = [] := List.drop_eq_nil_of_le (by rw [Array.length_toList, hsz]; omega)
  rw [hd] at h2 ⊢
  have hbel : Below w.heap.size w ((w.alloc (.cells (madeCells #[.int .u8 0] l.length) 5)).setRow w.heap.size ((madeCells #[Value.int .u8 0] l.length).toList.take 0 ++ Lib.byteCells l ++ []).toArray) :=
    below_setRow ((Below.refl _ _).alloc (Nat.le_refl _) _) (Nat.le_refl _) _
  refine ⟨⟨by rw [hcl]; omega, .inr ⟨w.heap.size, l.length, _, rfl, Nat.le_refl _, h2, Nat.le_refl _, by unfold maxLen; omega, by simp [hcl], ?_⟩⟩, keeps_below hbel (Nat.le_refl _), hbel.size⟩
  simp [← hcl]
end Go.Proofs.Qxb6619248aDoor
