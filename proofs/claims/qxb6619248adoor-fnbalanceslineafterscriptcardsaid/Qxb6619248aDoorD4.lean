import Derived.Test.Qxb6619248aDoorD3
import Derived.Maps.AppendAt
namespace Go.Proofs.Qxb6619248aDoor
open Go.RowKit

/-- a buffer that grows beside others: the blocks from lo to hi are none of its own, and are kept -/
structure BufS (lo hi B : Nat) (W0 : World) (v : Value) (l : List UInt8) (w : World) : Prop where
  buf : Buf B W0 v l w
  sep : ∀ g, v.ownBlock = some g → g < lo ∨ hi ≤ g
  top : hi ≤ w.heap.size
  mid : ∀ k, lo ≤ k → k < hi → w.heap[k]? = W0.heap[k]?

theorem BufS.grown {lo hi B : Nat} {W0 w w' : World} {v v' : Value} {l l' : List UInt8} (h : BufS lo hi B W0 v l w) (ho : w'.ownsRow B 5 1 v' l'.length (Lib.byteCells l')) (hg : w.grownBy w' v.ownBlock)
    (hat : v'.ownBlock = v.ownBlock ∨ v'.ownBlock = some w.heap.size) : BufS lo hi B W0 v' l' w' := by
  refine ⟨h.buf.grown ho hg, fun g hgv => ?_, Nat.le_trans h.top hg.size, fun k h1 h2 => ?_⟩
  · rcases hat with e | e
    · exact h.sep g (by rw [← e]; exact hgv)
    · rw [e] at hgv; cases hgv; exact .inr h.top
  · rw [hg.block k (by have := h.top; omega) (fun e => by rcases h.sep k e.symm with h3 | h3 <;> omega)]
    exact h.mid k h1 h2
theorem BufS.alloc {lo hi B : Nat} {W0 w : World} {v : Value} {l : List UInt8} (h : BufS lo hi B W0 v l w) (o : Obj) : BufS lo hi B W0 v l (w.alloc o) :=
  ⟨h.buf.alloc o, h.sep, Nat.le_trans h.top (by simp), fun k h1 h2 => by rw [Below.heap_alloc _ _ _ (by have := h.top; omega)]; exact h.mid k h1 h2⟩
theorem BufS.after {lo hi B : Nat} {W0 w w' : World} {v : Value} {l : List UInt8} (h : BufS lo hi B W0 v l w) (hb : Below w.heap.size w w') : BufS lo hi B W0 v l w' :=
  ⟨h.buf.after hb, h.sep, Nat.le_trans h.top hb.size, fun k h1 h2 => by rw [hb.block k (by have := h.top; omega)]; exact h.mid k h1 h2⟩

/-- where a string's append leaves the slice -/
theorem append_string_at (w : World) (base : Nat) (ty : TypeId) (v : Value) (n : Nat) (xs : List Value) (hown : w.ownsRow base 5 1 v n xs) (s : ByteArray) (hlen : n + s.size ≤ 140737488355328) (hbase : base ≤ w.heap.size) :
    ∃ v' w', (Builtin.append_ #[22, 9] ty #[v, .string s]).run Tryd.prog w = .ok v' w' ∧ w'.ownsRow base 5 1 v' (n + s.size) (xs ++ Lib.strCells s) ∧ w.grownBy w' v.ownBlock ∧ (v'.ownBlock = v.ownBlock ∨ v'.ownBlock = some w.heap.size) := by
  obtain ⟨i0, hi, hz0, hz1, hz2⟩ := info_parts Tryd.info5
  obtain ⟨v', w', hr, ho, hg, hn⟩ := Lib.run_append_own_string (P := Tryd.prog) w base 22 9 ty 5 i0 Tryd.underlying22 Tryd.underlying9 hi hz0 hz1 hz2 v n xs hown s (by unfold maxLen; omega) (by omega) hbase
  refine ⟨v', w', hr, ho, hg, ?_⟩
  rcases hown.2 with ⟨rfl, rfl⟩ | ⟨g, cap, cur, rfl, hbg, hh, hnc, hcm, hcs, htake⟩
  · by_cases hs : s.size = 0
    · exact .inl (by rw [hn.2 ⟨rfl, hs⟩])
    · right
      have hr2 := run_append_nil_string (P := Tryd.prog) w 22 9 ty 5 i0 (.int .u8 0) Tryd.underlying22 Tryd.underlying9 hi hz0 s (by omega) (by omega) (by rw [hz2]; omega)
      rw [hr2] at hr
      cases hr
      rfl
  · by_cases hroom : n + s.size ≤ cap
    · have hr2 := Lib.run_append_room_string (P := Tryd.prog) w 22 9 ty 5 i0 Tryd.underlying22 Tryd.underlying9 hi hz1 g n cap cur hh s hroom (by omega)
      rw [hr2] at hr
      cases hr
      exact .inl rfl
    · right
      have hr2 := Lib.run_append_grow_string (P := Tryd.prog) w 22 9 ty 5 i0 (.int .u8 0) Tryd.underlying22 Tryd.underlying9 hi hz0 ⟨g, 0, none⟩ n cap xs (by rw [hz1]; simpa using hown.1) (hown.cells (g := g) rfl) s (by omega) (by omega)
        (by rw [hz2]; exact growslice_fits (by omega) (by omega))
      rw [hr2] at hr
      cases hr
      rfl

section
variable {ops : Array Oper} {rest : List Oper} {o : Oper} {a : Act} {Q : Exit → Act → World → Prop}

theorem wpList_sep_slice {w : World} (hgd : o.guard = none) (s x : Operand)
    (ho : o.op = .call { callee := .builtin .append, args := #[s, x], argTypes := #[22, 22] })
    {lo hi B : Nat} {v : Value} {l : List UInt8} (hs : a.eval s = v) {W0 : World} (hb : BufS lo hi B W0 v l w) (l2 : List UInt8) (ad : Addr) (c : Nat)
    (hx : a.eval x = .slice (some ad) l2.length c) (hc : ∀ j u, (Lib.byteCells l2)[j]? = some u → w.cell? (ad.add j) = some u) (hlen : l.length + l2.length ≤ 140737488355328)
    (h : ∀ v' w', BufS lo hi B W0 v' (l ++ l2) w' → wpList Tryd.prog ops Q rest (a.put o.dst v') w') : wpList Tryd.prog ops Q (o :: rest) a w := by
  obtain ⟨i0, hi0, hz0, hz1, hz2⟩ := info_parts Tryd.info5
  refine wpList_append_own_at _ hgd s x 22 ho B 5 i0 (.int .u8 0) 1 1 Tryd.underlying22 hi0 hz0 hz1 hz2 rfl (by decide) v l.length _ hs hb.buf.own ad l2.length c (Lib.byteCells l2) hx (by rw [Lib.byteCells_length]; omega) hc (byteCells_one _) (by unfold maxLen; omega) (by omega) hb.buf.base ?_
  intro v' w' ho' hg _ hat
  exact h v' w' (hb.grown (by rw [List.length_append, Lib.byteCells_append]; exact ho') hg hat)

theorem wpList_sep_byte {w : World} (hgd : o.guard = none) (s x : Operand)
    (ho : o.op = .call { callee := .builtin .append, args := #[s, x], argTypes := #[22, 22] })
    {lo hi B : Nat} {v : Value} {l : List UInt8} (hs : a.eval s = v) {W0 : World} (c8 : UInt8) (c : Int) (hc8 : (c8.toNat : Int) = c) {w0 : World} (hb : BufS lo hi B W0 v l w0)
    (hx : a.eval x = .slice (some ⟨w0.heap.size, 0, none⟩) 1 1) (hw : w = w0.alloc (.cells #[.int .u8 c] 5)) (hlen : l.length + 1 ≤ 140737488355328)
    (h : ∀ v' w', BufS lo hi B W0 v' (l ++ [c8]) w' → wpList Tryd.prog ops Q rest (a.put o.dst v') w') : wpList Tryd.prog ops Q (o :: rest) a w := by
  subst hw
  subst hc8
  refine wpList_sep_slice hgd s x ho hs (hb.alloc _) [c8] ⟨w0.heap.size, 0, none⟩ 1 hx ?_ hlen h
  intro j u hj
  match j, hj with
  | 0, hj => simp [Lib.byteCells] at hj; subst hj; simp [Addr.add]
  | (j + 1), hj => simp [Lib.byteCells] at hj

theorem wpList_sep_text {w : World} (hgd : o.guard = none) (s x : Operand)
    (ho : o.op = .call { callee := .builtin .append, args := #[s, x], argTypes := #[22, 9] })
    {lo hi B : Nat} {v : Value} {l : List UInt8} (hs : a.eval s = v) {W0 : World} (hb : BufS lo hi B W0 v l w) (t : ByteArray) (hx : a.eval x = .string t) (hlen : l.length + t.size ≤ 140737488355328)
    (h : ∀ v' w', BufS lo hi B W0 v' (l ++ t.data.toList) w' → wpList Tryd.prog ops Q rest (a.put o.dst v') w') : wpList Tryd.prog ops Q (o :: rest) a w := by
  refine wpList_plain hgd fun K hK => ?_
  obtain ⟨v', w', hr, h2, h3, h4⟩ := append_string_at w B o.type v l.length _ hb.buf.own t hlen hb.buf.base
  unfold Oper.wp execOp
  simp only [ho, resolve, invoke, builtin, Sem.run_bind, Sem.run_pure, Result.andThen_ok, List.map_toArray, List.map_cons, List.map_nil, hs, hx, hr]
  refine hK _ _ (h v' w' (hb.grown ?_ h3 h4))
  rw [List.length_append, Lib.byteCells_append]
  rw [Lib.strCells_eq] at h2
  exact h2
end
end Go.Proofs.Qxb6619248aDoor
