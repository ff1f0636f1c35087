import Derived.Test.Qxb6623286aY9
import Derived.Laws.CopyOwn
import Derived.Laws.CopyRow
namespace Go.Proofs.Qxb6623286a
open Go.RowKit

/-- the 'if's, in the text's order -/
def condsOf : Code → List Code
  | .cond x a b => .cond x a b :: (condsOf a ++ condsOf b)
  | .seq a b => condsOf a ++ condsOf b
  | .block _ c => condsOf c
  | .scope c => condsOf c
  | .loop c => condsOf c
  | _ => []
noncomputable def if3 (k : Nat) : Code := ((Try.f3.body.map condsOf).getD []).getD k .skip
noncomputable def body3 (k : Nat) : Code := ((Try.f3.body.map loopsOf).getD []).getD k .skip

theorem Try.info21' : (Try.prog.info? 21).map (·.size) = some 1 := by kernel_rfl
/-- not nil -/
def nn (a : Option Addr) : Bool := !a.isNone
theorem neq_nil22 (w : World) (a : Option Addr) (n c : Nat) : (binOp .neq 22 (.slice a n c) (.slice none 0 0)).run Try.prog w = .ok (.bool (nn a)) w := by
  simp only [binOp]
  simp [Op.equal, Op.maxDepth, Lib.run_equalIn_slice_nil w 9999 22 21 a n c 0 0 Try.underlying22, nn]

/-- what stands in a parameter's slot behind its copy -/
def CpR (w : World) (v : Value) (n : Nat) (f : Nat → Int) : Prop :=
  (v = .slice none 0 0 ∧ n = 0) ∨ ∃ b, v = .slice (some ⟨b, 0, none⟩) n n ∧ w.rowIs b 21 n (fun j => .int .i32 (f j))
theorem CpR.after {w w' : World} {v : Value} {n : Nat} {f : Nat → Int} (h : CpR w v n f) (hb : Below w.heap.size w w') : CpR w' v n f := by
  rcases h with h | ⟨b, e, hr⟩
  · exact .inl h
  · exact .inr ⟨b, e, hr.of_block (hb.block _ hr.lt)⟩
theorem CpR.i32 {w : World} {v : Value} {n : Nat} {f : Nat → Int} (h : CpR w v n f) : I32 w v n f := by
  rcases h with ⟨rfl, rfl⟩ | ⟨b, e, hr⟩
  · exact ⟨none, 0, rfl, fun h => absurd h (by omega)⟩
  · exact ⟨_, _, e, fun _ => ⟨b, 0, rfl, hr.lt, fun k hk => by rw [Nat.zero_add]; exact hr.cell hk⟩⟩
theorem CpR.row {w : World} {v : Value} {n : Nat} {f : Nat → Int} (h : CpR w v n f) (h0 : 0 < n) : ∃ b, v = .slice (some ⟨b, 0, none⟩) n n ∧ w.rowIs b 21 n (fun j => .int .i32 (f j)) := by
  rcases h with ⟨_, e⟩ | h
  · omega
  · exact h

theorem copy32 (w : World) (f : Nat → Int) (n cap : Nat) (ad : Addr) (h : 0 < n → ∃ b o, ad = ⟨b, o, none⟩ ∧ b < w.heap.size ∧ ∀ k, k < n → w.cell? ⟨b, o + k, none⟩ = some (.int .i32 (f k))) :
    ∃ W2, (Builtin.copy_ #[22, 22] 3 #[.slice (some ⟨w.heap.size, 0, none⟩) n n, .slice (some ad) n cap]).run Try.prog (w.alloc (.cells (madeCells #[.int .i32 0] n) 21)) = .ok (goInt n) W2 ∧
      Below w.heap.size w W2 ∧ W2.rowIs w.heap.size 21 n (fun k => .int .i32 (f k)) := by
  have hg : (w.alloc (.cells (madeCells #[.int .i32 0] n) 21)).heap[w.heap.size]? = some (.cells (madeCells #[.int .i32 0] n) 21 (0, 0)) := Go.Deep.blk_alloc_new _ _
  obtain ⟨cs, hcs⟩ : ∃ cs : List Value, cs = (List.range n).map (fun k => .int .i32 (f k)) := ⟨_, rfl⟩
  have hlen : cs.length = n := by rw [hcs]; simp
  have hget : ∀ j, j < n → cs[j]? = some (.int .i32 (f j)) := by intro j hj; rw [hcs]; simp [hj]
  have hsz : (madeCells #[Value.int .i32 0] n).size = n := size_madeCells _ _
  have hrun := run_copy_row (P := Try.prog) (w.alloc (.cells (madeCells #[.int .i32 0] n) 21)) 22 22 3 21 w.heap.size 0 n n ad n cap _ 21 cs Try.underlying22 Try.info21' hg
    (by rw [hlen]; exact (Nat.min_self n).symm)
    (fun j v hj => by
      have hjn : j < n := by
        rw [← hlen]; exact (List.getElem?_eq_some_iff.1 hj).1
      rw [hget j hjn] at hj
      cases hj
      obtain ⟨b, o, rfl, hb, hl⟩ := h (by omega)
      rw [WideShapes.add_plain, World.cell?_alloc_past _ _ _ hb]; exact hl j hjn)
    (by rw [hlen, hsz]; omega)
    (fun v hv => by
      rw [hcs] at hv
      obtain ⟨k, _, rfl⟩ := List.mem_map.1 hv
      rfl)
  rw [hlen] at hrun
  refine ⟨_, hrun, ?_, ?_⟩
  · exact below_setRow ((Below.refl _ _).alloc (Nat.le_refl _) _) (Nat.le_refl _) _
  · have h2 := setRow_heap _ w.heap.size _ ((madeCells #[Value.int .i32 0] n).toList.take 0 ++ cs ++ (madeCells #[Value.int .i32 0] n).toList.drop (0 + n)).toArray 21 (0, 0) hg
    refine ⟨_, h2, ?_, fun k hk => ?_⟩
    · simp [hlen, hsz]
    · have hk' : k < cs.length := by omega
      have : cs[k]? = some (.int .i32 (f k)) := hget k hk
      simp [List.getElem?_append, hk']
      exact (List.getElem?_eq_some_iff.1 this).2
end Go.Proofs.Qxb6623286a
