import Derived.Test.Qxb6623375aA7
import Derived.Laws.CopyOwn
import Derived.Laws.CopyRow
namespace Go.Proofs.Qxb6623375a
open Go.RowKit

theorem Try.info34 : (Try.prog.info? 34).map (fun i => (i.zero, i.size, i.bytes)) = some (some (.agg #[.string ByteArray.empty, .int .u64 0, .int .i64 0, .pointer none, .string ByteArray.empty, .slice none 0 0]), 6, 80) := by kernel_rfl
theorem Try.info40 : (Try.prog.info? 40).map (fun i => (i.zero, i.size, i.bytes)) = some (some (.agg #[.string ByteArray.empty, .int .i64 0, .string ByteArray.empty, .bool false]), 4, 48) := by kernel_rfl
theorem Try.size9 : (Try.prog.info? 9).map (·.size) = some 1 := by kernel_rfl
theorem info_parts {e : TypeId} {z : Value} {size bytes : Nat} (h : (Try.prog.info? e).map (fun i => (i.zero, i.size, i.bytes)) = some (some z, size, bytes)) : ∃ i, Try.prog.info? e = some i ∧ i.zero = some z ∧ i.size = size ∧ i.bytes = bytes := by
  obtain ⟨i, hi, hzz⟩ := Option.map_eq_some_iff.1 h
  simp only [Prod.mk.injEq] at hzz
  exact ⟨i, hi, hzz⟩
theorem make_rows (w : World) (t e : TypeId) (z : Value) (size bytes n : Nat) (ht : Try.prog.underlying t = some (.slice e)) (hinfo : (Try.prog.info? e).map (fun i => (i.zero, i.size, i.bytes)) = some (some z, size, bytes)) (hb : bytes * n ≤ 281474976710656) (hn : (n : Int) ≤ 1048577) :
    (Instr.makeSlice t (.int .i64 (n : Int)) (.int .i64 (n : Int))).run Try.prog w = .ok (.slice (some ⟨w.heap.size, 0, none⟩) n n) (w.alloc (.cells (madeCells z.cells (n * size)) e)) := by
  obtain ⟨i0, hi, hz0, hz1, hz2⟩ := info_parts hinfo
  have := run_make (P := Try.prog) w t e i0 z ht hi hz0 .i64 .i64 n n (by omega) (by omega) (by rw [hz2]; omega) (by omega)
  rw [hz1] at this
  simpa using this

def trS (i : Nat) (f : Nat → ByteArray) : Nat → ByteArray := fun k => if k < i then f k else ByteArray.empty
def trI (i : Nat) (f : Nat → Int) : Nat → Int := fun k => if k < i then f k else 0
def trB (i : Nat) (f : Nat → Bool) : Nat → Bool := fun k => if k < i then f k else false
def trV (i : Nat) (f : Nat → Value) : Nat → Value := fun k => if k < i then f k else .slice none 0 0
theorem made6 (w : World) (n : Nat) (nm dg : Nat → ByteArray) (pv : Nat → Value) : (w.alloc (.cells (madeCells #[.string ByteArray.empty, .int .u64 0, .int .i64 0, .pointer none, .string ByteArray.empty, .slice none 0 0] (n * 6)) 34)).rowIs w.heap.size 34 (n * 6) (ptF (trS 0 nm) (trS 0 dg) (trV 0 pv)) := by
  refine ⟨_, Go.Deep.blk_alloc_new _ _, size_madeCells _ _, fun i hi => ?_⟩
  have h2 : i % 6 = 0 ∨ i % 6 = 1 ∨ i % 6 = 2 ∨ i % 6 = 3 ∨ i % 6 = 4 ∨ i % 6 = 5 := by omega
  rcases h2 with h | h | h | h | h | h <;> simp [madeCells, hi, h, trS, trV, ptF]
theorem made4 (w : World) (n : Nat) (ac im : Nat → ByteArray) (ru : Nat → Int) (un : Nat → Bool) : (w.alloc (.cells (madeCells #[.string ByteArray.empty, .int .i64 0, .string ByteArray.empty, .bool false] (n * 4)) 40)).rowIs w.heap.size 40 (n * 4) (pdF (trS 0 ac) (trS 0 im) (trI 0 ru) (trB 0 un)) := by
  refine ⟨_, Go.Deep.blk_alloc_new _ _, size_madeCells _ _, fun i hi => ?_⟩
  have h2 : i % 4 = 0 ∨ i % 4 = 1 ∨ i % 4 = 2 ∨ i % 4 = 3 := by omega
  rcases h2 with h | h | h | h <;> simp [madeCells, hi, h, trS, trI, trB, pdF]
theorem pt_put {w : World} {PT n i : Nat} {nm dg : Nat → ByteArray} {pv : Nat → Value} (h : w.rowIs PT 34 (n * 6) (ptF (trS i nm) (trS i dg) (trV i pv))) :
    ((((((w.setCell ⟨PT, i * 6, none⟩ (.string (nm i))).setCell ⟨PT, i * 6 + 1, none⟩ (.int .u64 0)).setCell ⟨PT, i * 6 + 2, none⟩ (.int .i64 0)).setCell ⟨PT, i * 6 + 3, none⟩ (.pointer none)).setCell ⟨PT, i * 6 + 4, none⟩ (.string (dg i))).setCell ⟨PT, i * 6 + 5, none⟩ (pv i)).rowIs PT 34 (n * 6) (ptF (trS (i + 1) nm) (trS (i + 1) dg) (trV (i + 1) pv)) := by
  refine ((((((h.set (i * 6) _).set (i * 6 + 1) _).set (i * 6 + 2) _).set (i * 6 + 3) _).set (i * 6 + 4) _).set (i * 6 + 5) _).congr (fun j _ => ?_)
  by_cases e : j / 6 = i
  · have h2 : j = i * 6 ∨ j = i * 6 + 1 ∨ j = i * 6 + 2 ∨ j = i * 6 + 3 ∨ j = i * 6 + 4 ∨ j = i * 6 + 5 := by omega
    rcases h2 with h | h | h | h | h | h <;> subst h
    · simp [ptF, trS]
    · simp [ptF, show (i * 6 + 1) % 6 = 1 by omega]
    · simp [ptF, show (i * 6 + 2) % 6 = 2 by omega]
    · simp [ptF, show (i * 6 + 3) % 6 = 3 by omega]
    · simp [ptF, show (i * 6 + 4) % 6 = 4 by omega, show (i * 6 + 4) / 6 = i by omega, trS]
    · simp [ptF, show (i * 6 + 5) % 6 = 5 by omega, show (i * 6 + 5) / 6 = i by omega, trV]
  · rw [if_neg (by omega), if_neg (by omega), if_neg (by omega), if_neg (by omega), if_neg (by omega), if_neg (by omega)]
    have hh : (j / 6 < i + 1) = (j / 6 < i) := by simp; omega
    simp only [ptF, trS, trV, hh]
theorem pd_put {w : World} {PD n i : Nat} {ac im : Nat → ByteArray} {ru : Nat → Int} {un : Nat → Bool} (h : w.rowIs PD 40 (n * 4) (pdF (trS i ac) (trS i im) (trI i ru) (trB i un))) :
    ((((w.setCell ⟨PD, i * 4, none⟩ (.string (ac i))).setCell ⟨PD, i * 4 + 1, none⟩ (.int .i64 (ru i))).setCell ⟨PD, i * 4 + 2, none⟩ (.string (im i))).setCell ⟨PD, i * 4 + 3, none⟩ (.bool (un i))).rowIs PD 40 (n * 4) (pdF (trS (i + 1) ac) (trS (i + 1) im) (trI (i + 1) ru) (trB (i + 1) un)) := by
  refine ((((h.set (i * 4) _).set (i * 4 + 1) _).set (i * 4 + 2) _).set (i * 4 + 3) _).congr (fun j _ => ?_)
  by_cases e : j / 4 = i
  · have h2 : j = i * 4 ∨ j = i * 4 + 1 ∨ j = i * 4 + 2 ∨ j = i * 4 + 3 := by omega
    rcases h2 with h | h | h | h <;> subst h
    · simp [pdF, trS]
    · simp [pdF, show (i * 4 + 1) % 4 = 1 by omega, show (i * 4 + 1) / 4 = i by omega, trI]
    · simp [pdF, show (i * 4 + 2) % 4 = 2 by omega, show (i * 4 + 2) / 4 = i by omega, trS]
    · simp [pdF, show (i * 4 + 3) % 4 = 3 by omega, show (i * 4 + 3) / 4 = i by omega, trB]
  · rw [if_neg (by omega), if_neg (by omega), if_neg (by omega), if_neg (by omega)]
    have hh : (j / 4 < i + 1) = (j / 4 < i) := by simp; omega
    simp only [pdF, trS, trI, trB, hh]

/-- not nil -/
def nn (a : Option Addr) : Bool := !a.isNone
theorem neq_nil26 (w : World) (a : Option Addr) (n c : Nat) : (binOp .neq 26 (.slice a n c) (.slice none 0 0)).run Try.prog w = .ok (.bool (nn a)) w := by
  simp only [binOp]
  simp [Op.equal, Op.maxDepth, Lib.run_equalIn_slice_nil w 9999 26 9 a n c 0 0 Try.underlying26, nn]

/-- a copied list of manifests -/
def Cp (w : World) (v : Value) (n : Nat) (f : Nat → ByteArray) : Prop :=
  (v = .slice none 0 0 ∧ n = 0) ∨ ∃ b, v = .slice (some ⟨b, 0, none⟩) n n ∧ w.rowIs b 9 n (fun j => .string (f j))
theorem Cp.after {w w' : World} {v : Value} {n : Nat} {f : Nat → ByteArray} (h : Cp w v n f) (hb : Below w.heap.size w w') : Cp w' v n f := by
  rcases h with h | ⟨b, e, hr⟩
  · exact .inl h
  · exact .inr ⟨b, e, hr.of_block (hb.block _ hr.lt)⟩
theorem Cp.kept {w w' : World} {v : Value} {n : Nat} {f : Nat → ByteArray} (h : Cp w v n f) (hb : ∀ b n f, w.rowIs b 9 n f → w'.heap[b]? = w.heap[b]?) : Cp w' v n f := by
  rcases h with h | ⟨b, e, hr⟩
  · exact .inl h
  · exact .inr ⟨b, e, hr.of_block (hb _ _ _ hr)⟩
theorem Cp.strs {w : World} {v : Value} {n : Nat} {f : Nat → ByteArray} (h : Cp w v n f) : Strs w v n f := by
  rcases h with ⟨rfl, rfl⟩ | ⟨b, e, hr⟩
  · exact ⟨none, 0, rfl, fun h => absurd h (by omega)⟩
  · exact ⟨_, _, e, fun _ => ⟨b, 0, rfl, hr.lt, fun k hk => by rw [Nat.zero_add]; exact hr.cell hk⟩⟩

theorem copyS (w : World) (f : Nat → ByteArray) (n cap : Nat) (ad : Addr) (h : 0 < n → ∃ b o, ad = ⟨b, o, none⟩ ∧ b < w.heap.size ∧ ∀ k, k < n → w.cell? ⟨b, o + k, none⟩ = some (.string (f k))) :
    ∃ W2, (Builtin.copy_ #[26, 26] 3 #[.slice (some ⟨w.heap.size, 0, none⟩) n n, .slice (some ad) n cap]).run Try.prog (w.alloc (.cells (madeCells #[.string ByteArray.empty] n) 9)) = .ok (goInt n) W2 ∧
      Below w.heap.size w W2 ∧ W2.rowIs w.heap.size 9 n (fun k => .string (f k)) := by
  have hg : (w.alloc (.cells (madeCells #[.string ByteArray.empty] n) 9)).heap[w.heap.size]? = some (.cells (madeCells #[.string ByteArray.empty] n) 9 (0, 0)) := Go.Deep.blk_alloc_new _ _
  obtain ⟨cs, hcs⟩ : ∃ cs : List Value, cs = (List.range n).map (fun k => .string (f k)) := ⟨_, rfl⟩
  have hlen : cs.length = n := by rw [hcs]; simp
  have hget : ∀ j, j < n → cs[j]? = some (.string (f j)) := by intro j hj; rw [hcs]; simp [hj]
  have hsz : (madeCells #[Value.string ByteArray.empty] n).size = n := size_madeCells _ _
  have hrun := run_copy_row (P := Try.prog) (w.alloc (.cells (madeCells #[.string ByteArray.empty] n) 9)) 26 26 3 9 w.heap.size 0 n n ad n cap _ 9 cs Try.underlying26 Try.size9 hg
    (by rw [hlen]; exact (Nat.min_self n).symm)
    (fun j v hj => by
      have hjn : j < n := by
        rw [← hlen]; exact (List.getElem?_eq_some_iff.1 hj).1
      rw [hget j hjn] at hj
      cases hj
      obtain ⟨b, o, rfl, hb, hl⟩ := h (by omega)
      rw [WideShapes.add_plain, World.cell?_alloc_past _ _ _ hb]; exact hl j hjn)
    (by rw [hlen, hsz]; omega)
    (fun v hv => by
      rw [hcs] at hv
      obtain ⟨k, _, rfl⟩ := List.mem_map.1 hv
      rfl)
  rw [hlen] at hrun
  refine ⟨_, hrun, ?_, ?_⟩
  · exact below_setRow ((Below.refl _ _).alloc (Nat.le_refl _) _) (Nat.le_refl _) _
  · have h2 := setRow_heap _ w.heap.size _ ((madeCells #[Value.string ByteArray.empty] n).toList.take 0 ++ cs ++ (madeCells #[Value.string ByteArray.empty] n).toList.drop (0 + n)).toArray 9 (0, 0) hg
    refine ⟨_, h2, ?_, fun k hk => ?_⟩
    · simp [hlen, hsz]
    · have hk' : k < cs.length := by omega
      have : cs[k]? = some (.string (f k)) := hget k hk
      simp [List.getElem?_append, hk']
      exact (List.getElem?_eq_some_iff.1 this).2
end Go.Proofs.Qxb6623375a
