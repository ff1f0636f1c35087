import Derived.Test.Qxb6623286aRows
import Derived.WalkKit
import Derived.WalkSpells
import Derived.WalkLawsBesides
import Derived.Deep.QuietTactic
import Derived.BigQuiet
import Derived.BigRegion
import Derived.LoopTactic
import Derived.Deep.OwnRows
import Derived.Lib.LazyBuf
import Derived.Deep.Upon
import Derived.Deep.RegionHeld3
import Derived.Deep.AppendLies
import Derived.OwnWalk
import Derived.Below
import Derived.Lib.Hide
namespace Go.Proofs.Qxb6623286a
open Go.RowKit

theorem Try.info21 : (Try.prog.info? 21).map (fun i => (i.zero, i.size, i.bytes)) = some (some (.int .i32 0), 1, 4) := by kernel_rfl
theorem Try.info42 : (Try.prog.info? 42).map (fun i => (i.zero, i.size, i.bytes)) = some (some (.agg #[.int .i32 0, .int .i32 0]), 2, 8) := by kernel_rfl
theorem Try.info44 : (Try.prog.info? 44).map (fun i => (i.zero, i.size, i.bytes)) = some (some (.agg #[.int .i32 0, .int .i32 0, .slice none 0 0]), 3, 32) := by kernel_rfl

/-! ### what may have turned -/
structure Chg (T : Nat → Prop) (w w' : World) : Prop where
  os : w'.os = w.os
  tape : w'.tape = w.tape
  output : w'.output = w.output
  size : w.heap.size ≤ w'.heap.size
  block : ∀ k, k < w.heap.size → ¬ T k → w'.heap[k]? = w.heap[k]?
theorem Chg.refl (T : Nat → Prop) (w : World) : Chg T w w := ⟨rfl, rfl, rfl, Nat.le_refl _, fun _ _ _ => rfl⟩
theorem Chg.trans {T : Nat → Prop} {a b c : World} (h : Chg T a b) (k : Chg T b c) : Chg T a c :=
  ⟨k.os.trans h.os, k.tape.trans h.tape, k.output.trans h.output, Nat.le_trans h.size k.size, fun i hi hn => (k.block i (Nat.lt_of_lt_of_le hi h.size) hn).trans (h.block i hi hn)⟩
theorem Chg.mono {T T' : Nat → Prop} {a b : World} (h : Chg T a b) (ht : ∀ k, k < a.heap.size → T k → T' k) : Chg T' a b :=
  ⟨h.os, h.tape, h.output, h.size, fun i hi hn => h.block i hi (fun ht' => hn (ht i hi ht'))⟩
theorem Chg.drewN {T : Nat → Prop} {a w : World} (h : Chg T a w) (q : Nat) : Chg T a (w.drewN q) := ⟨h.os, h.tape, h.output, h.size, h.block⟩
theorem Chg.setCell {T : Nat → Prop} {a w : World} (h : Chg T a w) (p : Addr) (hp : T p.block) (u : Value) : Chg T a (w.setCell p u) :=
  h.trans ⟨rfl, rfl, rfl, by simp [World.setCell], fun k _ hn => Below.heap_setCell _ _ _ _ (fun e => hn (by rw [e]; exact hp))⟩
theorem Chg.alloc {T : Nat → Prop} {a w : World} (h : Chg T a w) (o : Obj) : Chg T a (w.alloc o) :=
  h.trans ⟨rfl, rfl, rfl, by simp, fun k hk _ => Below.heap_alloc _ _ _ hk⟩
theorem Chg.grown {T : Nat → Prop} {a w w' : World} {row : Option Nat} (h : Chg T a w) (hg : w.grownBy w' row) (hr : ∀ k, row = some k → k < a.heap.size → T k) : Chg T a w' :=
  ⟨hg.os.trans h.os, hg.tape.trans h.tape, hg.output.trans h.output, Nat.le_trans h.size hg.size, fun k hk hn => (hg.block k (Nat.lt_of_lt_of_le hk h.size) (fun e => hn (hr k e.symm hk))).trans (h.block k hk hn)⟩

/-! ### the three structures -/
def Sx (w : World) (S : Nat) (tv rv mv cv sv : Value) (cl : Int) : Prop :=
  ∃ f, w.rowIs S 40 22 f ∧ f 8 = tv ∧ f 9 = rv ∧ f 11 = mv ∧ f 12 = cv ∧ f 13 = sv ∧ f 14 = .int .i64 cl
def MRow (w : World) (M n : Nat) (mc ms : Nat → Int) : Prop := w.rowIs M 42 (n * 2) (fun j => .int .i32 (if j % 2 = 0 then mc (j / 2) else ms (j / 2)))
def CRow (w : World) (C cap nc : Nat) (F L : Nat → Int) (N : Nat → Value) : Prop :=
  nc ≤ cap ∧ ∃ f, w.rowIs C 44 (cap * 3) f ∧ ∀ k, k < nc → f (k * 3) = .int .i32 (F k) ∧ f (k * 3 + 1) = .int .i32 (L k) ∧ f (k * 3 + 2) = N k
def upd {α : Type} (f : Nat → α) (k : Nat) (x : α) : Nat → α := fun j => if j = k then x else f j

theorem Sx.cell {w : World} {S : Nat} {tv rv mv cv sv : Value} {cl : Int} (h : Sx w S tv rv mv cv sv cl) :
    w.cell? ⟨S, 8, none⟩ = some tv ∧ w.cell? ⟨S, 9, none⟩ = some rv ∧ w.cell? ⟨S, 11, none⟩ = some mv ∧ w.cell? ⟨S, 12, none⟩ = some cv ∧ w.cell? ⟨S, 13, none⟩ = some sv ∧ w.cell? ⟨S, 14, none⟩ = some (.int .i64 cl) := by
  obtain ⟨f, hr, rfl, rfl, rfl, rfl, rfl, h14⟩ := h
  rw [← h14]
  exact ⟨hr.cell (by omega), hr.cell (by omega), hr.cell (by omega), hr.cell (by omega), hr.cell (by omega), hr.cell (by omega)⟩
theorem MRow.cell {w : World} {M n : Nat} {mc ms : Nat → Int} (h : MRow w M n mc ms) {v : Nat} (hv : v < n) : w.cell? ⟨M, v * 2, none⟩ = some (.int .i32 (mc v)) ∧ w.cell? ⟨M, v * 2 + 1, none⟩ = some (.int .i32 (ms v)) := by
  have h0 := World.rowIs.cell h (i := v * 2) (by omega)
  have h1 := World.rowIs.cell h (i := v * 2 + 1) (by omega)
  have e0 : v * 2 % 2 = 0 := by omega
  have e1 : (v * 2 + 1) % 2 = 1 := by omega
  have d0 : v * 2 / 2 = v := by omega
  have d1 : (v * 2 + 1) / 2 = v := by omega
  simp only [e0, d0, if_true] at h0
  simp only [e1, d1] at h1
  exact ⟨h0, by simpa using h1⟩
theorem CRow.cell {w : World} {C cap nc : Nat} {F L : Nat → Int} {N : Nat → Value} (h : CRow w C cap nc F L N) {c : Nat} (hc : c < nc) : w.cell? ⟨C, c * 3, none⟩ = some (.int .i32 (F c)) ∧ w.cell? ⟨C, c * 3 + 1, none⟩ = some (.int .i32 (L c)) ∧ w.cell? ⟨C, c * 3 + 2, none⟩ = some (N c) := by
  obtain ⟨h0, f, hr, hf⟩ := h
  obtain ⟨e0, e1, e2⟩ := hf c hc
  exact ⟨by rw [hr.cell (by omega), e0], by rw [hr.cell (by omega), e1], by rw [hr.cell (by omega), e2]⟩
theorem CRow.row {w : World} {C cap nc : Nat} {F L : Nat → Int} {N : Nat → Value} (h : CRow w C cap nc F L N) : ∃ f, w.rowIs C 44 (cap * 3) f := by
  obtain ⟨_, f, hr, _⟩ := h
  exact ⟨f, hr⟩
theorem CRow.frozen {w : World} {C cap nc : Nat} {F L : Nat → Int} {N : Nat → Value} (h : CRow w C cap nc F L N) (i : Nat) : w.frozen? ⟨C, i, none⟩ = false := by
  obtain ⟨f, hr⟩ := h.row
  exact hr.frozen i
theorem CRow.lt {w : World} {C cap nc : Nat} {F L : Nat → Int} {N : Nat → Value} (h : CRow w C cap nc F L N) : C < w.heap.size := by
  obtain ⟨f, hr⟩ := h.row
  exact hr.lt
theorem CRow.of_block {w w' : World} {C cap nc : Nat} {F L : Nat → Int} {N : Nat → Value} (h : CRow w C cap nc F L N) (e : w'.heap[C]? = w.heap[C]?) : CRow w' C cap nc F L N := by
  obtain ⟨h0, f, hr, hf⟩ := h
  exact ⟨h0, f, hr.of_block e, hf⟩
theorem CRow.other {w : World} {C cap nc : Nat} {F L : Nat → Int} {N : Nat → Value} (h : CRow w C cap nc F L N) {a : Addr} (ha : C ≠ a.block) (v : Value) : CRow (w.setCell a v) C cap nc F L N :=
  h.of_block (Below.heap_setCell _ _ _ _ ha)
theorem CRow.alloc {w : World} {C cap nc : Nat} {F L : Nat → Int} {N : Nat → Value} (h : CRow w C cap nc F L N) (o : Obj) : CRow (w.alloc o) C cap nc F L N :=
  h.of_block (Below.heap_alloc _ _ _ h.lt)
theorem MRow.setC {w : World} {M n : Nat} {mc ms : Nat → Int} (h : MRow w M n mc ms) (v : Nat) (x : Int) : MRow (w.setCell ⟨M, v * 2, none⟩ (.int .i32 x)) M n (upd mc v x) ms := by
  refine (World.rowIs.set h (v * 2) (.int .i32 x)).congr (fun j hj => ?_)
  by_cases e : j = v * 2
  · have e0 : v * 2 % 2 = 0 := by omega
    have d0 : v * 2 / 2 = v := by omega
    rw [if_pos e, e]; simp [e0, d0, upd]
  · rw [if_neg e]
    by_cases p : j % 2 = 0
    · have : j / 2 ≠ v := by omega
      simp [p, upd, this]
    · simp [p]
theorem MRow.setS {w : World} {M n : Nat} {mc ms : Nat → Int} (h : MRow w M n mc ms) (v : Nat) (x : Int) : MRow (w.setCell ⟨M, v * 2 + 1, none⟩ (.int .i32 x)) M n mc (upd ms v x) := by
  refine (World.rowIs.set h (v * 2 + 1) (.int .i32 x)).congr (fun j hj => ?_)
  by_cases e : j = v * 2 + 1
  · have e0 : (v * 2 + 1) % 2 = 1 := by omega
    have d0 : (v * 2 + 1) / 2 = v := by omega
    rw [if_pos e, e]; simp [e0, d0, upd]
  · rw [if_neg e]
    by_cases p : j % 2 = 0
    · simp [p]
    · have : j / 2 ≠ v := by omega
      simp [p, upd, this]
theorem CRow.setF {w : World} {C cap nc : Nat} {F L : Nat → Int} {N : Nat → Value} (h : CRow w C cap nc F L N) (c : Nat) (x : Int) : CRow (w.setCell ⟨C, c * 3, none⟩ (.int .i32 x)) C cap nc (upd F c x) L N := by
  obtain ⟨h0, f, hr, hf⟩ := h
  refine ⟨h0, _, hr.set (c * 3) (.int .i32 x), fun k hk => ?_⟩
  obtain ⟨e0, e1, e2⟩ := hf k hk
  by_cases e : k = c
  · subst e
    simp [upd, e1, e2]
  · have n0 : k * 3 ≠ c * 3 := by omega
    have n1 : k * 3 + 1 ≠ c * 3 := by omega
    have n2 : k * 3 + 2 ≠ c * 3 := by omega
    simp only [if_neg n0, if_neg n1, if_neg n2]
    simp [upd, e, e0, e1, e2]
theorem CRow.setL {w : World} {C cap nc : Nat} {F L : Nat → Int} {N : Nat → Value} (h : CRow w C cap nc F L N) (c : Nat) (x : Int) : CRow (w.setCell ⟨C, c * 3 + 1, none⟩ (.int .i32 x)) C cap nc F (upd L c x) N := by
  obtain ⟨h0, f, hr, hf⟩ := h
  refine ⟨h0, _, hr.set (c * 3 + 1) (.int .i32 x), fun k hk => ?_⟩
  obtain ⟨e0, e1, e2⟩ := hf k hk
  by_cases e : k = c
  · subst e
    simp [upd, e0, e2]
  · have n0 : k * 3 ≠ c * 3 + 1 := by omega
    have n1 : k * 3 + 1 ≠ c * 3 + 1 := by omega
    have n2 : k * 3 + 2 ≠ c * 3 + 1 := by omega
    simp only [if_neg n0, if_neg n1, if_neg n2]
    simp [upd, e, e0, e1, e2]
theorem CRow.setN {w : World} {C cap nc : Nat} {F L : Nat → Int} {N : Nat → Value} (h : CRow w C cap nc F L N) (c : Nat) (x : Value) : CRow (w.setCell ⟨C, c * 3 + 2, none⟩ x) C cap nc F L (upd N c x) := by
  obtain ⟨h0, f, hr, hf⟩ := h
  refine ⟨h0, _, hr.set (c * 3 + 2) x, fun k hk => ?_⟩
  obtain ⟨e0, e1, e2⟩ := hf k hk
  by_cases e : k = c
  · subst e
    simp [upd, e0, e1]
  · have n0 : k * 3 ≠ c * 3 + 2 := by omega
    have n1 : k * 3 + 1 ≠ c * 3 + 2 := by omega
    have n2 : k * 3 + 2 ≠ c * 3 + 2 := by omega
    simp only [if_neg n0, if_neg n1, if_neg n2]
    simp [upd, e, e0, e1, e2]
/-- rows of different types lie apart -/
theorem row_ne {w : World} {a b t u n m : Nat} {f g : Nat → Value} (h : w.rowIs a t n f) (k : w.rowIs b u m g) (hne : t ≠ u) : a ≠ b := by
  intro e
  subst e
  obtain ⟨c, h1, _⟩ := h
  obtain ⟨c', h2, _⟩ := k
  rw [h1] at h2
  cases h2
  exact hne rfl
theorem CRow.ne {w : World} {C cap nc : Nat} {F L : Nat → Int} {N : Nat → Value} (h : CRow w C cap nc F L N) {a t n : Nat} {f : Nat → Value} (k : w.rowIs a t n f) (hne : t ≠ 44) : a ≠ C := by
  obtain ⟨g, hr⟩ := h.row
  exact row_ne k hr hne
theorem own_ne {w : World} {B b u n m : Nat} {v : Value} {xs : List Value} {g : Nat → Value} (h : w.ownsRow B 21 1 v n xs) (k : w.rowIs b u m g) (hne : 21 ≠ u) : v.ownBlock ≠ some b := by
  intro e
  rcases h.2 with ⟨rfl, _⟩ | ⟨g', cap, cur, rfl, _, hh, _⟩
  · cases e
  · cases e
    obtain ⟨c', h2, _⟩ := k
    rw [hh] at h2
    cases h2
    exact hne rfl
theorem CRow.own {w : World} {C cap nc : Nat} {F L : Nat → Int} {N : Nat → Value} (h : CRow w C cap nc F L N) {B n : Nat} {v : Value} {xs : List Value} (k : w.ownsRow B 21 1 v n xs) : v.ownBlock ≠ some C := by
  obtain ⟨g, hr⟩ := h.row
  exact own_ne k hr (by decide)
end Go.Proofs.Qxb6623286a
