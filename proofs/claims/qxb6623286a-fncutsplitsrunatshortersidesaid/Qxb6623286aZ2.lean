import Derived.Test.Qxb6623286aZ1
import Derived.Deep.RegionLaw
namespace Go.Proofs.Qxb6623286a
open Go.RowKit

theorem fz_alloc {w : World} {b : Nat} (h : b < w.heap.size) (o : Obj) (j : Nat) : (w.alloc o).frozen? ⟨b, j, none⟩ = w.frozen? ⟨b, j, none⟩ := by
  unfold World.frozen?
  rw [show (w.alloc o).heap[b]? = w.heap[b]? from Below.heap_alloc w o b h]
theorem fz_alloc' {w : World} {b : Nat} (h : b < w.heap.size) (o : Obj) (j : Nat) : ((w.alloc o).drew).frozen? ⟨b, j, none⟩ = w.frozen? ⟨b, j, none⟩ := fz_alloc h o j

theorem Sx.grown {w w' : World} {S : Nat} {tv rv mv cv sv : Value} {cl : Int} {row : Option Nat} (h : Sx w S tv rv mv cv sv cl) (hg : w.grownBy w' row) (hne : row ≠ some S) : Sx w' S tv rv mv cv sv cl := by
  obtain ⟨f, hr, hf⟩ := h
  exact ⟨f, hr.of_block (hg.block S hr.lt (Ne.symm hne)), hf⟩
theorem rowIs_grown {w w' : World} {row : Option Nat} {b t n : Nat} {f : Nat → Value} (h : w.rowIs b t n f) (hg : w.grownBy w' row) (hne : row ≠ some b) : w'.rowIs b t n f :=
  h.of_block (hg.block b h.lt (Ne.symm hne))
theorem Sx.other {w : World} {S : Nat} {tv rv mv cv sv : Value} {cl : Int} (h : Sx w S tv rv mv cv sv cl) {a : Addr} (ha : S ≠ a.block) (u : Value) : Sx (w.setCell a u) S tv rv mv cv sv cl := by
  obtain ⟨f, hr, hf⟩ := h
  exact ⟨f, hr.setOther ha u, hf⟩
theorem Sx.row {w : World} {S : Nat} {tv rv mv cv sv : Value} {cl : Int} (h : Sx w S tv rv mv cv sv cl) : ∃ f, w.rowIs S 40 22 f := by
  obtain ⟨f, hr, _⟩ := h
  exact ⟨f, hr⟩

/-- what join leaves -/
structure Joined (w w' : World) (S M C n nc cap : Nat) (tv rv sv : Value) (cl : Int) (mc ms F L : Nat → Int) (N : Nat → Value) (v c k B : Nat) (xs : List Value) (Nv : Value) : Prop where
  s : Sx w' S tv rv (.slice (some ⟨M, 0, none⟩) n n) (.slice (some ⟨C, 0, none⟩) nc cap) sv cl
  m : MRow w' M n (upd mc v c) (upd ms v k)
  ch : CRow w' C cap nc F L (upd N c Nv)
  own : w'.ownsRow B 21 1 Nv (k + 1) (xs ++ [.int .i32 v])
  at' : Nv.ownBlock = (N c).ownBlock ∨ ∃ g, Nv.ownBlock = some g ∧ w.heap.size ≤ g
  chg : Chg (fun b => b = M ∨ b = C ∨ some b = (N c).ownBlock) w w'

theorem join_close {w w2 w1 : World} {S M C n nc cap : Nat} {tv rv sv : Value} {cl : Int} {mc ms F L : Nat → Int} {N : Nat → Value} {v c k B gg cap1 : Nat} {xs : List Value}
    (hS : Sx w2 S tv rv (.slice (some ⟨M, 0, none⟩) n n) (.slice (some ⟨C, 0, none⟩) nc cap) sv cl) (hM : MRow w2 M n (upd mc v c) (upd ms v k)) (hC : CRow w2 C cap nc F L N)
    (hG : Chg (fun b => b = M ∨ b = C ∨ some b = (N c).ownBlock) w w2) (hO : w2.ownsRow B 21 1 (N c) k xs) (hg : w2.grownBy w1 (N c).ownBlock)
    (hown : w1.ownsRow B 21 1 (.slice (some ⟨gg, 0, none⟩) (k + 1) cap1) (k + 1) (xs ++ [.int .i32 v])) (hat : (N c).ownBlock = some gg ∨ gg = w2.heap.size + 1) :
    Joined w (w1.setCell ⟨C, c * 3 + 2, none⟩ (.slice (some ⟨gg, 0, none⟩) (k + 1) cap1)) S M C n nc cap tv rv sv cl mc ms F L N v c k B xs (.slice (some ⟨gg, 0, none⟩) (k + 1) cap1) := by
  obtain ⟨fS, hfS⟩ := hS.row
  have aS := own_ne hO hfS (by decide)
  have aM := own_ne hO hM (by decide)
  have aC := hC.own hO
  have hSC : S ≠ C := hC.ne hfS (by decide)
  have hMC : M ≠ C := hC.ne hM (by decide)
  have hC1 : CRow w1 C cap nc F L N := hC.of_block (hg.block C hC.lt (Ne.symm aC))
  have bC : Value.ownBlock (.slice (some ⟨gg, 0, none⟩) (k + 1) cap1) ≠ some C := hC1.own hown
  have hgc : w1.grownBy (w1.setCell ⟨C, c * 3 + 2, none⟩ (.slice (some ⟨gg, 0, none⟩) (k + 1) cap1)) (some C) :=
    ⟨rfl, rfl, rfl, by simp [World.setCell], fun b hb hne => Below.heap_setCell _ _ _ _ (fun e => hne (by rw [e]))⟩
  refine ⟨(hS.grown hg aS).other hSC _, World.rowIs.setOther (rowIs_grown hM hg aM) (a := ⟨C, c * 3 + 2, none⟩) hMC _, hC1.setN c _, hown.kept hgc (.inr bC), ?_, ?_⟩
  · rcases hat with e | e
    · exact .inl e.symm
    · exact .inr ⟨gg, rfl, by have := hG.size; omega⟩
  · exact ((hG.grown hg (fun b e _ => .inr (.inr e.symm))).setCell ⟨C, c * 3 + 2, none⟩ (.inr (.inl rfl)) _)

set_option maxRecDepth 100000 in
set_option maxHeartbeats 2000000 in
theorem join_any (w : World) (S M C n nc cap : Nat) (tv rv sv : Value) (cl : Int) (mc ms F L : Nat → Int) (N : Nat → Value) (v c k B : Nat) (xs : List Value)
    (hS : Sx w S tv rv (.slice (some ⟨M, 0, none⟩) n n) (.slice (some ⟨C, 0, none⟩) nc cap) sv cl) (hM : MRow w M n mc ms) (hC : CRow w C cap nc F L N)
    (hv : (v : Int) < n) (hc : (c : Int) < nc) (hown : w.ownsRow B 21 1 (N c) k xs) (hB : B ≤ w.heap.size) (hk : (k : Int) ≤ 1048576) :
    Calls Try.prog 13 #[.pointer (some ⟨S, 0, none⟩), .int .i32 v, .int .i32 c] w fun e w' => e = .returned (.tuple #[]) ∧ ∃ Nv, Joined w w' S M C n nc cap tv rv sv cl mc ms F L N v c k B xs Nv := by
  obtain ⟨s8, s9, s11, s12, s13, s14⟩ := hS.cell
  obtain ⟨m0, m1⟩ := hM.cell (v := v) (by omega)
  obtain ⟨c0, c1, c2⟩ := hC.cell (c := c) (by omega)
  have fz0 := World.rowIs.frozen hM (v * 2)
  have fz1 := World.rowIs.frozen hM (v * 2 + 1)
  have fzc := hC.frozen (c * 3 + 2)
  obtain ⟨Nv, hNv⟩ : ∃ Nv, Nv = N c := ⟨_, rfl⟩
  rw [← hNv] at c2 hown
  obtain ⟨a, cp, rfl⟩ : ∃ a cp, Nv = .slice a k cp := by
    rcases hown.2 with ⟨rfl, rfl⟩ | ⟨g, cp, cur, rfl, _⟩
    · exact ⟨_, _, rfl⟩
    · exact ⟨_, _, rfl⟩
  have HN := Lib.hid hNv
  have HO := Lib.hid hown
  have HS := Lib.hid hS
  have HM := Lib.hid hM
  have HC := Lib.hid hC
  clear hNv hown hS hM hC
  obtain ⟨i0, hi0, hz0, hz1, hz2⟩ := info_parts Try.info21
  go_enter Try.func13, Try.ntmps13
  go_wp2
  go_region
  have hSM : S ≠ M := by obtain ⟨f, hr, _⟩ := HS.out; exact row_ne hr HM.out (by decide)
  have hSC : S ≠ C := by obtain ⟨f, hr, _⟩ := HS.out; exact HC.out.ne hr (by decide)
  have hMC : M ≠ C := HC.out.ne HM.out (by decide)
  obtain ⟨w2, hw2⟩ : ∃ w2, w2 = ((w.setCell ⟨M, v * 2, none⟩ (.int .i32 c)).setCell ⟨M, v * 2 + 1, none⟩ (.int .i32 k)).drew := ⟨_, rfl⟩
  have HM2 : Hid (MRow w2 M n (upd mc v c) (upd ms v k)) := by rw [hw2]; exact ((HM.out.setC v c).setS v k)
  have HC2 : Hid (CRow w2 C cap nc F L N) := by rw [hw2]; exact (HC.out.other (a := ⟨M, v * 2, none⟩) (Ne.symm hMC) _).other (a := ⟨M, v * 2 + 1, none⟩) (Ne.symm hMC) _
  have HS2 : Hid (Sx w2 S tv rv (.slice (some ⟨M, 0, none⟩) n n) (.slice (some ⟨C, 0, none⟩) nc cap) sv cl) := by
    obtain ⟨f, hr, hf⟩ := HS.out
    rw [hw2]
    exact ⟨f, (World.rowIs.setOther (World.rowIs.setOther hr (a := ⟨M, v * 2, none⟩) hSM _) (a := ⟨M, v * 2 + 1, none⟩) hSM _), hf⟩
  have HO2 : Hid (w2.ownsRow B 21 1 (.slice a k cp) k xs) := by
    have hno : Value.ownBlock (.slice a k cp) ≠ some M := own_ne HO.out HM.out (by decide)
    have hg : w.grownBy w2 (some M) := by
      rw [hw2]
      exact ⟨rfl, rfl, rfl, by simp [World.setCell], fun b hb hne => by
        have hb' : b ≠ M := fun e => hne (by rw [e])
        show ((w.setCell ⟨M, v * 2, none⟩ (.int .i32 c)).setCell ⟨M, v * 2 + 1, none⟩ (.int .i32 k)).heap[b]? = _
        rw [Below.heap_setCell _ _ _ _ hb', Below.heap_setCell _ _ _ _ hb']⟩
    exact HO.out.kept hg (.inr hno)
  have HG2 : Hid (Chg (fun b => b = M ∨ b = C ∨ some b = (N c).ownBlock) w w2) := by
    rw [hw2]
    exact (((Chg.refl _ w).setCell ⟨M, v * 2, none⟩ (.inl rfl) _).setCell ⟨M, v * 2 + 1, none⟩ (.inl rfl) _).drewN 1
  rw [← hw2]
  clear hw2 s8 s9 s11 s12 s13 s14 m0 m1 c0 c1 c2 fz0 fz1 fzc
  obtain ⟨-, -, -, s12, -, -⟩ := HS2.out.cell
  obtain ⟨-, -, c2⟩ := HC2.out.cell (c := c) (by omega)
  rw [← HN.out] at c2
  have fzc := HC2.out.frozen (c * 3 + 2)
  have hsz : w.heap.size ≤ w2.heap.size := HG2.out.size
  have lS : S < w2.heap.size := by obtain ⟨f, hr, _⟩ := HS2.out; exact hr.lt
  have lC : C < w2.heap.size := HC2.out.lt
  have aS : Value.ownBlock (.slice a k cp) ≠ some S := by obtain ⟨f, hr, _⟩ := HS2.out; exact own_ne HO2.out hr (by decide)
  have aC : Value.ownBlock (.slice a k cp) ≠ some C := HC2.out.own HO2.out
  have fzA : ∀ o : Obj, ((w2.alloc o).drew).frozen? ⟨C, c * 3 + 2, none⟩ = false := fun o => (fz_alloc' lC o _).trans fzc
  have fzB : ∀ o : Obj, (w2.alloc o).frozen? ⟨C, c * 3 + 2, none⟩ = false := fun o => (fz_alloc lC o _).trans fzc
  go_wp2
  go_region_law ((refine step_append_lies _ (by rfl) _ _ _ (by rfl) B 21 i0 _ 1 4 Try.underlying22 hi0 hz0 hz1 hz2 rfl (by omega) (.slice a k cp) k xs (by rfl) (by exact HO2.out.alloc _) ⟨w2.heap.size, 0, none⟩ 1 1 [.int .i32 v] (by rfl) (by rfl) (World.news_of_block (cs := #[.int .i32 v]) (t := 21) (fr := (0, 0)) (heap_alloc_new w2 _)) (by simp [Value.oneCell']) (by omega) (by unfold maxLen; omega) (by omega) (by simp; omega) (w2.heap.size + 1) (by simp) ?_; intro gg cap1 w1 hown1 hgrow hat hlt; have q12 : w1.cell? ⟨S, 12, none⟩ = some (.slice (some ⟨C, 0, none⟩) nc cap) := (by rw [hgrow.cell_far _ (by simp <;> omega) (Ne.symm aS)] <;> simp [*, go_sem]); have qc2 : w1.cell? ⟨C, c * 3 + 2, none⟩ = some (.slice a k cp) := (by rw [hgrow.cell_far _ (by simp <;> omega) (Ne.symm aC)] <;> simp [*, go_sem]); have qfz : w1.frozen? ⟨C, c * 3 + 2, none⟩ = false := (by rw [hgrow.frozen_far _ (by simp <;> omega) (Ne.symm aC)] <;> simp [*, go_sem])))
  all_goals
    have hg' : w2.grownBy w1 (Value.ownBlock (.slice a k cp)) := (World.grownBy_alloc w2 (.cells #[.int .i32 v] 21) _).trans ⟨hgrow.os, hgrow.tape, hgrow.output, hgrow.size, hgrow.block⟩
    have HF : Hid (Joined w (w1.setCell ⟨C, c * 3 + 2, none⟩ (.slice (some ⟨gg, 0, none⟩) (k + 1) cap1)) S M C n nc cap tv rv sv cl mc ms F L N v c k B xs (.slice (some ⟨gg, 0, none⟩) (k + 1) cap1)) :=
      join_close HS2.out HM2.out HC2.out HG2.out (by rw [← HN.out]; exact HO2.out) (by rw [← HN.out]; exact hg') hown1 (by rw [← HN.out]; exact hat)
    clear hg' hown1 hgrow hat hlt q12 qc2 qfz
    go_end0
    exact ⟨rfl, _, HF.out⟩
end Go.Proofs.Qxb6623286a
