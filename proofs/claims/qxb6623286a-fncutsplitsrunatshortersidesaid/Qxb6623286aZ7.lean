import Derived.Test.Qxb6623286aZ6
namespace Go.Proofs.Qxb6623286a
open Go.RowKit

/-- all that cut is handed -/
structure Pre (w : World) (S M C n nc : Nat) (sv : Value) (cl : Int) (mc ms F L : Nat → Int) (N : Nat → Value) (B ns : Nat) (sp : Nat → Int) (ln : Nat → Nat) (nd : Nat → Nat → Int) (gb : Nat → Nat) (thr rev : Nat → Int) (tb rb Lc c0 : Nat) (run : Nat → Nat) : Prop where
  st : St w S M C n nc nc (.slice (some ⟨tb, 0, none⟩) n n) (.slice (some ⟨rb, 0, none⟩) n n) sv cl mc ms F L N
  lists : Lists w B nc N ln nd gb
  spare : SpareIs w sv ns sp B
  trow : w.rowIs tb 21 n (fun j => .int .i32 (thr j))
  rrow : w.rowIs rb 21 n (fun j => .int .i32 (rev j))
  tbB : tb < B ∧ rb < B
  rn : Run n Lc c0 thr rev mc ms (F c0) (L c0) (nd c0) run
  len : ln c0 = Lc
  hc0 : c0 < nc
  hLc : 0 < Lc
  sp0 : ∀ k, k < ns → ∃ d : Nat, d < nc ∧ d ≠ c0 ∧ sp k = d
  above : B ≤ S ∧ B ≤ M ∧ B ≤ C ∧ B ≤ w.heap.size
  small : n ≤ 65536 ∧ nc ≤ 65536 ∧ Lc ≤ 65536

set_option maxRecDepth 100000 in
set_option maxHeartbeats 2000000 in
/-- a node that starts its chunk: nothing is done -/
theorem cut_first (w : World) (S M C n nc : Nat) (sv : Value) (cl : Int) (mc ms F L : Nat → Int) (N : Nat → Value) (B ns : Nat) (sp : Nat → Int) (ln : Nat → Nat) (nd : Nat → Nat → Int) (gb : Nat → Nat) (thr rev : Nat → Int) (tb rb Lc c0 : Nat) (run : Nat → Nat)
    (h : Pre w S M C n nc sv cl mc ms F L N B ns sp ln nd gb thr rev tb rb Lc c0 run) :
    Calls Try.prog 10 #[.pointer (some ⟨S, 0, none⟩), .int .i32 (run 0 : Nat)] w fun e w' => e = .returned (.tuple #[]) ∧ ∃ q, w' = w.drewN q := by
  obtain ⟨-, -, s11, s12, -, -⟩ := h.st.s.cell
  have hv : run 0 < n := h.rn.lt 0 h.hLc
  obtain ⟨m0, -⟩ := h.st.m.cell (v := run 0) hv
  rw [h.rn.chunk 0 h.hLc] at m0
  obtain ⟨c1, c2, -⟩ := h.st.ch.cell (c := c0) h.hc0
  rw [h.rn.first] at c1
  have hc0 : (c0 : Int) < nc := by have := h.hc0; omega
  have hv' : ((run 0 : Nat) : Int) < n := by omega
  clear hv
  generalize run 0 = v at *
  clear h
  go_enter Try.func10, Try.ntmps10
  go_wp2
  go_quiet (fail)
  go_wp2
  exact bodyPost_ret (v := .tuple #[]) (by simp [results, Try.results10, go_sem]) rfl ⟨rfl, _, rfl⟩
end Go.Proofs.Qxb6623286a
