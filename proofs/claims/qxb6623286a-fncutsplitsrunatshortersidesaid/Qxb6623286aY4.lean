import Derived.Test.Qxb6623286aY3
import Derived.Test.Qxb6623286aZa
namespace Go.Proofs.Qxb6623286a
open Go.RowKit

/-- what cut does, either way -/
inductive CutR (w w' : World) (S M C n nc : Nat) (tv rv sv : Value) (cl : Int) (mc ms F L : Nat → Int) (N : Nat → Value) (B ns : Nat) (sp : Nat → Int) (gb : Nat → Nat) (Lc c0 pos : Nat) (run : Nat → Nat) :
    (nc' C' cap' : Nat) → (sv' : Value) → (cl' : Int) → (mc' ms' F' L' : Nat → Int) → (N' : Nat → Value) → Prop
  | first (q : Nat) (h0 : pos = 0) (hw : w' = w.drewN q) : CutR w w' S M C n nc tv rv sv cl mc ms F L N B ns sp gb Lc c0 pos run nc C nc sv cl mc ms F L N
  | done (s0 m d nc' C' cap' : Nat) (sv' : Value) (mc' ms' F' L' lst' : Nat → Int) (N' : Nat → Value) (h0 : 0 < pos) (h : CutDone w w' S M C n nc tv rv cl mc ms F L N B ns sp gb Lc c0 pos run s0 m d nc' C' cap' sv' mc' ms' F' L' lst' N') :
    CutR w w' S M C n nc tv rv sv cl mc ms F L N B ns sp gb Lc c0 pos run nc' C' cap' sv' (wrap64 (cl + m)) mc' ms' F' L' N'

theorem cut_any (w : World) (S M C n nc : Nat) (sv : Value) (cl : Int) (mc ms F L : Nat → Int) (N : Nat → Value) (B ns : Nat) (sp : Nat → Int) (ln : Nat → Nat) (nd : Nat → Nat → Int) (gb : Nat → Nat) (thr rev : Nat → Int) (tb rb Lc c0 pos : Nat) (run : Nat → Nat)
    (h : Pre w S M C n nc sv cl mc ms F L N B ns sp ln nd gb thr rev tb rb Lc c0 run) (hpL : pos < Lc) :
    Calls Try.prog 10 #[.pointer (some ⟨S, 0, none⟩), .int .i32 (run pos : Nat)] w fun e w' => e = .returned (.tuple #[]) ∧ ∃ nc' C' cap' sv' cl' mc' ms' F' L' N',
      CutR w w' S M C n nc (.slice (some ⟨tb, 0, none⟩) n n) (.slice (some ⟨rb, 0, none⟩) n n) sv cl mc ms F L N B ns sp gb Lc c0 pos run nc' C' cap' sv' cl' mc' ms' F' L' N' ∧
      St w' S M C' n nc' cap' (.slice (some ⟨tb, 0, none⟩) n n) (.slice (some ⟨rb, 0, none⟩) n n) sv' cl' mc' ms' F' L' N' ∧ nc' ≤ 65537 := by
  by_cases h0 : pos = 0
  · rw [h0]
    refine (cut_first w S M C n nc sv cl mc ms F L N B ns sp ln nd gb thr rev tb rb Lc c0 run h).mono ?_
    rintro e w' ⟨rfl, q, rfl⟩
    exact ⟨rfl, _, _, _, _, _, _, _, _, _, _, .first q rfl rfl, h.st.drewN q, by have := h.small; omega⟩
  · by_cases hs : Lc - pos ≤ pos
    · refine (cut_tail w S M C n nc sv cl mc ms F L N B ns sp ln nd gb thr rev tb rb Lc c0 pos run h (by omega) hpL hs).mono ?_
      rintro e w' ⟨rfl, s0, m, d, nc', C', cap', sv', mc', ms', F', L', lst', N', hd⟩
      refine ⟨rfl, _, _, _, _, _, _, _, _, _, _, .done s0 m d nc' C' cap' sv' mc' ms' F' L' lst' N' (by omega) hd, hd.st, ?_⟩
      have := h.small
      by_cases e : ns = 0
      · have := (hd.dd.1 e).2; omega
      · have := (hd.dd.2 (by omega)).2.2; omega
    · refine (cut_head w S M C n nc sv cl mc ms F L N B ns sp ln nd gb thr rev tb rb Lc c0 pos run h (by omega) hpL hs).mono ?_
      rintro e w' ⟨rfl, s0, m, d, nc', C', cap', sv', mc', ms', F', L', lst', N', hd⟩
      refine ⟨rfl, _, _, _, _, _, _, _, _, _, _, .done s0 m d nc' C' cap' sv' mc' ms' F' L' lst' N' (by omega) hd, hd.st, ?_⟩
      have := h.small
      by_cases e : ns = 0
      · have := (hd.dd.1 e).2; omega
      · have := (hd.dd.2 (by omega)).2.2; omega

/-- what ZZCut is handed -/
structure ZPre (w : World) (n nc : Nat) (sv : Value) (mc ms F L : Nat → Int) (N : Nat → Value) (B ns : Nat) (sp : Nat → Int) (ln : Nat → Nat) (nd : Nat → Nat → Int) (gb : Nat → Nat) (thr rev : Nat → Int) (tb rb mb sb fb lb Y Lc c0 : Nat) (run : Nat → Nat) : Prop where
  lists : Lists w B nc N ln nd gb
  spare : SpareIs w sv ns sp B
  trow : w.rowIs tb 21 n (fun j => .int .i32 (thr j))
  rrow : w.rowIs rb 21 n (fun j => .int .i32 (rev j))
  mrow : w.rowIs mb 21 n (fun j => .int .i32 (mc j))
  srow : w.rowIs sb 21 n (fun j => .int .i32 (ms j))
  frow : w.rowIs fb 21 nc (fun j => .int .i32 (F j))
  lrow : w.rowIs lb 21 nc (fun j => .int .i32 (L j))
  nrow : w.rowIs Y 22 nc N
  tbB : tb < B ∧ rb < B
  rn : Run n Lc c0 thr rev mc ms (F c0) (L c0) (nd c0) run
  len : ln c0 = Lc
  hc0 : c0 < nc
  hLc : 0 < Lc
  sp0 : ∀ k, k < ns → ∃ d : Nat, d < nc ∧ d ≠ c0 ∧ sp k = d
  above : B ≤ w.heap.size
  small : n ≤ 65536 ∧ nc ≤ 65536 ∧ Lc ≤ 65536

theorem make_rows (w : World) (t e : TypeId) (z : Value) (size bytes n : Nat) (ht : Try.prog.underlying t = some (.slice e)) (hinfo : (Try.prog.info? e).map (fun i => (i.zero, i.size, i.bytes)) = some (some z, size, bytes)) (hb : bytes * n ≤ 281474976710656) (hn : (n : Int) ≤ 65537) :
    (Instr.makeSlice t (.int .i64 (n : Int)) (.int .i64 (n : Int))).run Try.prog w = .ok (.slice (some ⟨w.heap.size, 0, none⟩) n n) (w.alloc (.cells (madeCells z.cells (n * size)) e)) := by
  obtain ⟨i0, hi, hz0, hz1, hz2⟩ := info_parts hinfo
  have := run_make (P := Try.prog) w t e i0 z ht hi hz0 .i64 .i64 n n (by omega) (by omega) (by rw [hz2]; omega) (by omega)
  rw [hz1] at this
  simpa using this
end Go.Proofs.Qxb6623286a
