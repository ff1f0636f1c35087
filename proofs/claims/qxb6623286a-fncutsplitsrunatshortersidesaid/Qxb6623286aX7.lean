import Derived.Test.Qxb6623286aX3
import Derived.Test.Qxb6623286aY6
import Derived.Test.Qxb6623286aY7
namespace Go.Proofs.Qxb6623286a
open Go.RowKit

theorem inj_le {n m : Nat} {f : Nat → Nat} (hlt : ∀ j, j < m → f j < n) (hinj : ∀ i j, i < m → j < m → f i = f j → i = j) : m ≤ n := by
  refine Nat.le_of_not_lt fun h => ?_
  obtain ⟨i, hi, e⟩ := pigeon n f (fun i hi => hlt i (by omega)) (fun i j hi hj e => hinj i j (by omega) (by omega) e) (f n) (hlt n h)
  have := hinj i n (by omega) h e
  omega

theorem Run.small {n Lc c0 : Nat} {thr rev mc ms : Nat → Int} {F L : Int} {lst0 : Nat → Int} {run : Nat → Nat} (h : Run n Lc c0 thr rev mc ms F L lst0 run) : Lc ≤ n := inj_le h.lt h.inj

theorem CpR.spare {w : World} {v : Value} {n : Nat} {f : Nat → Int} (h : CpR w v n f) (hn : n ≤ 65536) : SpareIs w v n f w.heap.size := by
  refine ⟨fun h0 => ?_, fun h0 => ?_⟩
  · subst h0
    obtain ⟨a, c, e, _⟩ := h.i32
    exact ⟨a, c, e⟩
  · obtain ⟨b, e, hr⟩ := h.row h0
    exact ⟨b, n, e, Nat.le_refl _, by omega, hr.lt, fun k hk => hr.cell hk⟩

/-- the copied lists, as the cut wants them -/
theorem Cl.lists {w w' : World} {nc : Nat} {r : Nat → Value} {ln : Nat → Nat} {nd : Nat → Nat → Int} {N : Nat → Value} {gb : Nat → Nat} (h : Cl w w' nc nc r ln nd N gb) (hs : ∀ k, k < nc → ln k ≤ 1048576) : ∃ gb', Lists w' w.heap.size nc N ln nd gb' := by
  classical
  refine ⟨fun k => if N k = .slice none 0 0 then w'.heap.size + k else gb k, fun k hk => ?_, fun i j hi hj e => ?_, hs⟩
  · rcases h.made k hk with ⟨_, e0, e1⟩ | ⟨e1, e2, e3, e4⟩
    · exact .inl ⟨e0, e1⟩
    · have hne : N k ≠ .slice none 0 0 := by rw [e1]; simp
      simp only [if_neg hne]
      exact .inr ⟨e1, by omega, e4⟩
  · have e : (if N i = .slice none 0 0 then w'.heap.size + i else gb i) = (if N j = .slice none 0 0 then w'.heap.size + j else gb j) := e
    by_cases h1 : N i = .slice none 0 0
    · rw [if_pos h1] at e
      by_cases h2 : N j = .slice none 0 0
      · rw [if_pos h2] at e; omega
      · rw [if_neg h2] at e
        rcases h.made j hj with ⟨_, _, e1⟩ | ⟨_, _, e3, _⟩
        · exact absurd e1 h2
        · omega
    · rw [if_neg h1] at e
      by_cases h2 : N j = .slice none 0 0
      · rw [if_pos h2] at e
        rcases h.made i hi with ⟨_, _, e1⟩ | ⟨_, _, e3, _⟩
        · exact absurd e1 h1
        · omega
      · rw [if_neg h2] at e
        exact h.inj i j hi hj h1 h2 e

theorem Lists.after {w w' : World} {B nc : Nat} {N : Nat → Value} {ln : Nat → Nat} {nd : Nat → Nat → Int} {gb : Nat → Nat} (h : Lists w B nc N ln nd gb) (hb : Below w.heap.size w w') : Lists w' B nc N ln nd gb := by
  refine ⟨fun k hk => ?_, h.inj, h.small⟩
  rcases h.row k hk with h1 | ⟨e1, e2, e3⟩
  · exact .inl h1
  · exact .inr ⟨e1, e2, e3.of_block (hb.block _ e3.lt)⟩

theorem zpre {w8 w9 w10 : World} {n nc ns v c0 tb rb mb sb fb lb : Nat} {thr rev mc ms F L sp : Nat → Int} {r N : Nat → Value} {ln : Nat → Nat} {nd : Nat → Nat → Int} {gb : Nat → Nat} {sv : Value} {run : Nat → Nat}
    (hwf : WF n nc ns thr rev mc ms F L sp ln nd v c0) (hrun : Run n (ln c0) c0 thr rev mc ms (F c0) (L c0) (nd c0) run) (hc0 : c0 < nc)
    (ht : w8.rowIs tb 21 n (fun j => .int .i32 (thr j))) (hr : w8.rowIs rb 21 n (fun j => .int .i32 (rev j))) (hm : w8.rowIs mb 21 n (fun j => .int .i32 (mc j))) (hs : w8.rowIs sb 21 n (fun j => .int .i32 (ms j)))
    (hf : w8.rowIs fb 21 nc (fun j => .int .i32 (F j))) (hl : w8.rowIs lb 21 nc (fun j => .int .i32 (L j))) (hsp : CpR w8 sv ns sp) (hcl : Cl w8 w9 nc nc r ln nd N gb) (hb : Below w9.heap.size w9 w10)
    (hln : ∀ k, k < nc → ln k ≤ 1048576) (hn : n ≤ 65536) (hnc : nc ≤ 65536) (hns : ns ≤ 65536) :
    ∃ gb', ZPre w10 n nc sv mc ms F L N w8.heap.size ns sp ln nd gb' thr rev tb rb mb sb fb lb w8.heap.size (ln c0) c0 run := by
  obtain ⟨gb', hlists⟩ := hcl.lists hln
  have h89 : Below w8.heap.size w8 w9 := hcl.below
  have h810 : Below w8.heap.size w8 w10 := h89.trans (hb.mono h89.size)
  have hsz := h810.size
  refine ⟨gb', hlists.after hb, ?_, ht.of_block (h810.block _ ht.lt), hr.of_block (h810.block _ hr.lt), hm.of_block (h810.block _ hm.lt), hs.of_block (h810.block _ hs.lt), hf.of_block (h810.block _ hf.lt), hl.of_block (h810.block _ hl.lt), ?_, ⟨ht.lt, hr.lt⟩, hrun, rfl, hc0, hwf.hpos, hwf.hsp, hsz, hn, hnc, ?_⟩
  · have h0 := hsp.spare hns
    refine ⟨h0.nil, fun hp => ?_⟩
    obtain ⟨b, cp, e1, e2, e3, e4, e5⟩ := h0.row hp
    exact ⟨b, cp, e1, e2, e3, e4, fun k hk => by rw [h810.cell (p := ⟨b, k, none⟩) e4]; exact e5 k hk⟩
  · have hY := hcl.row
    exact (hY.of_block (hb.block _ hY.lt)).congr (fun k hk => by simp [hk])
  · have := hrun.small; omega
end Go.Proofs.Qxb6623286a
