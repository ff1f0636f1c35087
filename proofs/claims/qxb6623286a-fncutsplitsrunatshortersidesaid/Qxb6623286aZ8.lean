import Derived.Test.Qxb6623286aZ7
namespace Go.Proofs.Qxb6623286a
open Go.RowKit

theorem Lists.keep {w w' : World} {B nc : Nat} {N : Nat → Value} {ln : Nat → Nat} {nd : Nat → Nat → Int} {gb : Nat → Nat} (h : Lists w B nc N ln nd gb) (hk : ∀ b n f, w.rowIs b 21 n f → w'.heap[b]? = w.heap[b]?) : Lists w' B nc N ln nd gb := by
  refine ⟨fun k hk' => ?_, h.inj, h.small⟩
  rcases h.row k hk' with h1 | ⟨e, hB, hr⟩
  · exact .inl h1
  · exact .inr ⟨e, hB, hr.of_block (hk _ _ _ hr)⟩
theorem SpareIs.keep {w w' : World} {sv : Value} {ns B : Nat} {sp : Nat → Int} (h : SpareIs w sv ns sp B) (hk : ∀ b, b < B → b < w.heap.size → w'.heap[b]? = w.heap[b]?) : SpareIs w' sv ns sp B := by
  refine ⟨h.nil, fun h0 => ?_⟩
  obtain ⟨sb, cp, e, h1, h2, h3, h4⟩ := h.row h0
  refine ⟨sb, cp, e, h1, h2, h3, fun k hk' => ?_⟩
  have hh := h4 k hk'
  have := hk sb h3 (block_lt_of_cell hh)
  unfold World.cell? at hh ⊢
  rw [this]; exact hh

/-- the world while nodes are moved -/
structure Mid (w3 wr : World) (S M C n nc cap : Nat) (tv rv sv : Value) (cl : Int) (mc ms F L : Nat → Int) (N : Nat → Value) (B Lc c0 d s0 g0 j : Nat) (run : Nat → Nat) (mcj msj lst : Nat → Int) (Nv : Value) : Prop where
  st : St wr S M C n nc cap tv rv sv cl mcj msj F L (upd (upd N c0 (.slice (some ⟨g0, 0, none⟩) (Lc - j) Lc)) d Nv)
  row : wr.rowIs g0 21 Lc (fun i => .int .i32 (lst i))
  own : wr.ownsRow B 21 1 Nv j ((List.range j).map (fun i => .int .i32 (run (s0 + i) : Nat)))
  pi : PI Lc c0 d s0 j mc ms mcj msj lst run
  at' : Nv.ownBlock = (N d).ownBlock ∨ ∃ g, Nv.ownBlock = some g ∧ w3.heap.size ≤ g
  chg : Chg (fun b => b = M ∨ b = C ∨ b = g0 ∨ some b = (N d).ownBlock ∨ w3.heap.size ≤ b) w3 wr

theorem mid_start {w : World} {S M C n nc cap : Nat} {tv rv sv : Value} {cl : Int} {mc ms F L : Nat → Int} {N : Nat → Value} {B Lc c0 d s0 g0 : Nat} {run : Nat → Nat} {thr rev lst0 : Nat → Int} {f l : Int}
    (hst : St w S M C n nc cap tv rv sv cl mc ms F L N) (hrow : w.rowIs g0 21 Lc (fun i => .int .i32 (lst0 i))) (hown : w.ownsRow B 21 1 (N d) 0 []) (hr : Run n Lc c0 thr rev mc ms f l lst0 run) (hN : N c0 = .slice (some ⟨g0, 0, none⟩) Lc Lc) :
    Mid w w S M C n nc cap tv rv sv cl mc ms F L N B Lc c0 d s0 g0 0 run mc ms lst0 (N d) := by
  refine ⟨?_, hrow, by simpa using hown, PI.start hr, .inl rfl, Chg.refl _ _⟩
  have e : upd (upd N c0 (.slice (some ⟨g0, 0, none⟩) (Lc - 0) Lc)) d (N d) = N := by
    funext k
    unfold upd
    split
    · rename_i h; rw [h]
    · split
      · rename_i h; rw [h, hN]; rfl
      · rfl
  rw [e]; exact hst

/-- one node is moved -/
theorem mid_step {w3 wr : World} {S M C n nc cap : Nat} {tv rv sv : Value} {cl : Int} {mc ms F L : Nat → Int} {N : Nat → Value} {B Lc c0 d s0 g0 j : Nat} {run : Nat → Nat} {mcj msj lst : Nat → Int} {Nv : Value} {thr rev lst0 : Nat → Int} {f l : Int}
    (h : Mid w3 wr S M C n nc cap tv rv sv cl mc ms F L N B Lc c0 d s0 g0 j run mcj msj lst Nv) (hr : Run n Lc c0 thr rev mc ms f l lst0 run) (hj : s0 + j < Lc) (hd : d < nc) (hc0 : c0 < nc) (hne : d ≠ c0) (hB : B ≤ w3.heap.size) (hL : Lc ≤ 65536)
    (hng : (N d).ownBlock ≠ some g0) (hg0 : g0 < w3.heap.size) :
    Calls Try.prog 12 #[.pointer (some ⟨S, 0, none⟩), .int .i32 (run (s0 + j) : Nat), .int .i32 d] wr fun e w' => ∃ x, e = .returned x ∧ ∃ mcj' msj' lst' Nv', Mid w3 w' S M C n nc cap tv rv sv cl mc ms F L N B Lc c0 d s0 g0 (j + 1) run mcj' msj' lst' Nv' := by
  obtain ⟨sl, u, tu, a1, a2, a3, a4, a5, a6, a7⟩ := h.pi.step hr hj
  have eN : upd (upd N c0 (.slice (some ⟨g0, 0, none⟩) (Lc - j) Lc)) d Nv d = Nv := by simp [upd]
  have eN0 : upd (upd N c0 (.slice (some ⟨g0, 0, none⟩) (Lc - j) Lc)) d Nv c0 = .slice (some ⟨g0, 0, none⟩) (Lc - j - 1 + 1) Lc := by
    simp [upd, Ne.symm hne]; omega
  have hNvg : Nv.ownBlock ≠ some g0 := by
    rcases h.at' with e | ⟨g, e, hg⟩
    · rw [e]; exact hng
    · rw [e]; intro hh; cases hh; omega
  have hv := hr.lt (s0 + j) hj
  have hu := hr.lt tu a6
  refine (move_any wr S M C n nc cap tv rv sv cl mcj msj F L _ (run (s0 + j)) d j B _ c0 sl (Lc - j - 1) Lc g0 u lst h.st.s h.st.m h.st.ch (by omega) (by omega) (by rw [eN]; exact h.own) (Nat.le_trans hB h.chg.size) (by omega) a2 a3 (by omega) hne eN0 h.row (by omega) (by omega) (by omega) a4 (by omega) (by rw [eN]; exact hNvg)).mono ?_
  rintro e w' ⟨rfl, Nv', hm⟩
  refine ⟨_, rfl, _, _, _, Nv', ?_, hm.row, ?_, a7, ?_, ?_⟩
  · have e : upd (upd (upd (upd N c0 (.slice (some ⟨g0, 0, none⟩) (Lc - j) Lc)) d Nv) c0 (.slice (some ⟨g0, 0, none⟩) (Lc - j - 1) Lc)) d Nv' = upd (upd N c0 (.slice (some ⟨g0, 0, none⟩) (Lc - (j + 1)) Lc)) d Nv' := by
      funext k
      unfold upd
      by_cases e1 : k = d
      · simp [e1]
      · by_cases e2 : k = c0
        · subst e2; simp [e1]; omega
        · simp [e1, e2]
    have := hm.st
    rw [e] at this
    exact this
  · have := hm.own
    rw [List.range_succ, List.map_append]
    exact this
  · have := hm.at'
    rw [eN] at this
    rcases this with e | ⟨g, e, hg⟩
    · rw [e]; exact h.at'
    · exact .inr ⟨g, e, Nat.le_trans h.chg.size hg⟩
  · refine h.chg.trans (hm.chg.mono (fun b hb hT => ?_))
    rw [eN] at hT
    rcases hT with h1 | h1 | h1 | h1
    · exact .inl h1
    · exact .inr (.inl h1)
    · exact .inr (.inr (.inl h1))
    · rcases h.at' with e | ⟨g, e, hg⟩
      · exact .inr (.inr (.inr (.inl (by rw [← e]; exact h1))))
      · rw [e] at h1; cases h1; exact .inr (.inr (.inr (.inr hg)))
end Go.Proofs.Qxb6623286a
