import Derived.Test.Qxb6623286aZ8
namespace Go.Proofs.Qxb6623286a
open Go.RowKit

theorem drew2 (w : World) (a b : Nat) : (w.drewN a).drewN b = w.drewN (a + b) := by simp
theorem drew3 (w : World) (a b c : Nat) : ((w.drewN a).drewN b).drewN c = w.drewN (a + b + c) := by simp

/-- what cut leaves where the node does not start its chunk -/
structure CutDone (w w' : World) (S M C n nc : Nat) (tv rv : Value) (cl : Int) (mc ms F L : Nat → Int) (N : Nat → Value) (B ns : Nat) (sp : Nat → Int) (gb : Nat → Nat) (Lc c0 pos : Nat) (run : Nat → Nat)
    (s0 m d nc' C' cap' : Nat) (sv' : Value) (mc' ms' F' L' lst' : Nat → Int) (N' : Nat → Value) : Prop where
  seg : (Lc - pos ≤ pos ∧ s0 = pos ∧ m = Lc - pos) ∨ (¬ (Lc - pos ≤ pos) ∧ s0 = 0 ∧ m = pos)
  st : St w' S M C' n nc' cap' tv rv sv' (wrap64 (cl + m)) mc' ms' F' L' N'
  pi : PI Lc c0 d s0 m mc ms mc' ms' lst' run
  fd : F' d = run s0 ∧ L' d = run (s0 + m - 1)
  f0 : F' c0 = run (if s0 = 0 then pos else 0) ∧ L' c0 = run (if s0 = 0 then Lc - 1 else pos - 1)
  keep : ∀ k, k < nc → k ≠ d → k ≠ c0 → F' k = F k ∧ L' k = L k ∧ N' k = N k
  n0 : N' c0 = .slice (some ⟨gb c0, 0, none⟩) (Lc - m) Lc
  row0 : w'.rowIs (gb c0) 21 Lc (fun i => .int .i32 (lst' i))
  own : w'.ownsRow B 21 1 (N' d) m ((List.range m).map (fun i => .int .i32 (run (s0 + i) : Nat)))
  spare : SpareIs w' sv' (ns - 1) sp B
  dd : (ns = 0 → d = nc ∧ nc' = nc + 1) ∧ (0 < ns → sp (ns - 1) = d ∧ d < nc ∧ nc' = nc)
  ne : d ≠ c0 ∧ d < nc'
  lists : ∀ k, k < nc → k ≠ d → k ≠ c0 → ∀ b n f, w.rowIs b 21 n f → (N k).ownBlock = some b → w'.heap[b]? = w.heap[b]?
  other : ∀ b n f, w.rowIs b 21 n f → (N c0).ownBlock ≠ some b → (d < nc → (N d).ownBlock ≠ some b) → w'.heap[b]? = w.heap[b]?
  low : Below B w w'


theorem Chg.below {T : Nat → Prop} {B : Nat} {a b : World} (h : Chg T a b) (hB : B ≤ a.heap.size) (hT : ∀ k, k < B → ¬ T k) : Below B a b :=
  ⟨h.os, h.tape, h.output, h.size, fun k hk => h.block k (by omega) (hT k hk)⟩

/-- from what the last loop leaves to what cut leaves -/
theorem cut_close {w w2 w3 wr : World} {S M C n nc : Nat} {sv : Value} {cl : Int} {mc ms F L F2 L2 : Nat → Int} {N : Nat → Value} {B ns : Nat} {sp : Nat → Int} {ln : Nat → Nat} {nd : Nat → Nat → Int} {gb : Nat → Nat} {thr rev : Nat → Int} {tb rb Lc c0 pos : Nat} {run : Nat → Nat}
    {s0 m d nc' C' cap' : Nat} {sv' : Value} {F' L' mcj msj lst : Nat → Int} {N' : Nat → Value} {Nv : Value} {x last : Int}
    (h : Pre w S M C n nc sv cl mc ms F L N B ns sp ln nd gb thr rev tb rb Lc c0 run)
    (hc2 : Chg (fun b => b = C) w w2) (fr : Fresh w2 w3 S M C n nc (.slice (some ⟨tb, 0, none⟩) n n) (.slice (some ⟨rb, 0, none⟩) n n) cl mc ms F2 L2 N x B d nc' C' cap' sv' F' L' N') (sps : SpareIs w3 sv' (ns - 1) sp B)
    (dd : (ns = 0 → d = nc ∧ nc' = nc + 1) ∧ (0 < ns → sp (ns - 1) = d ∧ d < nc ∧ nc' = nc)) (hdc : d ≠ c0)
    (hx : x = run s0) (hlast : last = run (s0 + m - 1)) (e0 : F2 c0 = run (if s0 = 0 then pos else 0) ∧ L2 c0 = run (if s0 = 0 then Lc - 1 else pos - 1)) (ek : ∀ k, k ≠ c0 → F2 k = F k ∧ L2 k = L k)
    (mid : Mid (w3.setCell ⟨C', d * 3 + 1, none⟩ (.int .i32 last)) wr S M C' n nc' cap' (.slice (some ⟨tb, 0, none⟩) n n) (.slice (some ⟨rb, 0, none⟩) n n) sv' cl mc ms F' (upd L' d last) N' B Lc c0 d s0 (gb c0) m run mcj msj lst Nv)
    (seg : (Lc - pos ≤ pos ∧ s0 = pos ∧ m = Lc - pos) ∨ (¬ (Lc - pos ≤ pos) ∧ s0 = 0 ∧ m = pos)) :
    ∃ mc' ms' F'' L'' lst' N'', CutDone w (wr.setCell ⟨S, 14, none⟩ (.int .i64 (wrap64 (cl + m)))) S M C n nc (.slice (some ⟨tb, 0, none⟩) n n) (.slice (some ⟨rb, 0, none⟩) n n) cl mc ms F L N B ns sp gb Lc c0 pos run s0 m d nc' C' cap' sv' mc' ms' F'' L'' lst' N'' := by
  have hne' := mid.st.ne
  obtain ⟨fS, hfS⟩ := mid.st.s.row
  have hz2 : w.heap.size ≤ w2.heap.size := hc2.size
  have hz3 : w2.heap.size ≤ w3.heap.size := fr.chg.size
  have hz4 : (w3.setCell ⟨C', d * 3 + 1, none⟩ (.int .i32 last)).heap.size = w3.heap.size := by simp [World.setCell]
  obtain ⟨aS, aM, aC, aW⟩ := h.above
  have hC'B : B ≤ C' := by rcases fr.cb with e | e <;> omega
  have hg0 : N c0 = .slice (some ⟨gb c0, 0, none⟩) Lc Lc ∧ B ≤ gb c0 := by
    rcases h.lists.row c0 h.hc0 with ⟨e, _⟩ | ⟨e, hB, _⟩
    · have := h.len; have := h.hLc; omega
    · rw [h.len] at e; exact ⟨e, hB⟩
  -- block by block, from w on
  have chain : ∀ b, b < w.heap.size → b ≠ S → b ≠ M → b ≠ C → b ≠ C' → b ≠ gb c0 → (N' d).ownBlock ≠ some b →
      (wr.setCell ⟨S, 14, none⟩ (.int .i64 (wrap64 (cl + m)))).heap[b]? = w.heap[b]? := by
    intro b hb h1 h2 h3 h4 h5 h6
    rw [Below.heap_setCell _ _ _ _ h1]
    rw [mid.chg.block b (by omega) (fun hT => by
      rcases hT with e | e | e | e | e
      · exact h2 e
      · exact h4 e
      · exact h5 e
      · exact h6 e.symm
      · omega)]
    rw [Below.heap_setCell _ _ _ _ h4]
    rw [fr.chg.block b (by omega) (fun hT => by
      rcases hT with e | e
      · exact h1 e
      · exact h3 e)]
    exact hc2.block b hb h3
  have hlow : ∀ b, b < B → (wr.setCell ⟨S, 14, none⟩ (.int .i64 (wrap64 (cl + m)))).heap[b]? = w.heap[b]? := fun b hb =>
    chain b (by omega) (by omega) (by omega) (by omega) (by omega) (by have := hg0.2; omega) (fun e => by have := (fr.own.lt b e).1; omega)
  have hlow3 : ∀ b, b < B → b < w3.heap.size → (wr.setCell ⟨S, 14, none⟩ (.int .i64 (wrap64 (cl + m)))).heap[b]? = w3.heap[b]? := fun b hb hb3 => by
    rw [hlow b hb, fr.chg.block b (by omega) (fun hT => by rcases hT with e | e <;> omega)]
    exact (hc2.block b (by omega) (by omega)).symm
  refine ⟨mcj, msj, F', upd L' d last, lst, upd (upd N' c0 (.slice (some ⟨gb c0, 0, none⟩) (Lc - m) Lc)) d Nv, seg, ⟨mid.st.s.setCut _, World.rowIs.setOther mid.st.m (a := ⟨S, 14, none⟩) (Ne.symm hne'.1) _, mid.st.ch.other (a := ⟨S, 14, none⟩) (Ne.symm hne'.2.1) _⟩, mid.pi,
    ⟨by rw [fr.fd.1, hx], by simp [upd, hlast]⟩, ?_, fun k hk h1 h2 => ?_, by simp [upd, Ne.symm hdc], World.rowIs.setOther mid.row (a := ⟨S, 14, none⟩) (Ne.symm (row_ne hfS mid.row (by decide))) _, ?_, sps.keep hlow3, dd, ⟨hdc, fr.lt⟩, ?_, ?_, ⟨?_, ?_, ?_, ?_, hlow⟩⟩
  · obtain ⟨k1, k2, _⟩ := fr.keep c0 h.hc0 (Ne.symm hdc)
    rw [k1]
    refine ⟨e0.1, ?_⟩
    simp only [upd, if_neg (Ne.symm hdc)]
    rw [k2]; exact e0.2
  · obtain ⟨k1, k2, k3⟩ := fr.keep k hk h1
    obtain ⟨e1, e2⟩ := ek k h2
    simp only [upd, if_neg h1, if_neg h2]
    exact ⟨by rw [k1, e1], by rw [k2, e2], k3⟩
  · have e : upd (upd N' c0 (.slice (some ⟨gb c0, 0, none⟩) (Lc - m) Lc)) d Nv d = Nv := by simp [upd]
    rw [e]
    exact own_set mid.own (a := ⟨S, 14, none⟩) (own_ne mid.own hfS (by decide)) _
  · intro k hk h1 h2 b nn f hr hb
    obtain ⟨gS, hgS⟩ := h.st.s.row
    have bS : b ≠ S := row_ne hr hgS (by decide)
    have bM : b ≠ M := row_ne hr h.st.m (by decide)
    have bC : b ≠ C := h.st.ch.ne hr (by decide)
    have bC' : b ≠ C' := by
      rcases fr.cb with e | e
      · rw [e]; exact bC
      · have := hr.lt; omega
    have eb : b = gb k := by
      rcases h.lists.row k hk with ⟨_, e⟩ | ⟨e, _⟩
      · rw [e] at hb; cases hb
      · rw [e] at hb; cases hb; rfl
    refine chain b hr.lt bS bM bC bC' (fun e => h2 (h.lists.inj k c0 hk h.hc0 (by rw [← eb, e]))) (fun e => ?_)
    obtain ⟨e1, e2⟩ := fr.blk b e
    rcases h.lists.row d e2 with ⟨_, e3⟩ | ⟨e3, _⟩
    · rw [e3] at e1; cases e1
    · rw [e3] at e1
      have : b = gb d := by cases e1; rfl
      exact h1 (h.lists.inj k d hk e2 (by rw [← eb, this]))
  · intro b nn f hr hb1 hb2
    obtain ⟨gS, hgS⟩ := h.st.s.row
    have bS : b ≠ S := row_ne hr hgS (by decide)
    have bM : b ≠ M := row_ne hr h.st.m (by decide)
    have bC : b ≠ C := h.st.ch.ne hr (by decide)
    have bC' : b ≠ C' := by
      rcases fr.cb with e | e
      · rw [e]; exact bC
      · have := hr.lt; omega
    refine chain b hr.lt bS bM bC bC' (fun e => hb1 (by rw [hg0.1, e]; rfl)) (fun e => ?_)
    obtain ⟨e1, e2⟩ := fr.blk b e
    exact hb2 e2 e1
  · exact mid.chg.os.trans (fr.chg.os.trans hc2.os)
  · exact mid.chg.tape.trans (fr.chg.tape.trans hc2.tape)
  · exact mid.chg.output.trans (fr.chg.output.trans hc2.output)
  · have := mid.chg.size
    simp [World.setCell]
    omega
end Go.Proofs.Qxb6623286a
