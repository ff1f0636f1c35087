import Derived.Test.Qxb6623286aZ5
import Derived.Test.Qxb6623286aP1
namespace Go.Proofs.Qxb6623286a
open Go.RowKit

/-- the lists of the chunks: each a row of its own, or nil -/
structure Lists (w : World) (B nc : Nat) (N : Nat → Value) (ln : Nat → Nat) (nd : Nat → Nat → Int) (gb : Nat → Nat) : Prop where
  row : ∀ k, k < nc → (ln k = 0 ∧ N k = .slice none 0 0) ∨ (N k = .slice (some ⟨gb k, 0, none⟩) (ln k) (ln k) ∧ B ≤ gb k ∧ w.rowIs (gb k) 21 (ln k) (fun j => .int .i32 (nd k j)))
  inj : ∀ i j, i < nc → j < nc → gb i = gb j → i = j
  small : ∀ k, k < nc → ln k ≤ 1048576

/-- the spare numbers -/
structure SpareIs (w : World) (sv : Value) (ns : Nat) (sp : Nat → Int) (B : Nat) : Prop where
  nil : ns = 0 → ∃ a cp, sv = .slice a 0 cp
  row : 0 < ns → ∃ sb cp, sv = .slice (some ⟨sb, 0, none⟩) ns cp ∧ ns ≤ cp ∧ cp ≤ 1048576 ∧ sb < B ∧ ∀ k, k < ns → w.cell? ⟨sb, k, none⟩ = some (.int .i32 (sp k))

/-- what newChunk leaves -/
structure Fresh (w w' : World) (S M C n nc : Nat) (tv rv : Value) (cl : Int) (mc ms F L : Nat → Int) (N : Nat → Value) (x : Int) (B : Nat) (d nc' C' cap' : Nat) (sv' : Value) (F' L' : Nat → Int) (N' : Nat → Value) : Prop where
  st : St w' S M C' n nc' cap' tv rv sv' cl mc ms F' L' N'
  fd : F' d = x ∧ L' d = x
  keep : ∀ k, k < nc → k ≠ d → F' k = F k ∧ L' k = L k ∧ N' k = N k
  lt : d < nc'
  own : w'.ownsRow B 21 1 (N' d) 0 []
  blk : ∀ b, (N' d).ownBlock = some b → (N d).ownBlock = some b ∧ d < nc
  chg : Chg (fun b => b = S ∨ b = C) w w'
  cb : C' = C ∨ w.heap.size ≤ C'

theorem own_empty {w : World} {B nc : Nat} {N : Nat → Value} {ln : Nat → Nat} {nd : Nat → Nat → Int} {gb : Nat → Nat} (h : Lists w B nc N ln nd gb) {d : Nat} (hd : d < nc) :
    ∃ a cp, N d = .slice a (ln d) cp ∧ w.ownsRow B 21 1 (.slice a 0 cp) 0 [] ∧ Value.ownBlock (.slice a 0 cp) = (N d).ownBlock := by
  rcases h.row d hd with ⟨e0, e⟩ | ⟨e, hB, c, hb, hn, hc⟩
  · exact ⟨none, 0, by rw [e, e0], World.ownsRow_nil _ _ _ _, by rw [e]⟩
  · refine ⟨some ⟨gb d, 0, none⟩, ln d, e, ⟨by simp, .inr ⟨gb d, ln d, c, rfl, hB, hb, Nat.zero_le _, ?_, by rw [hn]; omega, by simp⟩⟩, by rw [e]; rfl⟩
    have := h.small d hd
    unfold maxLen; omega

theorem own_chg {w w' : World} {B n : Nat} {v : Value} {xs : List Value} (h : w.ownsRow B 21 1 v n xs) (hk : ∀ g, v.ownBlock = some g → w'.heap[g]? = w.heap[g]?) : w'.ownsRow B 21 1 v n xs := by
  refine ⟨h.1, ?_⟩
  rcases h.2 with h1 | ⟨g, c, cur, h1, h2, h3, h4⟩
  · exact .inl h1
  · exact .inr ⟨g, c, cur, h1, h2, by rw [hk g (by rw [h1]; rfl)]; exact h3, h4⟩

/-- newChunk, either way -/
theorem new_any (w : World) (S M C n nc : Nat) (tv rv sv : Value) (cl : Int) (mc ms F L : Nat → Int) (N : Nat → Value) (x : Int) (B ns : Nat) (sp : Nat → Int) (ln : Nat → Nat) (nd : Nat → Nat → Int) (gb : Nat → Nat)
    (h : St w S M C n nc nc tv rv sv cl mc ms F L N) (hn : (nc : Int) ≤ 65536) (hL : Lists w B nc N ln nd gb) (hs : SpareIs w sv ns sp B) (hr : ∀ k, k < ns → ∃ d : Nat, d < nc ∧ sp k = d) (hSB : B ≤ S) (hCB : B ≤ C) :
    Calls Try.prog 11 #[.pointer (some ⟨S, 0, none⟩), .int .i32 x] w fun e w' => ∃ d nc' C' cap' sv' F' L' N', e = .returned (.int .i32 (d : Nat)) ∧ Fresh w w' S M C n nc tv rv cl mc ms F L N x B d nc' C' cap' sv' F' L' N' ∧
      SpareIs w' sv' (ns - 1) sp B ∧ (ns = 0 → d = nc ∧ nc' = nc + 1) ∧ (0 < ns → sp (ns - 1) = d ∧ d < nc ∧ nc' = nc) := by
  by_cases h0 : ns = 0
  · obtain ⟨a, cp, rfl⟩ := hs.nil h0
    refine (new_fresh w S M C n nc tv rv cl mc ms F L N a cp x h hn).mono ?_
    rintro e w' ⟨rfl, C', cap', hst, hchg, hcb⟩
    refine ⟨nc, nc + 1, C', cap', _, _, _, _, rfl, ⟨hst, by simp [upd], fun k hk hne => by simp [upd, hne], by omega, ?_, ?_, hchg, hcb⟩, ⟨fun _ => ⟨a, cp, rfl⟩, fun h => absurd h (by omega)⟩, fun _ => ⟨rfl, rfl⟩, fun h => absurd h (by omega)⟩
    · simp [upd]; exact World.ownsRow_nil _ _ _ _
    · intro b hb; simp [upd, Value.ownBlock] at hb
  · obtain ⟨k, rfl⟩ : ∃ k, ns = k + 1 := ⟨ns - 1, by omega⟩
    obtain ⟨sb, scap, rfl, h1, h2, h3, h4⟩ := hs.row (by omega)
    obtain ⟨d, hd, hsp⟩ := hr k (by omega)
    obtain ⟨a, cp, e1, e2, e3⟩ := own_empty hL hd
    have hc := h4 k (by omega)
    rw [hsp] at hc
    refine (new_spare w S M C n nc nc tv rv cl mc ms F L N k sb scap d a (ln d) cp x h hc (by omega) (by omega) (by omega) e1).mono ?_
    rintro e w' ⟨rfl, hst, hchg⟩
    have hkeep : ∀ b, b < w.heap.size → b ≠ S → b ≠ C → w'.heap[b]? = w.heap[b]? := fun b hb hb1 hb2 => hchg.block b hb (fun h => by rcases h with h | h; exact hb1 h; exact hb2 h)
    have hcell : ∀ j, j < k + 1 → w'.cell? ⟨sb, j, none⟩ = some (.int .i32 (sp j)) := fun j hj => by
      have hh := h4 j hj
      have hlt := block_lt_of_cell hh
      have hk := hkeep sb hlt (by omega) (by omega)
      unfold World.cell? at hh ⊢
      rw [hk]; exact hh
    refine ⟨d, nc, C, nc, _, _, _, _, rfl, ⟨hst, by simp [upd], fun k hk hne => by simp [upd, hne], hd, ?_, ?_, hchg, .inl rfl⟩, ⟨fun h0 => ⟨some ⟨sb, 0, none⟩, scap, by simp at h0; subst h0; rfl⟩, fun _ => ⟨sb, scap, by simp, by simp; omega, h2, h3, fun j hj => hcell j (by simp at hj; omega)⟩⟩, fun h => absurd h (by omega), fun _ => ⟨by simpa using hsp, hd, rfl⟩⟩
    · simp [upd]
      obtain ⟨fS, hfS⟩ := h.s.row
      exact own_chg e2 (fun g hg => hkeep g ((e2.lt g hg).2) (fun e => own_ne e2 hfS (by decide) (by rw [hg, e])) (fun e => h.ch.own e2 (by rw [hg, e])))
    · intro b hb
      simp [upd] at hb
      rw [e3] at hb
      exact ⟨hb, hd⟩
end Go.Proofs.Qxb6623286a
