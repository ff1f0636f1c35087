import Derived.Test.Qxb6623286aY1
import Derived.Test.Qxb6623286aZ6
namespace Go.Proofs.Qxb6623286a
open Go.RowKit

theorem Try.info22 : (Try.prog.info? 22).map (fun i => (i.zero, i.size, i.bytes)) = some (some (.slice none 0 0), 1, 24) := by kernel_rfl
theorem eql_nil22 (w : World) (a : Option Addr) (n c n' c' : Nat) : (binOp .eql 22 (.slice a n c) (.slice none n' c')).run Try.prog w = .ok (.bool a.isNone) w := by
  simp only [binOp]
  simp [Op.equal, Op.maxDepth, Lib.run_equalIn_slice_nil w 9999 22 21 a n c n' c' Try.underlying22]
theorem eql_nil23 (w : World) (a : Option Addr) (n c n' c' : Nat) : (binOp .eql 23 (.slice a n c) (.slice none n' c')).run Try.prog w = .ok (.bool a.isNone) w := by
  simp only [binOp]
  simp [Op.equal, Op.maxDepth, Lib.run_equalIn_slice_nil w 9999 23 22 a n c n' c' Try.underlying23]

/-- a row that came in: nil, or readable -/
def RowIn (w : World) (r : Value) (ln : Nat) (nd : Nat → Int) : Prop :=
  (r = .slice none 0 0 ∧ ln = 0) ∨ ∃ ad cp, r = .slice (some ad) ln cp ∧ (0 < ln → ∃ b o, ad = ⟨b, o, none⟩ ∧ b < w.heap.size ∧ ∀ k, k < ln → w.cell? ⟨b, o + k, none⟩ = some (.int .i32 (nd k)))
theorem RowIn.i32 {w : World} {r : Value} {ln : Nat} {nd : Nat → Int} (h : RowIn w r ln nd) : I32 w r ln nd := by
  rcases h with ⟨rfl, rfl⟩ | ⟨ad, cp, rfl, hc⟩
  · exact ⟨none, 0, rfl, fun h => absurd h (by omega)⟩
  · refine ⟨some ad, cp, rfl, fun h0 => ?_⟩
    obtain ⟨b, o, rfl, h1, h2⟩ := hc h0
    exact ⟨b, o, rfl, h1, h2⟩

/-- the copies made so far -/
structure Cl (w wr : World) (nc i : Nat) (r : Nat → Value) (ln : Nat → Nat) (nd : Nat → Nat → Int) (N : Nat → Value) (gb : Nat → Nat) : Prop where
  below : Below w.heap.size w wr
  row : wr.rowIs w.heap.size 22 nc (fun k => if k < i then N k else .slice none 0 0)
  made : ∀ k, k < i → (r k = .slice none 0 0 ∧ ln k = 0 ∧ N k = .slice none 0 0) ∨
    (N k = .slice (some ⟨gb k, 0, none⟩) (ln k) (ln k) ∧ w.heap.size < gb k ∧ gb k < wr.heap.size ∧ wr.rowIs (gb k) 21 (ln k) (fun j => .int .i32 (nd k j)))
  inj : ∀ k l, k < i → l < i → N k ≠ .slice none 0 0 → N l ≠ .slice none 0 0 → gb k = gb l → k = l

theorem Cl.skip {w wr : World} {nc i : Nat} {r : Nat → Value} {ln : Nat → Nat} {nd : Nat → Nat → Int} {N : Nat → Value} {gb : Nat → Nat} (h : Cl w wr nc i r ln nd N gb) (hr : r i = .slice none 0 0 ∧ ln i = 0) : Cl w wr nc (i + 1) r ln nd (upd N i (.slice none 0 0)) gb := by
  refine ⟨h.below, h.row.congr (fun k hk => ?_), fun k hk => ?_, fun k l hk hl h1 h2 e => ?_⟩
  · by_cases e : k = i
    · subst e; simp [upd]
    · simp only [upd, if_neg e]
      by_cases h1 : k < i
      · rw [if_pos h1, if_pos (by omega)]
      · rw [if_neg h1, if_neg (by omega)]
  · by_cases e : k = i
    · subst e; exact .inl ⟨hr.1, hr.2, by simp [upd]⟩
    · have := h.made k (by omega)
      simpa [upd, e] using this
  · have n1 : k ≠ i := fun e => h1 (by simp [upd, e])
    have n2 : l ≠ i := fun e => h2 (by simp [upd, e])
    simp only [upd, if_neg n1] at h1
    simp only [upd, if_neg n2] at h2
    exact h.inj k l (by omega) (by omega) h1 h2 e

/-- one row more -/
theorem Cl.add {w wr w2 : World} {nc i Z : Nat} {r : Nat → Value} {ln : Nat → Nat} {nd : Nat → Nat → Int} {N : Nat → Value} {gb : Nat → Nat} (h : Cl w wr nc i r ln nd N gb) (hZ : Z = wr.heap.size) (hb : Below wr.heap.size wr w2) (hi : i < nc)
    (hz : w2.rowIs Z 21 (ln i) (fun j => .int .i32 (nd i j))) :
    Cl w (w2.setCell ⟨w.heap.size, i, none⟩ (.slice (some ⟨Z, 0, none⟩) (ln i) (ln i))) nc (i + 1) r ln nd (upd N i (.slice (some ⟨Z, 0, none⟩) (ln i) (ln i))) (upd gb i Z) := by
  have hY := h.row.lt
  have hrow2 : w2.rowIs w.heap.size 22 nc (fun k => if k < i then N k else .slice none 0 0) := h.row.of_block (hb.block _ hY)
  have hsz : (w2.setCell ⟨w.heap.size, i, none⟩ (.slice (some ⟨Z, 0, none⟩) (ln i) (ln i))).heap.size = w2.heap.size := by simp [World.setCell]
  refine ⟨(h.below.trans (hb.mono h.below.size)).setCell (Nat.le_refl _) _, (hrow2.set i _).congr (fun k hk => ?_), fun k hk => ?_, fun k l hk hl h1 h2 e => ?_⟩
  · by_cases e : k = i
    · subst e; simp [upd]
    · simp only [upd, if_neg e]
      by_cases h1 : k < i
      · rw [if_pos h1, if_pos (by omega)]
      · rw [if_neg h1, if_neg (by omega)]
  · by_cases e : k = i
    · subst e
      refine .inr ⟨by simp [upd], by simp [upd]; omega, by rw [hsz]; simp [upd]; exact hz.lt, ?_⟩
      simp only [upd, if_true]
      exact hz.setOther (a := ⟨w.heap.size, k, none⟩) (by simp; omega) _
    · rcases h.made k (by omega) with h1 | ⟨a1, a2, a3, a4⟩
      · exact .inl (by simpa [upd, e] using h1)
      · refine .inr ⟨by simpa [upd, e] using a1, by simpa [upd, e] using a2, by rw [hsz]; simp [upd, e]; have := hb.size; omega, ?_⟩
        simp only [upd, if_neg e]
        exact (a4.of_block (hb.block _ a3)).setOther (a := ⟨w.heap.size, i, none⟩) (by simp; omega) _
  · by_cases e1 : k = i
    · by_cases e2 : l = i
      · omega
      · exfalso
        rcases h.made l (by omega) with h3 | ⟨a1, a2, a3, a4⟩
        · simp only [upd, if_neg e2] at h2; exact h2 h3.2.2
        · simp [upd, e1, e2] at e; omega
    · by_cases e2 : l = i
      · exfalso
        rcases h.made k (by omega) with h3 | ⟨a1, a2, a3, a4⟩
        · simp only [upd, if_neg e1] at h1; exact h1 h3.2.2
        · simp [upd, e1, e2] at e; omega
      · simp only [upd, if_neg e1, if_neg e2] at h1 h2 e
        exact h.inj k l (by omega) (by omega) h1 h2 e
end Go.Proofs.Qxb6623286a
