import Derived.Test.Qxb6623286aZ1
namespace Go.Proofs.Qxb6623286a

/-- the run of a chunk -/
structure Run (n Lc c0 : Nat) (thr rev mc ms : Nat → Int) (F L : Int) (lst0 : Nat → Int) (run : Nat → Nat) : Prop where
  lt : ∀ j, j < Lc → run j < n
  inj : ∀ i j, i < Lc → j < Lc → run i = run j → i = j
  first : F = run 0
  last : L = run (Lc - 1)
  next : ∀ j, j + 1 < Lc → thr (run j) = run (j + 1)
  prev : ∀ j, j + 1 < Lc → rev (run (j + 1)) = run j
  chunk : ∀ j, j < Lc → mc (run j) = c0
  slot : ∀ j, j < Lc → ∃ s, s < Lc ∧ ms (run j) = (s : Nat) ∧ lst0 s = run j
  list : ∀ s, s < Lc → ∃ t, t < Lc ∧ lst0 s = run t ∧ ms (run t) = (s : Nat)

/-- how the members stand when j nodes have moved -/
structure PI (Lc c0 d s0 j : Nat) (mc ms mcj msj lst : Nat → Int) (run : Nat → Nat) : Prop where
  gone : ∀ i, i < j → mcj (run (s0 + i)) = d ∧ msj (run (s0 + i)) = i
  list : ∀ s, s < Lc - j → ∃ t, t < Lc ∧ (t < s0 ∨ s0 + j ≤ t) ∧ lst s = run t ∧ mcj (run t) = c0 ∧ msj (run t) = s
  slot : ∀ t, t < Lc → (t < s0 ∨ s0 + j ≤ t) → ∃ s, s < Lc - j ∧ msj (run t) = (s : Nat) ∧ mcj (run t) = c0 ∧ lst s = run t
  rest : ∀ u, (∀ t, t < Lc → run t ≠ u) → mcj u = mc u ∧ msj u = ms u

theorem PI.start {n Lc c0 d s0 : Nat} {thr rev mc ms : Nat → Int} {F L : Int} {lst0 : Nat → Int} {run : Nat → Nat} (h : Run n Lc c0 thr rev mc ms F L lst0 run) : PI Lc c0 d s0 0 mc ms mc ms lst0 run := by
  refine ⟨fun i hi => absurd hi (by omega), fun s hs => ?_, fun t ht _ => ?_, fun _ _ => ⟨rfl, rfl⟩⟩
  · obtain ⟨t, h1, h2, h3⟩ := h.list s (by omega)
    exact ⟨t, h1, by omega, h2, h.chunk t h1, h3⟩
  · obtain ⟨s, h1, h2, h3⟩ := h.slot t ht
    exact ⟨s, by omega, h2, h.chunk t ht, h3⟩

theorem PI.step {n Lc c0 d s0 j : Nat} {thr rev mc ms mcj msj lst : Nat → Int} {F L : Int} {lst0 : Nat → Int} {run : Nat → Nat} (hr : Run n Lc c0 thr rev mc ms F L lst0 run) (h : PI Lc c0 d s0 j mc ms mcj msj lst run) (hj : s0 + j < Lc) :
    ∃ sl u tu : Nat, sl ≤ Lc - j - 1 ∧ mcj (run (s0 + j)) = c0 ∧ msj (run (s0 + j)) = sl ∧ lst (Lc - j - 1) = u ∧ u = run tu ∧ tu < Lc ∧
      PI Lc c0 d s0 (j + 1) mc ms (upd mcj (run (s0 + j)) d) (upd (upd msj u sl) (run (s0 + j)) j) (upd lst sl u) run := by
  obtain ⟨sl, a1, a2, a3, a4⟩ := h.slot (s0 + j) hj (by omega)
  obtain ⟨tu, b1, b2, b3, b4, b5⟩ := h.list (Lc - j - 1) (by omega)
  refine ⟨sl, run tu, tu, by omega, a3, a2, b3, rfl, b1, fun i hi => ?_, fun s hs => ?_, fun t ht hout => ?_, fun u hu => ?_⟩
  · by_cases e : i = j
    · subst e; simp [upd]
    · have hi' : i < j := by omega
      obtain ⟨g1, g2⟩ := h.gone i hi'
      have n1 : run (s0 + i) ≠ run (s0 + j) := fun he => by have := hr.inj _ _ (by omega) hj he; omega
      have n2 : run (s0 + i) ≠ run tu := fun he => by have := hr.inj _ _ (by omega) b1 he; omega
      simp [upd, n1, n2, g1, g2]
  · by_cases e : s = sl
    · subst e
      have ne : tu ≠ s0 + j := fun he => by
        rw [he] at b5
        rw [a2] at b5
        omega
      have n1 : run tu ≠ run (s0 + j) := fun he => ne (hr.inj _ _ b1 hj he)
      exact ⟨tu, b1, by omega, by simp [upd], by simp [upd, n1, b4], by simp [upd, n1]⟩
    · obtain ⟨t, c1, c2, c3, c4, c5⟩ := h.list s (by omega)
      have ne : t ≠ s0 + j := fun he => by
        rw [he, a2] at c5; omega
      have n1 : run t ≠ run (s0 + j) := fun he => ne (hr.inj _ _ c1 hj he)
      have n2 : run t ≠ run tu := fun he => by
        rw [he, b5] at c5; omega
      exact ⟨t, c1, by omega, by simp [upd, e, c3], by simp [upd, n1, c4], by simp [upd, n1, n2, c5]⟩
  · have n1 : run t ≠ run (s0 + j) := fun he => by have := hr.inj _ _ ht hj he; omega
    by_cases e : t = tu
    · subst e
      have hsl : sl ≠ Lc - j - 1 := fun he => by
        rw [he, b3] at a4
        have := hr.inj _ _ b1 hj (by omega); omega
      exact ⟨sl, by omega, by simp [upd, n1], by simp [upd, n1, b4], by simp [upd]⟩
    · obtain ⟨s, c1, c2, c3, c4⟩ := h.slot t ht (by omega)
      have n2 : run t ≠ run tu := fun he => e (hr.inj _ _ ht b1 he)
      have hs1 : s ≠ Lc - j - 1 := fun he => by
        rw [he, b3] at c4
        exact n2 (by omega)
      have hs2 : s ≠ sl := fun he => by
        rw [he, a4] at c4
        exact n1 (by omega)
      exact ⟨s, by omega, by simp [upd, n1, n2, c2], by simp [upd, n1, c3], by simp [upd, hs2, c4]⟩
  · obtain ⟨r1, r2⟩ := h.rest u hu
    have n1 : u ≠ run (s0 + j) := fun he => hu _ hj he.symm
    have n2 : u ≠ run tu := fun he => hu _ b1 he.symm
    simp [upd, n1, n2, r1, r2]
end Go.Proofs.Qxb6623286a
