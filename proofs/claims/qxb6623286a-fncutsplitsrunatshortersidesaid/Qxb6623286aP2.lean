import Derived.Test.Qxb6623286aP1
namespace Go.Proofs.Qxb6623286a

/-- what cutWellFormed tells of the chunk of v, in plain words -/
structure WF (n nc ns : Nat) (thr rev mc ms F L sp : Nat → Int) (ln : Nat → Nat) (nd : Nat → Nat → Int) (v : Nat) (c0 : Nat) : Prop where
  hv : v < n
  hthr : ∀ i, i < n → ∃ t : Nat, t < n ∧ thr i = t ∧ rev t = i
  hsp : ∀ k, k < ns → ∃ d : Nat, d < nc ∧ d ≠ c0 ∧ sp k = d
  hmem : ∀ w, w < n → ∃ c s : Nat, c < nc ∧ mc w = c ∧ s < ln c ∧ ms w = s ∧ nd c s = w
  hc0 : mc v = c0
  hlist : ∀ i, i < ln c0 → ∃ u : Nat, u < n ∧ nd c0 i = u ∧ mc u = c0 ∧ ms u = i
  hrun : ∃ run : Nat → Nat, F c0 = run 0 ∧ (∀ j, j < ln c0 → run j < n ∧ mc (run j) = c0) ∧ (∀ j, j + 1 < ln c0 → thr (run j) = run (j + 1)) ∧ L c0 = run (ln c0 - 1) ∧ (∀ j, j + 1 < ln c0 → L c0 ≠ run j)
  hpos : 0 < ln c0

/-- a map of the numbers below m into themselves that hits nothing twice hits everything -/
theorem pigeon : ∀ (m : Nat) (f : Nat → Nat), (∀ i, i < m → f i < m) → (∀ i j, i < m → j < m → f i = f j → i = j) → ∀ y, y < m → ∃ i, i < m ∧ f i = y
  | 0, _, _, _, y, hy => absurd hy (by omega)
  | m + 1, f, hlt, hinj, y, hy => by
    -- turn the value at m to the top
    by_cases htop : f m = m
    · by_cases hy2 : y = m
      · exact ⟨m, by omega, by rw [htop, hy2]⟩
      · obtain ⟨i, hi, e⟩ := pigeon m f (fun i hi => by
          have h1 := hlt i (by omega)
          have : f i ≠ m := fun e => by have := hinj i m (by omega) (by omega) (by rw [e, htop]); omega
          omega) (fun i j hi hj e => hinj i j (by omega) (by omega) e) y (by omega)
        exact ⟨i, by omega, e⟩
    · -- g: as f, but where f says m, say f m
      have hfm : f m < m := by have := hlt m (by omega); omega
      by_cases hy2 : y = f m
      · exact ⟨m, by omega, hy2.symm⟩
      · let g : Nat → Nat := fun i => if f i = m then f m else f i
        have hg : ∀ i, g i = if f i = m then f m else f i := fun _ => rfl
        by_cases hex : ∃ i, i < m ∧ f i = m
        · obtain ⟨i0, hi0, e0⟩ := hex
          by_cases hy3 : y = m
          · exact ⟨i0, by omega, by rw [e0, hy3]⟩
          · obtain ⟨i, hi, e⟩ := pigeon m g (fun i hi => by
              rw [hg]
              split
              · exact hfm
              · have := hlt i (by omega); omega) (fun i j hi hj e => by
              rw [hg, hg] at e
              split at e
              · rename_i h1
                split at e
                · rename_i h2; exact hinj i j (by omega) (by omega) (by rw [h1, h2])
                · have := hinj m j (by omega) (by omega) e; omega
              · rename_i h1
                split at e
                · have := hinj i m (by omega) (by omega) e; omega
                · exact hinj i j (by omega) (by omega) e) y (by omega)
            rw [hg] at e
            split at e
            · exact absurd e.symm hy2
            · exact ⟨i, by omega, e⟩
        · have hno : ∀ i, i < m → f i ≠ m := fun i hi e => hex ⟨i, hi, e⟩
          -- then f maps m + 1 numbers below m: impossible
          obtain ⟨i, hi, e⟩ := pigeon m f (fun i hi => by have := hlt i (by omega); have := hno i hi; omega) (fun i j hi hj e => hinj i j (by omega) (by omega) e) (f m) hfm
          have := hinj i m (by omega) (by omega) e
          omega

theorem WF.toRun {n nc ns : Nat} {thr rev mc ms F L sp : Nat → Int} {ln : Nat → Nat} {nd : Nat → Nat → Int} {v c0 : Nat} (h : WF n nc ns thr rev mc ms F L sp ln nd v c0) :
    ∃ run pos, Run n (ln c0) c0 thr rev mc ms (F c0) (L c0) (nd c0) run ∧ pos < ln c0 ∧ run pos = v ∧ c0 < nc := by
  obtain ⟨run, h1, h2, h3, h4, h5⟩ := h.hrun
  have hpos := h.hpos
  have hprev : ∀ j, j + 1 < ln c0 → rev (run (j + 1)) = run j := fun j hj => by
    obtain ⟨t, a1, a2, a3⟩ := h.hthr (run j) (h2 j (by omega)).1
    rw [h3 j hj] at a2
    have : run (j + 1) = t := by omega
    rw [this]; exact a3
  -- the run meets no node twice
  have hfwd : ∀ d i, ∀ e, i + d + e < ln c0 → run i = run (i + d) → run (i + e) = run (i + d + e) := by
    intro d i e
    induction e with
    | zero => intro _ he; simpa using he
    | succ e ih =>
      intro hei he
      have ih' := ih (by omega) he
      have p1 := h3 (i + e) (by omega)
      have p2 := h3 (i + d + e) (by omega)
      rw [ih', p2] at p1
      rw [← Nat.add_assoc, ← Nat.add_assoc]
      omega
  have hinj1 : ∀ i d, 0 < d → i + d < ln c0 → run i ≠ run (i + d) := fun i d hd hid he => by
    have := hfwd d i (ln c0 - 1 - (i + d)) (by omega) he
    rw [show i + d + (ln c0 - 1 - (i + d)) = ln c0 - 1 by omega] at this
    exact h5 (i + (ln c0 - 1 - (i + d))) (by omega) (by rw [h4, this])
  have hinj : ∀ i j, i < ln c0 → j < ln c0 → run i = run j → i = j := fun i j hi hj he => by
    by_cases hlt : i < j
    · exact absurd (by rw [show i + (j - i) = j by omega]; exact he) (hinj1 i (j - i) (by omega) (by omega))
    · by_cases hgt : j < i
      · exact absurd (by rw [show j + (i - j) = i by omega]; exact he.symm) (hinj1 j (i - j) (by omega) (by omega))
      · omega
  -- slots
  have hslot : ∀ u, u < n → mc u = c0 → ∃ s : Nat, s < ln c0 ∧ ms u = s ∧ nd c0 s = u := fun u hu hc => by
    obtain ⟨c, s, a1, a2, a3, a4, a5⟩ := h.hmem u hu
    have : c = c0 := by rw [hc] at a2; omega
    subst this
    exact ⟨s, a3, a4, a5⟩
  have hsl : ∀ j, ∃ s : Nat, j < ln c0 → s < ln c0 ∧ ms (run j) = s ∧ nd c0 s = run j := fun j => by
    by_cases hj : j < ln c0
    · obtain ⟨s, a⟩ := hslot (run j) (h2 j hj).1 (h2 j hj).2
      exact ⟨s, fun _ => a⟩
    · exact ⟨0, fun h => absurd h hj⟩
  obtain ⟨f, hf⟩ := Classical.skolem.1 hsl
  have hsur := pigeon (ln c0) f (fun i hi => (hf i hi).1) (fun i j hi hj e => by
    have a := (hf i hi).2.2
    have b := (hf j hj).2.2
    rw [e] at a
    exact hinj i j hi hj (by omega))
  obtain ⟨sv, b1, b2, b3⟩ := hslot v h.hv h.hc0
  obtain ⟨pos, hp, hfp⟩ := hsur sv b1
  have hrv : run pos = v := by
    have := (hf pos hp).2.2
    rw [hfp, b3] at this; omega
  obtain ⟨c, s, a1, a2, a3, a4, a5⟩ := h.hmem v h.hv
  refine ⟨run, pos, ⟨fun j hj => (h2 j hj).1, hinj, h1, h4, h3, hprev, fun j hj => (h2 j hj).2, fun j hj => ⟨f j, hf j hj⟩, fun s hs => ?_⟩, hp, hrv, by have := h.hc0; omega⟩
  obtain ⟨t, ht, e⟩ := hsur s hs
  have := hf t ht
  rw [e] at this
  exact ⟨t, ht, this.2.2, this.2.1⟩
end Go.Proofs.Qxb6623286a
