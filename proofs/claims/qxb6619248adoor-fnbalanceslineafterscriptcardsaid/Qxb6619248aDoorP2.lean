import Derived.Test.Qxb6619248aDoorP1
namespace Go.Proofs.Qxb6619248aDoor.Pl

/-! ### the script: the last value that each name was given -/
section
variable (names : Nat → Nm) (vals : Nat → Int)

def lastV : Nat → Nm → Int
  | 0, _ => 0
  | k + 1, x => if (names k).toList == x.toList then vals k else lastV k x

theorem lastV_hit (k : Nat) : lastV names vals (k + 1) (names k) = vals k := by
  simp [lastV]
theorem lastV_miss {k : Nat} {x : Nm} (h : names k ≠ x) : lastV names vals (k + 1) x = lastV names vals k x := by
  have : ((names k).toList == x.toList) = false := by
    rw [Bool.eq_false_iff]; intro hc; exact h ((beq_iff _ _).1 hc)
  simp [lastV, this]

/-- no later call below n names the same account -/
def lastB (n k : Nat) : Bool := (List.range n).all fun j => !(decide (k < j) && (names j).toList == (names k).toList)
theorem lastB_iff (n k : Nat) : lastB names n k = true ↔ ∀ j, k < j → j < n → names j ≠ names k := by
  unfold lastB
  rw [List.all_eq_true]
  constructor
  · intro h j hk hn e
    have := h j (List.mem_range.2 hn)
    rw [e] at this
    simp [hk] at this
  · intro h j hj
    have hj := List.mem_range.1 hj
    by_cases hk : k < j
    · have : ((names j).toList == (names k).toList) = false := by
        rw [Bool.eq_false_iff]; intro hc; exact h j hk hj ((beq_iff _ _).1 hc)
      rw [this]; simp
    · simp [hk]

/-- the entries of the model, in the order of their last calls -/
def cand (n : Nat) : Nat → List (Nm × Int)
  | 0 => []
  | k + 1 => cand n k ++ (if lastB names n k && vals k != 0 then [(names k, vals k)] else [])

theorem cand_mem (n : Nat) : ∀ (k : Nat) (p : Nm × Int), p ∈ cand names vals n k ↔ ∃ i, i < k ∧ lastB names n i = true ∧ vals i ≠ 0 ∧ p = (names i, vals i)
  | 0, p => by simp [cand]
  | k + 1, p => by
    rw [cand, List.mem_append, cand_mem n k p]
    constructor
    · rintro (⟨i, hi, h⟩ | h)
      · exact ⟨i, by omega, h⟩
      · split at h
        · rename_i hc
          rw [Bool.and_eq_true] at hc
          exact ⟨k, by omega, hc.1, by simpa using hc.2, by simpa using h⟩
        · simp at h
    · rintro ⟨i, hi, h1, h2, h3⟩
      by_cases e : i = k
      · subst e; right
        have : (lastB names n i && vals i != 0) = true := by rw [h1]; simpa using h2
        rw [if_pos this, h3]; simp
      · exact Or.inl ⟨i, by omega, h1, h2, h3⟩

theorem lastV_of_last {n i : Nat} (h : lastB names n i = true) : ∀ m, i < m → m ≤ n → lastV names vals m (names i) = vals i
  | 0, h1, _ => absurd h1 (by omega)
  | m + 1, h1, h2 => by
    by_cases e : i = m
    · subst e; exact lastV_hit names vals i
    · rw [lastV_miss names vals ((lastB_iff names n i).1 h m (by omega) (by omega)), lastV_of_last h m (by omega) (by omega)]

theorem lastV_from : ∀ (m : Nat) (x : Nm), lastV names vals m x ≠ 0 → ∃ i, i < m ∧ names i = x ∧ lastV names vals m x = vals i ∧ ∀ j, i < j → j < m → names j ≠ x
  | 0, _, h => absurd rfl h
  | m + 1, x, h => by
    by_cases e : names m = x
    · subst e
      exact ⟨m, by omega, rfl, lastV_hit names vals m, fun j h1 h2 => absurd h2 (by omega)⟩
    · rw [lastV_miss names vals e] at h ⊢
      obtain ⟨i, hi, h1, h2, h3⟩ := lastV_from m x h
      exact ⟨i, by omega, h1, h2, fun j hj1 hj2 => by
        by_cases ej : j = m
        · subst ej; exact e
        · exact h3 j hj1 (by omega)⟩

theorem cand_iff (n : Nat) (p : Nm × Int) : p ∈ cand names vals n n ↔ p.2 = lastV names vals n p.1 ∧ p.2 ≠ 0 := by
  rw [cand_mem]
  constructor
  · rintro ⟨i, hi, h1, h2, rfl⟩
    exact ⟨(lastV_of_last names vals h1 n hi (Nat.le_refl _)).symm, h2⟩
  · rintro ⟨h1, h2⟩
    obtain ⟨x, v⟩ := p
    simp only at h1 h2
    rw [h1] at h2
    obtain ⟨i, hi, e, ev, h3⟩ := lastV_from names vals n x h2
    refine ⟨i, hi, (lastB_iff names n i).2 (fun j hj hn => by rw [e]; exact h3 j hj hn), by rw [← ev]; exact h2, ?_⟩
    rw [e, h1, ev]

theorem cand_names (n : Nat) : ∀ k, k ≤ n → (cand names vals n k).Pairwise (fun p q => p.1 ≠ q.1)
  | 0, _ => List.Pairwise.nil
  | k + 1, hk => by
    rw [cand]
    refine List.pairwise_append.2 ⟨cand_names n k (by omega), by split <;> simp, fun a ha b hb => ?_⟩
    obtain ⟨i, hi, h1, _, rfl⟩ := (cand_mem names vals n k a).1 ha
    split at hb
    · have : b = (names k, vals k) := by simpa using hb
      rw [this]
      exact fun e => (lastB_iff names n i).1 h1 k hi (by omega) e.symm
    · simp at hb

theorem cand_len (n : Nat) : ∀ k, (cand names vals n k).length ≤ k
  | 0 => by simp [cand]
  | k + 1 => by
    have := cand_len n k
    rw [cand, List.length_append]
    split <;> simp <;> omega

/-- THE PLAIN LAW: what is held is the sorted model -/
theorem held_is_want {n : Nat} {H : List Nm} {W : List (Nm × Int)} (hs : H.Pairwise lt) (hm : ∀ x, x ∈ H ↔ lastV names vals n x ≠ 0)
    (hp : W.Perm (cand names vals n n)) (hw : W.Pairwise (fun p q => ¬ lt q.1 p.1)) :
    H = W.map (·.1) ∧ ∀ p ∈ W, p.2 = lastV names vals n p.1 ∧ p.2 ≠ 0 := by
  have hall : ∀ p ∈ W, p.2 = lastV names vals n p.1 ∧ p.2 ≠ 0 := fun p h => (cand_iff names vals n p).1 (hp.mem_iff.1 h)
  refine ⟨?_, hall⟩
  have hd : W.Pairwise (fun p q => p.1 ≠ q.1) := (hp.pairwise_iff (fun h => Ne.symm h)).2 (cand_names names vals n n (Nat.le_refl _))
  have hlt : (W.map (·.1)).Pairwise lt := by
    rw [List.pairwise_map]
    exact List.Pairwise.imp₂ (fun p q h1 h2 => by
      apply Classical.byContradiction; intro hc
      exact h2 (lt_tri hc h1)) hw hd
  refine sorted_unique _ _ hs hlt (fun x => ?_)
  rw [hm, List.mem_map]
  constructor
  · intro h
    exact ⟨(x, lastV names vals n x), hp.mem_iff.2 ((cand_iff names vals n _).2 ⟨rfl, h⟩), rfl⟩
  · rintro ⟨p, hpW, rfl⟩
    have := hall p hpW
    rw [← this.1]; exact this.2
end
end Go.Proofs.Qxb6619248aDoor.Pl
