import Derived.Test.Qxb6619248aDoorP2
namespace Go.Proofs.Qxb6619248aDoor.Pl

/-! ### the insertion sort -/
abbrev En := Nm × Int
def le (p q : En) : Prop := ¬ lt q.1 p.1
theorem le_trans' {p q r : En} (h : le p q) (h' : le q r) : le p r := by
  intro hc
  by_cases h1 : lt q.1 p.1
  · exact h h1
  · by_cases h2 : lt p.1 q.1
    · exact h' (lt_trans hc h2)
    · rw [lt_tri h2 h1] at hc; exact h' hc

/-- element c of L put at place d, those between moved up by one -/
def put (L : List En) (c d : Nat) (e : En) : List En := L.take d ++ e :: ((L.drop d).take (c - d) ++ L.drop (c + 1))

theorem split3 (L : List En) {c d : Nat} (hc : c < L.length) (hd : d ≤ c) : L = L.take d ++ ((L.drop d).take (c - d) ++ L[c] :: L.drop (c + 1)) := by
  have h1 : (L.drop d).take (c - d) ++ (L.drop d).drop (c - d) = L.drop d := List.take_append_drop _ _
  have h2 : (L.drop d).drop (c - d) = L[c] :: L.drop (c + 1) := by
    rw [List.drop_drop, show d + (c - d) = c by omega, List.drop_eq_getElem_cons hc]
  rw [h2] at h1
  rw [h1, List.take_append_drop]

theorem put_perm (L : List En) {c d : Nat} (hc : c < L.length) (hd : d ≤ c) : (put L c d L[c]).Perm L := by
  have e := split3 L hc hd
  unfold put
  conv => rhs; rw [e]
  refine List.Perm.append_left _ ?_
  exact List.perm_middle.symm

theorem put_length (L : List En) {c d : Nat} (hc : c < L.length) (hd : d ≤ c) (e : En) : (put L c d e).length = L.length := by
  unfold put; simp; omega

theorem put_get (L : List En) {c d : Nat} (hc : c < L.length) (hd : d ≤ c) (e : En) (t : Nat) :
    (put L c d e)[t]? = if t < d then L[t]? else if t = d then some e else if t ≤ c then L[t - 1]? else L[t]? := by
  unfold put
  have hl : (L.take d).length = d := by simp; omega
  have hl2 : ((L.drop d).take (c - d)).length = c - d := by simp; omega
  by_cases h1 : t < d
  · rw [if_pos h1, List.getElem?_append_left (by omega), List.getElem?_take, if_pos h1]
  · rw [if_neg h1, List.getElem?_append_right (by omega), hl]
    by_cases h2 : t = d
    · rw [if_pos h2, h2, Nat.sub_self]; rfl
    · rw [if_neg h2, show t - d = (t - d - 1) + 1 by omega, List.getElem?_cons_succ]
      by_cases h3 : t ≤ c
      · rw [if_pos h3, List.getElem?_append_left (by omega), List.getElem?_take, if_pos (by omega), List.getElem?_drop]
        congr 1; omega
      · rw [if_neg h3, List.getElem?_append_right (by omega), hl2, List.getElem?_drop]
        congr 1; omega

theorem put_sorted (L : List En) {c d : Nat} (hc : c < L.length) (hd : d ≤ c) (hs : (L.take c).Pairwise le)
    (hhi : ∀ t, d ≤ t → t < c → ∀ p, L[t]? = some p → lt L[c].1 p.1) (hlo : 0 < d → ∀ p, L[d - 1]? = some p → le p L[c]) : ((put L c d L[c]).take (c + 1)).Pairwise le := by
  have htk : (put L c d L[c]).take (c + 1) = L.take d ++ L[c] :: (L.drop d).take (c - d) := by
    unfold put
    have hl : (L.take d).length = d := by simp; omega
    have hl2 : ((L.drop d).take (c - d)).length = c - d := by simp; omega
    rw [List.take_append, hl, List.take_of_length_le (by omega), show c + 1 - d = (c - d) + 1 by omega, List.take_succ_cons, List.take_append, hl2, List.take_take, Nat.min_self]
    simp
  have hsp : L.take c = L.take d ++ (L.drop d).take (c - d) := by
    have := List.take_add (l := L) (i := d) (j := c - d)
    rw [show d + (c - d) = c by omega] at this; exact this
  rw [hsp] at hs
  obtain ⟨s1, s2, s3⟩ := List.pairwise_append.1 hs
  have hmid : ∀ p ∈ (L.drop d).take (c - d), lt L[c].1 p.1 := by
    intro p hp
    obtain ⟨t, ht, e⟩ := List.getElem_of_mem hp
    simp at ht
    refine hhi (d + t) (by omega) (by omega) p ?_
    rw [← e]; simp
  have hlow : ∀ p ∈ L.take d, le p L[c] := by
    intro p hp
    obtain ⟨t, ht, e⟩ := List.getElem_of_mem hp
    simp at ht
    have hlast := hlo (by omega) _ (List.getElem?_eq_getElem (show d - 1 < L.length by omega))
    by_cases et : t = d - 1
    · subst et; rw [← e]; simpa using hlast
    · have hp2 := List.pairwise_iff_getElem.1 s1 t (d - 1) (by simp; omega) (by simp; omega) (by omega)
      rw [e] at hp2
      simp at hp2
      exact le_trans' hp2 hlast
  rw [htk]
  refine List.pairwise_append.2 ⟨s1, List.pairwise_cons.2 ⟨fun p hp => lt_asymm (hmid p hp), s2⟩, fun a ha b hb => ?_⟩
  rcases List.mem_cons.1 hb with e | e
  · subst e; exact hlow a ha
  · exact s3 a ha b e
end Go.Proofs.Qxb6619248aDoor.Pl
