import Derived.Sort.Walk0
import Derived.Laws.Strings
import Derived.WideShapes
namespace Go.Proofs.Qxb6619248aDoor.Pl

/-! ### the byte order of names -/
abbrev Nm := ByteArray
def lt (a b : Nm) : Prop := a.toList < b.toList
theorem less_eq (a b : Nm) : Op.bytesLess a.toList b.toList = decide (a.toList < b.toList) := bytesLess_eq _ _
theorem less_iff (a b : Nm) : Op.bytesLess a.toList b.toList = true ↔ lt a b := by rw [less_eq]; exact decide_eq_true_iff
theorem lt_irrefl (a : Nm) : ¬ lt a a := List.lt_irrefl _
theorem lt_trans {a b c : Nm} (h : lt a b) (h' : lt b c) : lt a c := List.lt_trans h h'
theorem toList_inj {a b : Nm} (h : a.toList = b.toList) : a = b := by
  rw [ByteArray.toList_eq, ByteArray.toList_eq] at h; exact WideShapes.bytes_inj h
theorem lt_tri {a b : Nm} (h : ¬ lt a b) (h' : ¬ lt b a) : a = b :=
  toList_inj (List.le_antisymm (List.not_lt.1 h') (List.not_lt.1 h))
theorem lt_asymm {a b : Nm} (h : lt a b) : ¬ lt b a := fun h' => lt_irrefl _ (lt_trans h h')
theorem beq_iff (a b : Nm) : (a.toList == b.toList) = true ↔ a = b := by
  rw [beq_iff_eq]; exact ⟨toList_inj, fun h => by rw [h]⟩

/-- two lists in strict order with the same members are one -/
theorem sorted_unique : ∀ (l m : List Nm), l.Pairwise lt → m.Pairwise lt → (∀ x, x ∈ l ↔ x ∈ m) → l = m
  | [], [], _, _, _ => rfl
  | [], b :: m, _, _, h => absurd ((h b).2 (by simp)) (by simp)
  | a :: l, [], _, _, h => absurd ((h a).1 (by simp)) (by simp)
  | a :: l, b :: m, hl, hm, h => by
    obtain ⟨hla, hl'⟩ := List.pairwise_cons.1 hl
    obtain ⟨hmb, hm'⟩ := List.pairwise_cons.1 hm
    have hab : a = b := by
      have h1 : a ∈ b :: m := (h a).1 (by simp)
      have h2 : b ∈ a :: l := (h b).2 (by simp)
      rcases List.mem_cons.1 h1 with e | e
      · exact e
      · rcases List.mem_cons.1 h2 with e' | e'
        · exact e'.symm
        · exact absurd (lt_trans (hla b e') (hmb a e)) (lt_irrefl _)
    subst hab
    have : l = m := sorted_unique l m hl' hm' (fun x => by
      constructor
      · intro hx
        rcases List.mem_cons.1 ((h x).1 (by simp [hx])) with e | e
        · subst e; exact absurd (hla x hx) (lt_irrefl _)
        · exact e
      · intro hx
        rcases List.mem_cons.1 ((h x).2 (by simp [hx])) with e | e
        · subst e; exact absurd (hmb x hx) (lt_irrefl _)
        · exact e)
    rw [this]

/-- the place of x in a list in strict order -/
def Place (H : List Nm) (x : Nm) (k : Nat) : Prop :=
  k ≤ H.length ∧ (∀ t, (h : t < H.length) → t < k → lt H[t] x) ∧ ∀ t, (h : t < H.length) → k ≤ t → ¬ lt H[t] x

theorem place_ex (H : List Nm) (hs : H.Pairwise lt) (x : Nm) : ∃ k, Place H x k := by
  induction H with
  | nil => exact ⟨0, Nat.zero_le _, fun t h => absurd h (by simp), fun t h => absurd h (by simp)⟩
  | cons a l ih =>
    obtain ⟨ha, hl⟩ := List.pairwise_cons.1 hs
    by_cases hax : lt a x
    · obtain ⟨k, hk, h1, h2⟩ := ih hl
      refine ⟨k + 1, by simp; omega, fun t h ht => ?_, fun t h ht => ?_⟩
      · cases t with
        | zero => exact hax
        | succ t => simp; exact h1 t (by simp at h; omega) (by omega)
      · cases t with
        | zero => omega
        | succ t => simp; exact h2 t (by simp at h; omega) (by omega)
    · refine ⟨0, Nat.zero_le _, fun t _ ht => absurd ht (by omega), fun t h _ => ?_⟩
      cases t with
      | zero => exact hax
      | succ t =>
        intro hc
        have hm : l[t]'(by simp at h; omega) ∈ l := List.getElem_mem _
        exact hax (lt_trans (ha _ hm) (by simpa using hc))

theorem place_found {H : List Nm} (hs : H.Pairwise lt) {x : Nm} {k : Nat} (hp : Place H x k) : (∃ h : k < H.length, H[k] = x) ↔ x ∈ H := by
  constructor
  · rintro ⟨h, e⟩; rw [← e]; exact List.getElem_mem _
  · intro hx
    obtain ⟨t, ht, e⟩ := List.getElem_of_mem hx
    have hkt : k ≤ t := by
      apply Classical.byContradiction; intro hc
      have := hp.2.1 t ht (by omega); rw [e] at this; exact lt_irrefl _ this
    have hk : k < H.length := by omega
    refine ⟨hk, ?_⟩
    by_cases hkt' : k = t
    · subst hkt'; exact e
    · have h1 : lt H[k] H[t] := List.pairwise_iff_getElem.1 hs k t hk ht (by omega)
      rw [e] at h1
      exact absurd h1 (hp.2.2 k hk (Nat.le_refl _))

def insAt (H : List Nm) (k : Nat) (x : Nm) : List Nm := H.take k ++ x :: H.drop k
def delAt (H : List Nm) (k : Nat) : List Nm := H.take k ++ H.drop (k + 1)

theorem mem_take_lt {H : List Nm} {x : Nm} {k : Nat} (hp : Place H x k) {y : Nm} (hy : y ∈ H.take k) : lt y x := by
  obtain ⟨t, ht, e⟩ := List.getElem_of_mem hy
  simp at ht
  have := hp.2.1 t (by omega) (by omega)
  rw [← e]; simpa using this
theorem mem_drop_nlt {H : List Nm} {x : Nm} {k : Nat} (hp : Place H x k) {y : Nm} (hy : y ∈ H.drop k) : ¬ lt y x := by
  obtain ⟨t, ht, e⟩ := List.getElem_of_mem hy
  simp at ht
  have := hp.2.2 (k + t) (by omega) (by omega)
  rw [← e]; simpa using this

theorem insAt_sorted {H : List Nm} (hs : H.Pairwise lt) {x : Nm} {k : Nat} (hp : Place H x k) (hx : x ∉ H) : (insAt H k x).Pairwise lt := by
  unfold insAt
  refine List.pairwise_append.2 ⟨List.Pairwise.sublist (List.take_sublist _ _) hs, List.pairwise_cons.2 ⟨fun y hy => ?_, List.Pairwise.sublist (List.drop_sublist _ _) hs⟩, fun a ha b hb => ?_⟩
  · have h1 := mem_drop_nlt hp hy
    apply Classical.byContradiction; intro hc
    have : y = x := lt_tri h1 hc
    exact hx (this ▸ List.mem_of_mem_drop hy)
  · rcases List.mem_cons.1 hb with e | e
    · subst e; exact mem_take_lt hp ha
    · have h0 := hs
      rw [← List.take_append_drop k H] at h0
      exact (List.pairwise_append.1 h0).2.2 a ha b e
theorem insAt_mem {H : List Nm} {k : Nat} {x y : Nm} : y ∈ insAt H k x ↔ y = x ∨ y ∈ H := by
  have : y ∈ H ↔ y ∈ H.take k ∨ y ∈ H.drop k := by
    rw [← List.mem_append, List.take_append_drop]
  rw [this]; unfold insAt; simp; constructor
  · rintro (h | h | h)
    · exact Or.inr (Or.inl h)
    · exact Or.inl h
    · exact Or.inr (Or.inr h)
  · rintro (h | h | h)
    · exact Or.inr (Or.inl h)
    · exact Or.inl h
    · exact Or.inr (Or.inr h)
theorem insAt_length {H : List Nm} {k : Nat} {x : Nm} (hk : k ≤ H.length) : (insAt H k x).length = H.length + 1 := by
  unfold insAt; simp; omega

theorem split_at {H : List Nm} {k : Nat} (hk : k < H.length) : H = H.take k ++ H[k] :: H.drop (k + 1) := by
  rw [← List.drop_eq_getElem_cons hk, List.take_append_drop]

theorem delAt_sorted {H : List Nm} (hs : H.Pairwise lt) (k : Nat) : (delAt H k).Pairwise lt := by
  unfold delAt
  by_cases hk : k < H.length
  · have h0 := hs
    rw [split_at hk] at h0
    refine List.Pairwise.sublist ?_ h0
    exact List.Sublist.append_left (List.sublist_cons_self _ _) _
  · rw [List.take_of_length_le (by omega), List.drop_of_length_le (by omega), List.append_nil]; exact hs
theorem delAt_mem {H : List Nm} (hs : H.Pairwise lt) {k : Nat} {x : Nm} (hk : k < H.length) (hx : H[k] = x) {y : Nm} : y ∈ delAt H k ↔ y ≠ x ∧ y ∈ H := by
  have h0 := hs
  have e := split_at hk
  rw [e, hx] at h0
  obtain ⟨_, h2, h3⟩ := List.pairwise_append.1 h0
  have hm : y ∈ H ↔ y ∈ H.take k ∨ y = x ∨ y ∈ H.drop (k + 1) := by
    have h1 : y ∈ H ↔ y ∈ H.take k ++ H[k] :: H.drop (k + 1) := by rw [← e]
    rw [h1, hx, List.mem_append, List.mem_cons]
  unfold delAt
  rw [List.mem_append, hm]
  constructor
  · rintro (h | h)
    · refine ⟨fun ey => ?_, Or.inl h⟩
      subst ey; exact lt_irrefl _ (h3 y h y (by simp))
    · refine ⟨fun ey => ?_, Or.inr (Or.inr h)⟩
      subst ey; exact lt_irrefl _ ((List.pairwise_cons.1 h2).1 y h)
  · rintro ⟨hne, h | h | h⟩
    · exact Or.inl h
    · exact absurd h hne
    · exact Or.inr h
theorem delAt_length {H : List Nm} {k : Nat} (hk : k < H.length) : (delAt H k).length = H.length - 1 := by
  unfold delAt; simp; omega
end Go.Proofs.Qxb6619248aDoor.Pl
