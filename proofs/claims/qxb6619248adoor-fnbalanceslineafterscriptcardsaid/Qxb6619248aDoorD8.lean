import Derived.Test.Qxb6619248aDoorD7
namespace Go.Proofs.Qxb6619248aDoor
open Go.RowKit
open Pl
open Go.Maps

theorem row_keeps' {B : Nat} {w w' : World} {b t n : Nat} {g : Nat → Value} (h : w.rowIs b t n g) (ht : t ≠ 5) (k : Keeps B w w') : w'.rowIs b t n g := by
  obtain ⟨c, hb, hn, hc⟩ := h
  exact ⟨c, k.others b _ hb (by simp) (by intro c fz hc; cases hc; exact ht rfl), hn, hc⟩

/-- what AppendBalances reads of a ledger that a script has made -/
theorem reads_acc {w : World} (B : Nat) {B0 A n : Nat} {H : List Nm} {V : Nm → Int} (h : Acc w B0 A n H V) (hsz : ∀ x ∈ H, x.size ≤ maxLen) (hrng : ∀ x ∈ H, -9223372036854775808 ≤ V x ∧ V x ≤ 9223372036854775807) :
    ∃ m base cap, Reads B w A m base H.length cap (fun k => H.getD k ByteArray.empty) (fun k => V (H.getD k ByteArray.empty)) := by
  obtain ⟨hA, ⟨m, base, cap, hrow, hheld, hbA, hbal⟩, hs, hm⟩ := h
  have hget : ∀ k, (hk : k < H.length) → H.getD k ByteArray.empty = H[k] := fun k hk => by simp [hk]
  obtain ⟨mm, hmm⟩ : ∃ mm, m = .map mm := by
    rcases hbal with ⟨rfl, _⟩ | ⟨bm, D, rfl, _⟩
    · exact ⟨_, rfl⟩
    · exact ⟨_, rfl⟩
  subst hmm
  refine ⟨mm, base, cap, fun wx hk => ?_, fun wx hk => ?_, fun h0 => ?_, fun wx hk k hkn => ?_, fun k hk => ?_⟩
  · have := (row_keeps' hrow (by decide) hk).cell (i := 0) (by omega)
    simpa using this
  · have := (row_keeps' hrow (by decide) hk).cell (i := 1) (by omega)
    simpa using this
  · rcases hheld with ⟨_, rfl, _⟩ | ⟨hb, f, rfl, h1, h2, h3, h4, h5, h6⟩
    · simp at h0
    · refine ⟨hb, 0, rfl, fun wx hk k hkn => ?_⟩
      rw [Nat.zero_add, (row_keeps' h5 (by decide) hk).cell (by omega), h6 k _ (List.getElem?_eq_getElem hkn), hget k hkn]
  · rw [hget k hkn]
    have hmem : H[k] ∈ H := List.getElem_mem hkn
    have hV := (hm _).1 hmem
    rcases hbal with ⟨_, hz⟩ | ⟨bm, D, e, hB, hown, hrel⟩
    · exact absurd (hz _) hV
    · cases e
      have hownx : wx.ownsMap Tryd.prog 9 (plainElem (H := Unit) Tryd.prog 2) bm n D := by
        obtain ⟨es', clock', hb', rest⟩ := hown
        exact ⟨es', clock', hk.others bm _ hb' (by simp) (by intro c fz; simp), rest⟩
      obtain ⟨c, hr, ha, _⟩ := hownx.lookup_int law Tryd.underlying24 Tryd.underlying2 (zero2 wx) (keyOf_nm (hsz _ hmem))
      rw [hrel.at' _ hV] at ha
      injection ha with ha
      injection ha with _ ha
      rw [ha]; exact hr
  · rw [hget k hk]; exact hrng _ (List.getElem_mem hk)

theorem held_from {names : Nat → Nm} {vals : Nat → Int} {n : Nat} {H : List Nm} (hm : ∀ x, x ∈ H ↔ lastV names vals n x ≠ 0) {x : Nm} (hx : x ∈ H) : ∃ i, i < n ∧ names i = x ∧ lastV names vals n x = vals i := by
  obtain ⟨i, h1, h2, h3, _⟩ := lastV_from names vals n x ((hm x).1 hx)
  exact ⟨i, h1, h2, h3⟩

theorem ents_flat (E : Nat → List UInt8) (C : Nat) : ∀ n, (∀ k, k < n → (E k).length ≤ C) → (ents E n).length ≤ n * C
  | 0, _ => by simp [ents]
  | n + 1, h => by
    have := ents_flat E C n (fun k hk => h k (by omega))
    have := h n (by omega)
    rw [ents_succ, List.length_append, Nat.add_mul, Nat.one_mul]
    omega

/-- all that the last part of the law needs, once both roads have run -/
structure Fin3 (w : World) (lo hi : Nat) (want : Option Addr) (m : Nat) (x : Nat → Nm) (v : Nat → Int) : Prop where
  cells : 0 < m → ∃ g, want = some ⟨g, 0, none⟩ ∧ lo ≤ g ∧ g < hi ∧ ∀ k, k < m → w.cell? ⟨g, k * 2, none⟩ = some (.string (x k)) ∧ w.cell? ⟨g, k * 2 + 1, none⟩ = some (.int .i64 (v k))
  sz : ∀ k, k < m → (x k).size ≤ 1048576
  rng : ∀ k, k < m → -9223372036854775808 ≤ v k ∧ v k ≤ 9223372036854775807
  hm : m ≤ 4096
end Go.Proofs.Qxb6619248aDoor
