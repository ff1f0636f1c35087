import Derived.Test.Qxb6619244aW3
import Derived.Laws.CopyOwn
import Derived.Laws.CopyRow
import Derived.Deep.OwnRows
namespace Go.Proofs.Qxb6619244a
open Go.RowKit
open Fl

theorem Try.info22 : (Try.prog.info? 22).map (fun i => (i.zero, i.size, i.bytes)) = some (some (.float .f64 0), 1, 8) := by kernel_rfl
theorem Try.size22 : (Try.prog.info? 22).map (·.size) = some 1 := by kernel_rfl

theorem copy_ok (w : World) (L : Nat → Nat) (n cap lb lo : Nat) (hb : lb < w.heap.size) (hl : ∀ k, k < n → w.cell? ⟨lb, lo + k, none⟩ = some (.float .f64 (L k))) :
    ∃ W2, (Builtin.copy_ #[23, 23] 3 #[.slice (some ⟨w.heap.size, 0, none⟩) n n, .slice (some ⟨lb, lo, none⟩) n cap]).run Try.prog (w.alloc (.cells (madeCells #[.float .f64 0] n) 22)) = .ok (goInt n) W2 ∧
      Below w.heap.size w W2 ∧ w.heap.size < W2.heap.size ∧ ∀ k, k < n → W2.cell? ⟨w.heap.size, 0 + k, none⟩ = some (.float .f64 (L k)) := by
  have hg : (w.alloc (.cells (madeCells #[.float .f64 0] n) 22)).heap[w.heap.size]? = some (.cells (madeCells #[.float .f64 0] n) 22 (0, 0)) := Go.Deep.blk_alloc_new _ _
  obtain ⟨cs, hcs⟩ : ∃ cs : List Value, cs = (List.range n).map (fun k => .float .f64 (L k)) := ⟨_, rfl⟩
  have hlen : cs.length = n := by rw [hcs]; simp
  have hget : ∀ j, j < n → cs[j]? = some (.float .f64 (L j)) := by intro j hj; rw [hcs]; simp [hj]
  have hsz : (madeCells #[Value.float .f64 0] n).size = n := size_madeCells _ _
  have hrun := run_copy_row (P := Try.prog) (w.alloc (.cells (madeCells #[.float .f64 0] n) 22)) 23 23 3 22 w.heap.size 0 n n ⟨lb, lo, none⟩ n cap _ 22 cs Try.underlying23 Try.size22 hg
    (by rw [hlen]; exact (Nat.min_self n).symm)
    (fun j v hj => by
      have hjn : j < n := by
        rw [← hlen]; exact (List.getElem?_eq_some_iff.1 hj).1
      rw [hget j hjn] at hj
      cases hj
      rw [WideShapes.add_plain, World.cell?_alloc_past _ _ _ hb]; exact hl j hjn)
    (by rw [hlen, hsz]; omega)
    (fun v hv => by
      rw [hcs] at hv
      obtain ⟨k, _, rfl⟩ := List.mem_map.1 hv
      rfl)
  rw [hlen] at hrun
  refine ⟨_, hrun, ?_, by simp, ?_⟩
  · exact below_setRow ((Below.refl _ _).alloc (Nat.le_refl _) _) (Nat.le_refl _) _
  · intro k hk
    have h2 := setRow_heap _ w.heap.size _ ((madeCells #[Value.float .f64 0] n).toList.take 0 ++ cs ++ (madeCells #[Value.float .f64 0] n).toList.drop (0 + n)).toArray 22 (0, 0) hg
    unfold World.cell?
    rw [h2]
    have : cs[k]? = some (.float .f64 (L k)) := hget k hk
    have hk' : k < cs.length := by omega
    simp [List.getElem?_append, hk']
    exact (List.getElem?_eq_some_iff.1 this).2

/-! the tests, decided -/
theorem ge_one {a : Nat} (f : Fl.Fin a) (h : 1 ≤ val a) : (FloatKind.f64.format.order a 4607182418800017408 == some .gt || FloatKind.f64.format.order a 4607182418800017408 == some .eq) = true := by
  have o : FloatKind.f64.format.order a 4607182418800017408 = _ := order_fin f one_fin
  have ov : val 4607182418800017408 = 1 := one_val
  rw [o, ov]
  have h1 : ¬ val a < 1 := by grind
  rw [if_neg h1]
  split <;> rfl
theorem le_ok {a b : Nat} (f : Fl.Fin a) (g : Fl.Fin b) (h : val a ≤ val b) : (FloatKind.f64.format.order a b == some .lt || FloatKind.f64.format.order a b == some .eq) = true := by
  have o : FloatKind.f64.format.order a b = _ := order_fin f g
  rw [o]
  by_cases h1 : val a < val b
  · rw [if_pos h1]; rfl
  · rw [if_neg h1, if_pos (by grind)]; rfl
theorem eq_one {a : Nat} (f : Fl.Fin a) (h : val a = 1) : (FloatKind.f64.format.order a 4607182418800017408 == some .eq) = true := by
  have o : FloatKind.f64.format.order a 4607182418800017408 = _ := order_fin f one_fin
  have ov : val 4607182418800017408 = 1 := one_val
  rw [o, ov, h]
  rw [if_neg (by decide), if_pos rfl]; rfl
theorem pos_of {a : Nat} (f : Fl.Fin a) (h : (FloatKind.f64.format.order a 0 == some .gt) = true) : 0 < val a := by
  have o : FloatKind.f64.format.order a 0 = _ := order_fin f zero_fin
  rw [o, zero_val] at h
  by_cases h1 : val a < 0
  · rw [if_pos h1] at h; exact absurd h (by decide)
  · rw [if_neg h1] at h
    by_cases h2 : val a = 0
    · rw [if_pos h2] at h; exact absurd h (by decide)
    · grind
theorem zero_of {a : Nat} (f : Fl.Fin a) (h : (FloatKind.f64.format.order a 0 == some .eq) = true) : val a = 0 := by
  have o : FloatKind.f64.format.order a 0 = _ := order_fin f zero_fin
  rw [o, zero_val] at h
  by_cases h1 : val a < 0
  · rw [if_pos h1] at h; exact absurd h (by decide)
  · rw [if_neg h1] at h
    by_cases h2 : val a = 0
    · exact h2
    · rw [if_neg h2] at h; exact absurd h (by decide)
theorem nonzero_of {a : Nat} (f : Fl.Fin a) (h0 : 0 ≤ val a) (h : (FloatKind.f64.format.order a 0 == some .eq) = false) : 0 < val a := by
  have o : FloatKind.f64.format.order a 0 = _ := order_fin f zero_fin
  rw [o, zero_val] at h
  rw [if_neg (by grind)] at h
  by_cases h2 : val a = 0
  · rw [if_pos h2] at h; exact absurd h (by decide)
  · grind

theorem dom_of {L : Nat → Nat} {v n i j : Nat} (g : Good L n) (hv : Fl.Fin v ∧ 0 ≤ val v ∧ val v ≤ 1) (hi : i < n) (hj : j < n) (pi : 0 < val (L i)) (pj : 0 < val (L j)) (hn : n ≤ 65536) : Dom L v n i j :=
  { fin := fun k hk => (g.1 k hk).1, lo := fun k hk => (g.1 k hk).2.1, hi := fun k hk => (g.1 k hk).2.2.1, mono := g.2, norm := fun k hk => (g.1 k hk).2.2.2,
    vf := hv.1, v0 := hv.2.1, v1 := hv.2.2, ni := hi, nj := hj, pi := pi, pj := pj, nn := hn }

/-- where one of the two dies out within the year, the sum is 1 -/
theorem one_year {L : Nat → Nat} {v n i j : Nat} (D : Dom L v n i j) (K : Nat) (hi : i + K ≤ n) (hj : j + K ≤ n) (hK : 0 < K) (h : val (L (i + 1)) = 0 ∨ val (L (j + 1)) = 0) : val (smW L v i j K) = 1 := by
  have hc : ∀ k, i + k ≤ n → j + k ≤ n → cnt L i j k ≤ 1 := by
    intro k
    induction k with
    | zero => intro _ _; exact Nat.zero_le _
    | succ k ih =>
      intro h1 h2
      simp only [cnt]
      by_cases e : k = 0
      · subst e; simp only [cnt]; split <;> omega
      · rw [if_neg]
        · exact ih (by omega) (by omega)
        · rintro ⟨p, q⟩
          rcases h with h | h
          · have := D.le (i + 1) (k - 1) (by omega)
            rw [show i + 1 + (k - 1) = i + k by omega, h] at this
            exact absurd p (by grind)
          · have := D.le (j + 1) (k - 1) (by omega)
            rw [show j + 1 + (k - 1) = j + k by omega, h] at this
            exact absurd q (by grind)
  obtain ⟨-, -, a, b⟩ := sm_ok D K hi hj
  have hc' : (cnt L i j K : Rat) ≤ 1 := by exact_mod_cast hc K hi hj
  have := b hK
  grind

theorem abs_le {a r b : Nat} (h : Abs a r) (h1 : val a ≤ val b) (h2 : - val a ≤ val b) : val r ≤ val b := by
  obtain ⟨-, p, q⟩ := h
  by_cases h0 : val a < 0
  · rw [q h0]; exact h2
  · rw [p (by grind)]; exact h1

theorem wrap_back (mA : Int) (i : Nat) (h : i < 65536) : IntKind.i64.wrap (mA + i - mA) = i := by
  rw [IntKind.wrap_i64]; omega
theorem wrap_back1 (mA : Int) (i : Nat) (h : i < 65536) : IntKind.i64.wrap (wrap64 (mA + i + 1) - mA) = ((i + 1 : Nat) : Int) := by
  rw [IntKind.wrap_i64]; unfold wrap64; omega
end Go.Proofs.Qxb6619244a
