import Derived.Test.Qxb6623286aXe
import Derived.ProofKit
import Derived.OpenShut
import Derived.ChangeOld
import Derived.Deep.Matrix
namespace Go.Proofs.Qxb6623286a
open Go.ChangeShapes Go.WideShapes Go.ChangeAt Go.RowKit

theorem own : ownKnob Try.prog.godebug = none := by kernel_rfl
theorem laidOut : laidOutB Try.prog = true := by kernel_rfl
theorem Try.cells21 : Try.prog.cellsOf 21 = 1 := by kernel_rfl
theorem Try.cells22 : Try.prog.cellsOf 22 = 1 := by kernel_rfl

theorem wf32 {n : Int} (h : (Lit.int .i32 n).wf = true) : -2147483648 ≤ n ∧ n ≤ 2147483647 := by
  have h1 : IntKind.min .i32 ≤ n ∧ n ≤ IntKind.max .i32 := by simpa only [Lit.wf, Bool.and_eq_true, decide_eq_true_eq] using h
  have e1 : IntKind.min .i32 = -2147483648 := by decide
  have e2 : IntKind.max .i32 = 2147483647 := by decide
  rw [e1, e2] at h1
  exact h1

theorem open32 {H : Type} {enc : TypeId × Value → H} {W : World} {base : Nat} {held : Bool} {fuel : Nat} {a : Option Addr} {len cap : Nat} {x : DataW H × List MemPlace}
    (h : DataW.trod enc Try.prog W base (fun _ => true) held fuel 22 [.slice a len cap] = some x) : ∃ f, RowIn W (.slice a len cap) len f ∧ (∀ k, k < len → -2147483648 ≤ f k ∧ f k ≤ 2147483647) ∧ (len : Int) ≤ 9223372036854775807 := by
  rcases open_ints Try.underlying22 Try.underlying21 Try.cells21 h with ⟨hcs, _⟩ | ⟨a', len', cap', zs, hcs, hb, hl, hm, hz, _, hcell, hws⟩
  · simp at hcs
    obtain ⟨rfl, rfl, rfl⟩ := hcs
    exact ⟨fun _ => 0, .inl ⟨rfl, rfl⟩, fun k hk => absurd hk (by omega), by omega⟩
  · simp at hcs
    obtain ⟨rfl, rfl, rfl⟩ := hcs
    simp only [if_true] at hz
    refine ⟨fun k => zs.getD k 0, .inr ⟨a', cap, rfl, fun h0 => ?_⟩, fun k hk => ?_, by unfold maxLen at hm; omega⟩
    · obtain ⟨b, o, spot⟩ := a'
      have hspot : spot = none := by simpa [Addr.add] using World.cell?_spot (hcell 0 (by omega))
      subst hspot
      refine ⟨b, o, rfl, ?_, fun k hk => ?_⟩
      · have := World.block_lt_of_cell? W _ (hcell 0 (by omega)); simpa [Addr.add] using this
      · rw [← add_plain]; exact hcell k (by omega)
    · refine wf32 (hws _ ?_)
      have hk' : k < zs.length := by omega
      simp [hk']

theorem openRows {H : Type} {enc : TypeId × Value → H} {W : World} {base : Nat} {held : Bool} {fuel : Nat} {a : Option Addr} {len cap : Nat} {x : DataW H × List MemPlace}
    (h : DataW.trod enc Try.prog W base (fun _ => true) held fuel 23 [.slice a len cap] = some x) : ∃ (r : Nat → Value) (ln : Nat → Nat) (nd : Nat → Nat → Int),
      (0 < len → ∃ nb no, a = some ⟨nb, no, none⟩ ∧ nb < W.heap.size ∧ ∀ k, k < len → W.cell? ⟨nb, no + k, none⟩ = some (r k)) ∧ (∀ k, k < len → RowIn W (r k) (ln k) (nd k) ∧ (ln k : Int) ≤ 9223372036854775807) ∧
      (∀ k j, k < len → j < ln k → -2147483648 ≤ nd k j ∧ nd k j ≤ 2147483647) ∧ (len : Int) ≤ 9223372036854775807 := by
  rcases Go.Deep.open_int_rows Try.underlying23 Try.underlying22 Try.underlying21 Try.cells22 Try.cells21 h with ⟨hcs, _⟩ | ⟨a', len', cap', A, L, C, Z, hcs, hb, hl, hm, _, hrow⟩
  · simp at hcs
    obtain ⟨rfl, rfl, rfl⟩ := hcs
    exact ⟨fun _ => .slice none 0 0, fun _ => 0, fun _ _ => 0, fun hk => absurd hk (by omega), fun k hk => absurd hk (by omega), fun k j hk => absurd hk (by omega), by omega⟩
  · simp at hcs
    obtain ⟨rfl, rfl, rfl⟩ := hcs
    refine ⟨fun k => .slice (A k) (L k) (C k), L, fun k j => (Z k).getD j 0, fun h0 => ?_, fun k hk => ?_, fun k j hk hj => ?_, by unfold maxLen at hm; omega⟩
    · obtain ⟨b, o, spot⟩ := a'
      have hspot : spot = none := by simpa [Addr.add] using World.cell?_spot (hrow 0 (by omega)).1
      subst hspot
      refine ⟨b, o, rfl, ?_, fun k hk => ?_⟩
      · have := World.block_lt_of_cell? W _ (hrow 0 (by omega)).1; simpa [Addr.add] using this
      · rw [← add_plain]; exact (hrow k (by omega)).1
    · obtain ⟨_, q1, q2, q3, q4, q5, q6⟩ := hrow k (by omega)
      refine ⟨?_, by unfold maxLen at q2; omega⟩
      cases hA : A k with
      | none =>
        have hC := q5 hA
        have hL : L k = 0 := by omega
        exact .inl ⟨by show Value.slice (A k) (L k) (C k) = _; rw [hA, hC, hL], hL⟩
      | some ad =>
        refine .inr ⟨ad, C k, by show Value.slice (A k) (L k) (C k) = _; rw [hA], fun h0 => ?_⟩
        obtain ⟨_, hc⟩ := q6 ad hA
        obtain ⟨b, o, spot⟩ := ad
        have hspot : spot = none := by simpa [Addr.add] using World.cell?_spot (hc 0 (by omega))
        subst hspot
        refine ⟨b, o, rfl, ?_, fun j hj => ?_⟩
        · have := World.block_lt_of_cell? W _ (hc 0 (by omega)); simpa [Addr.add] using this
        · rw [← add_plain]; exact hc j (by omega)
    · obtain ⟨_, q1, q2, q3, q4, q5, q6⟩ := hrow k (by omega)
      refine wf32 (q4 _ ?_)
      have hk' : j < (Z k).length := by omega
      simp [hk']

set_option maxRecDepth 100000 in
theorem lifted (os : Os) (started : os.Started) (H : Type) (enc : TypeId × Value → H) :
    ReturnsInHanded {} Try.checked os 3 .any (Rows.fnCutSplitsRunAtShorterSideSpec.pre6 enc Try.prog Try.f3 Rows.fnCutSplitsRunAtShorterSideRow.domain false) (Rows.fnCutSplitsRunAtShorterSideSpec.post enc Try.prog Try.f3 false true false false) := by
  refine returnsInHanded_of_change (C := Try.checked) own started (by kernel_rfl) Try.func3
    (ChangeSpec.witness6 (enc := enc) (C := Try.checked) false ⟨#[], #[.slice none 0 0, .slice none 0 0, .slice none 0 0, .slice none 0 0, .slice none 0 0, .slice none 0 0, .slice none 0 0, .slice none 0 0, .int .i64 0, .int .i32 0], []⟩ 8 (by kernel_rfl) (by kernel_rfl) (by kernel_rfl) (by kernel_rfl)) ?_
  intro W base args ds gs before hval0 hW hcnd _
  have hval : ∀ (j : Nat) t v, Try.f3.params[j]? = some t → args[j]? = some v → Value.okWide Try.prog W .any base t v := hval0
  have hW' := hW
  obtain ⟨p, q, hA0, hV, rfl, hfz, hnd⟩ := hW
  have hA : DataW.TrodAll enc Try.prog W 0 (fun _ => true) true Try.f3.params.toList args.toList ds p := hA0
  rw [Try.params3] at hA hval
  obtain ⟨v0, vs0, d0, ds0, p0, q0, hargs, rfl, rfl, h0, r0⟩ := trodAll_cons hA
  obtain ⟨v1, vs1, d1, ds1, p1, q1, rfl, rfl, rfl, h1, r1⟩ := trodAll_cons r0
  obtain ⟨v2, vs2, d2, ds2, p2, q2, rfl, rfl, rfl, h2, r2⟩ := trodAll_cons r1
  obtain ⟨v3, vs3, d3, ds3, p3, q3, rfl, rfl, rfl, h3, r3⟩ := trodAll_cons r2
  obtain ⟨v4, vs4, d4, ds4, p4, q4, rfl, rfl, rfl, h4, r4⟩ := trodAll_cons r3
  obtain ⟨v5, vs5, d5, ds5, p5, q5, rfl, rfl, rfl, h5, r5⟩ := trodAll_cons r4
  obtain ⟨v6, vs6, d6, ds6, p6, q6, rfl, rfl, rfl, h6, r6⟩ := trodAll_cons r5
  obtain ⟨v7, vs7, d7, ds7, p7, q7, rfl, rfl, rfl, h7, r7⟩ := trodAll_cons r6
  obtain ⟨v8, vs8, d8, ds8, p8, q8, rfl, rfl, rfl, h8, r8⟩ := trodAll_cons r7
  obtain ⟨v9, vs9, d9, ds9, p9, q9, rfl, rfl, rfl, h9, r9⟩ := trodAll_cons r8
  obtain ⟨rfl, rfl, rfl⟩ := trodAll_nil r9
  obtain rfl : args = #[v0, v1, v2, v3, v4, v5, v6, v7, v8, v9] := by cases args; simp_all
  obtain ⟨rfl, rfl⟩ := trodVars_none hV
  obtain ⟨a0, l0, k0, rfl⟩ := okWide_slice Try.underlying22 (hval 0 22 v0 rfl rfl)
  obtain ⟨a1, l1, k1, rfl⟩ := okWide_slice Try.underlying22 (hval 1 22 v1 rfl rfl)
  obtain ⟨a2, l2, k2, rfl⟩ := okWide_slice Try.underlying22 (hval 2 22 v2 rfl rfl)
  obtain ⟨a3, l3, k3, rfl⟩ := okWide_slice Try.underlying22 (hval 3 22 v3 rfl rfl)
  obtain ⟨a4, l4, k4, rfl⟩ := okWide_slice Try.underlying22 (hval 4 22 v4 rfl rfl)
  obtain ⟨a5, l5, k5, rfl⟩ := okWide_slice Try.underlying22 (hval 5 22 v5 rfl rfl)
  obtain ⟨a6, l6, k6, rfl⟩ := okWide_slice Try.underlying23 (hval 6 23 v6 rfl rfl)
  obtain ⟨a7, l7, k7, rfl⟩ := okWide_slice Try.underlying22 (hval 7 22 v7 rfl rfl)
  have z8 := h8
  have z9 := h9
  obtain ⟨cl, rfl, -, -, -⟩ := open_int Try.underlying3 (hval 8 3 v8 rfl rfl) h8
  obtain ⟨v, rfl, -, -, hwv⟩ := open_int Try.underlying21 (hval 9 21 v9 rfl rfl) h9
  have z0 := h0
  have z1 := h1
  have z2 := h2
  have z3 := h3
  have z4 := h4
  have z5 := h5
  have z6 := h6
  have z7 := h7
  have lt0 : ∀ x ∈ p0, x.block < W.heap.size := by obtain ⟨m, hm⟩ := z0; exact DataW.trod_lt m _ _ _ hm
  have lt1 : ∀ x ∈ p1, x.block < W.heap.size := by obtain ⟨m, hm⟩ := z1; exact DataW.trod_lt m _ _ _ hm
  have lt2 : ∀ x ∈ p2, x.block < W.heap.size := by obtain ⟨m, hm⟩ := z2; exact DataW.trod_lt m _ _ _ hm
  have lt3 : ∀ x ∈ p3, x.block < W.heap.size := by obtain ⟨m, hm⟩ := z3; exact DataW.trod_lt m _ _ _ hm
  have lt4 : ∀ x ∈ p4, x.block < W.heap.size := by obtain ⟨m, hm⟩ := z4; exact DataW.trod_lt m _ _ _ hm
  have lt5 : ∀ x ∈ p5, x.block < W.heap.size := by obtain ⟨m, hm⟩ := z5; exact DataW.trod_lt m _ _ _ hm
  have lt6 : ∀ x ∈ p6, x.block < W.heap.size := by obtain ⟨m, hm⟩ := z6; exact DataW.trod_lt m _ _ _ hm
  have lt7 : ∀ x ∈ p7, x.block < W.heap.size := by obtain ⟨m, hm⟩ := z7; exact DataW.trod_lt m _ _ _ hm
  have lt8 : ∀ x ∈ p8, x.block < W.heap.size := by obtain ⟨m, hm⟩ := z8; exact DataW.trod_lt m _ _ _ hm
  have lt9 : ∀ x ∈ p9, x.block < W.heap.size := by obtain ⟨m, hm⟩ := z9; exact DataW.trod_lt m _ _ _ hm
  obtain ⟨thr, i0, g0, m0⟩ : ∃ f, RowIn W (.slice a0 l0 k0) l0 f ∧ (∀ k, k < l0 → -2147483648 ≤ f k ∧ f k ≤ 2147483647) ∧ (l0 : Int) ≤ 9223372036854775807 := by
    obtain ⟨fuel, hf⟩ := h0
    exact open32 (by simpa [Value.cells] using hf)
  obtain ⟨rev, i1, g1, m1⟩ : ∃ f, RowIn W (.slice a1 l1 k1) l1 f ∧ (∀ k, k < l1 → -2147483648 ≤ f k ∧ f k ≤ 2147483647) ∧ (l1 : Int) ≤ 9223372036854775807 := by
    obtain ⟨fuel, hf⟩ := h1
    exact open32 (by simpa [Value.cells] using hf)
  obtain ⟨mc, i2, g2, m2⟩ : ∃ f, RowIn W (.slice a2 l2 k2) l2 f ∧ (∀ k, k < l2 → -2147483648 ≤ f k ∧ f k ≤ 2147483647) ∧ (l2 : Int) ≤ 9223372036854775807 := by
    obtain ⟨fuel, hf⟩ := h2
    exact open32 (by simpa [Value.cells] using hf)
  obtain ⟨ms, i3, g3, m3⟩ : ∃ f, RowIn W (.slice a3 l3 k3) l3 f ∧ (∀ k, k < l3 → -2147483648 ≤ f k ∧ f k ≤ 2147483647) ∧ (l3 : Int) ≤ 9223372036854775807 := by
    obtain ⟨fuel, hf⟩ := h3
    exact open32 (by simpa [Value.cells] using hf)
  obtain ⟨F, i4, g4, m4⟩ : ∃ f, RowIn W (.slice a4 l4 k4) l4 f ∧ (∀ k, k < l4 → -2147483648 ≤ f k ∧ f k ≤ 2147483647) ∧ (l4 : Int) ≤ 9223372036854775807 := by
    obtain ⟨fuel, hf⟩ := h4
    exact open32 (by simpa [Value.cells] using hf)
  obtain ⟨L, i5, g5, m5⟩ : ∃ f, RowIn W (.slice a5 l5 k5) l5 f ∧ (∀ k, k < l5 → -2147483648 ≤ f k ∧ f k ≤ 2147483647) ∧ (l5 : Int) ≤ 9223372036854775807 := by
    obtain ⟨fuel, hf⟩ := h5
    exact open32 (by simpa [Value.cells] using hf)
  obtain ⟨sp, i7, g7, m7⟩ : ∃ f, RowIn W (.slice a7 l7 k7) l7 f ∧ (∀ k, k < l7 → -2147483648 ≤ f k ∧ f k ≤ 2147483647) ∧ (l7 : Int) ≤ 9223372036854775807 := by
    obtain ⟨fuel, hf⟩ := h7
    exact open32 (by simpa [Value.cells] using hf)
  obtain ⟨r, ln, nd, i6, rows, g6, m6⟩ := (show _ from by
    obtain ⟨fuel, hf⟩ := h6
    exact openRows (by simpa [Value.cells] using hf) : ∃ (r : Nat → Value) (ln : Nat → Nat) (nd : Nat → Nat → Int),
      (0 < l6 → ∃ nb no, a6 = some ⟨nb, no, none⟩ ∧ nb < W.heap.size ∧ ∀ k, k < l6 → W.cell? ⟨nb, no + k, none⟩ = some (r k)) ∧ (∀ k, k < l6 → RowIn W (r k) (ln k) (nd k) ∧ (ln k : Int) ≤ 9223372036854775807) ∧
      (∀ k j, k < l6 → j < ln k → -2147483648 ≤ nd k j ∧ nd k j ≤ 2147483647) ∧ (l6 : Int) ≤ 9223372036854775807)
  clear hA0 hval0
  obtain ⟨wv0, wv1⟩ := wf32 hwv
  refine (law_any W l0 l1 l2 l3 l4 l5 l6 l7 a0 a1 a2 a3 a4 a5 a6 a7 k0 k1 k2 k3 k4 k5 k6 k7 thr rev mc ms F L sp r ln nd cl v ⟨i0, i1, i2, i3, i4, i5, i7, i6, rows, g0, g1, g2, g3, g4, g5, g7, g6, m0, m1, m2, m3, m4, m5, m6, m7⟩ wv0 wv1).mono fun e W' ⟨he, bel⟩ => ?_
  subst he
  exact ⟨_, rfl, _, _, _, [], _, [], hW', trodAll_mk1 (shut_bool Try.underlying4 _),
    ((trodAll_cons_mk (Below.trod laidOut (by kernel_rfl) (of_decide_eq_true (by kernel_rfl)) z0 bel lt0) (trodAll_cons_mk (Below.trod laidOut (by kernel_rfl) (of_decide_eq_true (by kernel_rfl)) z1 bel lt1) (trodAll_cons_mk (Below.trod laidOut (by kernel_rfl) (of_decide_eq_true (by kernel_rfl)) z2 bel lt2) (trodAll_cons_mk (Below.trod laidOut (by kernel_rfl) (of_decide_eq_true (by kernel_rfl)) z3 bel lt3) (trodAll_cons_mk (Below.trod laidOut (by kernel_rfl) (of_decide_eq_true (by kernel_rfl)) z4 bel lt4) (trodAll_cons_mk (Below.trod laidOut (by kernel_rfl) (of_decide_eq_true (by kernel_rfl)) z5 bel lt5) (trodAll_cons_mk (Below.trod laidOut (by kernel_rfl) (of_decide_eq_true (by kernel_rfl)) z6 bel lt6) (trodAll_cons_mk (Below.trod laidOut (by kernel_rfl) (of_decide_eq_true (by kernel_rfl)) z7 bel lt7) (trodAll_cons_mk (Below.trod laidOut (by kernel_rfl) (of_decide_eq_true (by kernel_rfl)) z8 bel lt8) (trodAll_cons_mk (Below.trod laidOut (by kernel_rfl) (of_decide_eq_true (by kernel_rfl)) z9 bel lt9) trodAll_mk0))))))))))), rfl, bel.frame _, fun h => by cases h⟩

theorem cutSplitsProved : Rows.FnCutSplitsRunAtShorterSideSaid :=
  OpenClaim.holds_of_wide 3 Try.f3 rfl rfl rfl rfl rfl rfl rfl ⟨rfl, rfl, rfl, rfl, rfl⟩ rfl rfl rfl rfl rfl (by kernel_rfl) Try.func3 (by kernel_rfl)
    (of_decide_eq_true (by kernel_rfl)) (by unfold Func.isWrapper; first | (rw [if_pos (by decide +kernel)]; kernel_rfl) | (rw [if_neg (by decide +kernel)]; exact ⟨rfl, rfl⟩))
    (fun os started H enc _ => lifted os started H enc)
end Go.Proofs.Qxb6623286a
