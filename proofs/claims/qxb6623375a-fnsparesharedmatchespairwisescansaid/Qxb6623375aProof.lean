import Derived.Test.Qxb6623375aB7
import Derived.ProofKit
import Derived.OpenShut
import Derived.ChangeOld
import Derived.SliceStrings
import Derived.Deep.Slices
import Derived.Deep.Strs
import Derived.Lib.SmallJoins
namespace Go.Proofs.Qxb6623375a
open Go.ChangeShapes Go.WideShapes Go.ChangeAt Go.RowKit

theorem own : ownKnob Try.prog.godebug = none := by kernel_rfl
theorem laidOut : laidOutB Try.prog = true := by kernel_rfl
theorem Try.cells28 : Try.prog.cellsOf 28 = 3 := by kernel_rfl
theorem Try.cells38 : Try.prog.cellsOf 38 = 4 := by kernel_rfl
theorem Try.cells9 : Try.prog.cellsOf 9 = 1 := by kernel_rfl
theorem Try.cells26 : Try.prog.cellsOf 26 = 1 := by kernel_rfl
theorem Try.cells3 : Try.prog.cellsOf 3 = 1 := by kernel_rfl
theorem Try.cells4 : Try.prog.cellsOf 4 = 1 := by kernel_rfl

/-- a slice of strings, opened -/
theorem openStrs {H : Type} {enc : TypeId × Value → H} {W : World} {base : Nat} {held : Bool} {fuel : Nat} {v : Value} {x : DataW H × List MemPlace}
    (h : DataW.trod enc Try.prog W base (fun _ => true) held fuel 26 [v] = some x) : ∃ (n : Nat) (f : Nat → ByteArray), StrsIn W v n f ∧ (n : Int) ≤ 9223372036854775807 ∧ ∀ k, k < n → ((f k).size : Int) ≤ 9223372036854775807 := by
  rcases open_strings Try.underlying26 Try.underlying9 Try.cells9 h with ⟨hcs, _⟩ | ⟨a', len', cap', ss, hcs, hb, hl, hm, hz, _, hcell, hws⟩
  · simp at hcs
    subst hcs
    exact ⟨0, fun _ => ByteArray.empty, .inl ⟨rfl, rfl⟩, by omega, fun k hk => absurd hk (by omega)⟩
  · simp at hcs
    subst hcs
    simp only [if_true] at hz
    refine ⟨len', fun k => ss.getD k ByteArray.empty, .inr ⟨a', cap', rfl, fun h0 => ?_⟩, by unfold maxLen at hm; omega, fun k hk => ?_⟩
    · obtain ⟨b, o, spot⟩ := a'
      have hspot : spot = none := by simpa [Addr.add] using World.cell?_spot (hcell 0 (by omega))
      subst hspot
      refine ⟨b, o, rfl, ?_, fun k hk => ?_⟩
      · have := World.block_lt_of_cell? W _ (hcell 0 (by omega)); simpa [Addr.add] using this
      · rw [← add_plain]; exact hcell k (by omega)
    · have hk' : k < ss.length := by omega
      have := hws (ss.getD k ByteArray.empty) (by simp [hk'])
      unfold maxLen at this
      show ((ss.getD k ByteArray.empty).size : Int) ≤ _
      omega

theorem openTags {H : Type} {enc : TypeId × Value → H} {W : World} {base : Nat} {held : Bool} {fuel : Nat} {a : Option Addr} {len cap : Nat} {x : DataW H × List MemPlace}
    (h : DataW.trod enc Try.prog W base (fun _ => true) held fuel 22 [.slice a len cap] = some x) : ∃ (nm dg : Nat → ByteArray) (mv : Nat → Value) (ml : Nat → Nat) (mf : Nat → Nat → ByteArray), TagsIn W a len nm dg mv ml mf := by
  rcases Go.Deep.open_slice Try.underlying22 h with ⟨hcs, _⟩ | ⟨a', len', cap', m, n, D, Pl, hcs, hb, hl, hm, hmm, _, hx⟩
  · simp at hcs
    obtain ⟨rfl, rfl, rfl⟩ := hcs
    exact ⟨fun _ => ByteArray.empty, fun _ => ByteArray.empty, fun _ => .slice none 0 0, fun _ => 0, fun _ _ => ByteArray.empty, fun hk => absurd hk (by omega), fun k hk => absurd hk (by omega), fun k hk => absurd hk (by omega), fun k j hk => absurd hk (by omega)⟩
  · simp at hcs
    obtain ⟨rfl, rfl, rfl⟩ := hcs
    simp only [if_true] at hmm
    subst hmm
    have each : ∀ i, ∃ q : ByteArray × ByteArray × Value × Nat × (Nat → ByteArray), i < len → W.cell? (a'.add (i * 3)) = some (.string q.1) ∧ W.cell? (a'.add (i * 3 + 1)) = some (.string q.2.1) ∧ W.cell? (a'.add (i * 3 + 2)) = some q.2.2.1 ∧
        StrsIn W q.2.2.1 q.2.2.2.1 q.2.2.2.2 ∧ (q.1.size : Int) ≤ 9223372036854775807 ∧ (q.2.1.size : Int) ≤ 9223372036854775807 ∧ (q.2.2.2.1 : Int) ≤ 9223372036854775807 ∧ ∀ j, j < q.2.2.2.1 → ((q.2.2.2.2 j).size : Int) ≤ 9223372036854775807 := fun i => by
      by_cases hi : i < len
      · obtain ⟨cs', h1, h2⟩ := hx i (by omega)
        rw [Try.cells28] at h1
        obtain ⟨_, hlen, hcell⟩ := World.cells?_some h1
        obtain ⟨y0, y1, y2, k, _, _, g0, g1, g2⟩ := Go.Deep.trod_struct3 Try.underlying28 h2
        match cs', hlen with
        | [v0, v1, v2], _ =>
          simp [Try.cells9, Try.cells26] at g0 g1 g2
          have e0 := hcell 0 (by omega)
          have e1 := hcell 1 (by omega)
          have e2 := hcell 2 (by omega)
          rw [Go.Deep.add_add] at e0 e1 e2
          obtain ⟨s0, f0, _, z0⟩ := DataW.trod_string Try.underlying9 g0
          obtain ⟨s1, f1, _, z1⟩ := DataW.trod_string Try.underlying9 g1
          obtain ⟨mn, mf, z2, z3, z4⟩ := openStrs g2
          simp at f0 f1
          subst f0 f1
          unfold maxLen at z0 z1
          have y0 : (s0.size : Int) ≤ 9223372036854775807 := by omega
          have y1 : (s1.size : Int) ≤ 9223372036854775807 := by omega
          exact ⟨(s0, s1, v2, mn, mf), fun _ => ⟨by simpa using e0, by simpa using e1, by simpa using e2, z2, y0, y1, z3, z4⟩⟩
      · exact ⟨(ByteArray.empty, ByteArray.empty, .slice none 0 0, 0, fun _ => ByteArray.empty), fun h => absurd h hi⟩
    obtain ⟨q, hq⟩ := Classical.skolem.1 each
    refine ⟨fun i => (q i).1, fun i => (q i).2.1, fun i => (q i).2.2.1, fun i => (q i).2.2.2.1, fun i => (q i).2.2.2.2, fun h0 => ?_, fun k hk => (hq k hk).2.2.2.1, fun k hk => ⟨(hq k hk).2.2.2.2.1, (hq k hk).2.2.2.2.2.1, (hq k hk).2.2.2.2.2.2.1⟩, fun k j hk hj => (hq k hk).2.2.2.2.2.2.2 j hj⟩
    obtain ⟨b, o, spot⟩ := a'
    have hspot : spot = none := by simpa [Addr.add] using World.cell?_spot (hq 0 h0).1
    subst hspot
    refine ⟨b, o, rfl, ?_, fun k hk => ?_⟩
    · have := World.block_lt_of_cell? W _ (hq 0 h0).1; simpa [Addr.add] using this
    · obtain ⟨u0, u1, u2, _⟩ := hq k hk
      rw [add_plain] at u0 u1 u2
      exact ⟨u0, u1, u2⟩

theorem openDecs {H : Type} {enc : TypeId × Value → H} {W : World} {base : Nat} {held : Bool} {fuel : Nat} {a : Option Addr} {len cap : Nat} {x : DataW H × List MemPlace}
    (h : DataW.trod enc Try.prog W base (fun _ => true) held fuel 23 [.slice a len cap] = some x) : ∃ (ac im : Nat → ByteArray) (ru : Nat → Int) (un : Nat → Bool), DecsIn W a len ac im ru un ∧ (len : Int) ≤ 9223372036854775807 := by
  rcases Go.Deep.open_slice Try.underlying23 h with ⟨hcs, _⟩ | ⟨a', len', cap', m, n, D, Pl, hcs, hb, hl, hm, hmm, _, hx⟩
  · simp at hcs
    obtain ⟨rfl, rfl, rfl⟩ := hcs
    exact ⟨fun _ => ByteArray.empty, fun _ => ByteArray.empty, fun _ => 0, fun _ => false, ⟨fun hk => absurd hk (by omega), fun k hk => absurd hk (by omega)⟩, by omega⟩
  · simp at hcs
    obtain ⟨rfl, rfl, rfl⟩ := hcs
    simp only [if_true] at hmm
    subst hmm
    have each : ∀ i, ∃ q : ByteArray × ByteArray × Int × Bool, i < len → W.cell? (a'.add (i * 4)) = some (.string q.1) ∧ W.cell? (a'.add (i * 4 + 1)) = some (.int .i64 q.2.2.1) ∧ W.cell? (a'.add (i * 4 + 2)) = some (.string q.2.1) ∧ W.cell? (a'.add (i * 4 + 3)) = some (.bool q.2.2.2) ∧
        (q.1.size : Int) ≤ 9223372036854775807 ∧ (q.2.1.size : Int) ≤ 9223372036854775807 := fun i => by
      by_cases hi : i < len
      · obtain ⟨cs', h1, h2⟩ := hx i (by omega)
        rw [Try.cells38] at h1
        obtain ⟨_, hlen, hcell⟩ := World.cells?_some h1
        obtain ⟨y0, y1, y2, y3, k, _, _, g0, g1, g2, g3⟩ := Go.Joins.trod_struct4 Try.underlying38 h2
        match cs', hlen with
        | [v0, v1, v2, v3], _ =>
          simp [Try.cells9, Try.cells3, Try.cells4] at g0 g1 g2 g3
          have e0 := hcell 0 (by omega)
          have e1 := hcell 1 (by omega)
          have e2 := hcell 2 (by omega)
          have e3 := hcell 3 (by omega)
          rw [Go.Deep.add_add] at e0 e1 e2 e3
          obtain ⟨s0, f0, _, z0⟩ := DataW.trod_string Try.underlying9 g0
          obtain ⟨i1, f1, _, _⟩ := DataW.trod_int Try.underlying3 g1
          obtain ⟨s2, f2, _, z2⟩ := DataW.trod_string Try.underlying9 g2
          obtain ⟨b3, f3, _⟩ := DataW.trod_bool Try.underlying4 g3
          simp at f0 f1 f2 f3
          subst f0 f1 f2 f3
          unfold maxLen at z0 z2
          have y0 : (s0.size : Int) ≤ 9223372036854775807 := by omega
          have y2 : (s2.size : Int) ≤ 9223372036854775807 := by omega
          exact ⟨(s0, s2, i1, b3), fun _ => ⟨by simpa using e0, by simpa using e1, by simpa using e2, by simpa using e3, y0, y2⟩⟩
      · exact ⟨(ByteArray.empty, ByteArray.empty, 0, false), fun h => absurd h hi⟩
    obtain ⟨q, hq⟩ := Classical.skolem.1 each
    refine ⟨fun i => (q i).1, fun i => (q i).2.1, fun i => (q i).2.2.1, fun i => (q i).2.2.2, ⟨fun h0 => ?_, fun k hk => ⟨(hq k hk).2.2.2.2.1, (hq k hk).2.2.2.2.2⟩⟩, by unfold maxLen at hm; omega⟩
    obtain ⟨b, o, spot⟩ := a'
    have hspot : spot = none := by simpa [Addr.add] using World.cell?_spot (hq 0 h0).1
    subst hspot
    refine ⟨b, o, rfl, ?_, fun k hk => ?_⟩
    · have := World.block_lt_of_cell? W _ (hq 0 h0).1; simpa [Addr.add] using this
    · obtain ⟨u0, u1, u2, u3, _⟩ := hq k hk
      rw [add_plain] at u0 u1 u2 u3
      exact ⟨u0, u1, u2, u3⟩

set_option maxRecDepth 100000 in
theorem lifted (os : Os) (started : os.Started) (H : Type) (enc : TypeId × Value → H) :
    ReturnsInHanded {} Try.checked os 3 .any (Rows.fnSpareSharedMatchesPairwiseScanSpec.pre6 enc Try.prog Try.f3 Rows.fnSpareSharedMatchesPairwiseScanRow.domain false) (Rows.fnSpareSharedMatchesPairwiseScanSpec.post enc Try.prog Try.f3 false true false false) := by
  refine returnsInHanded_of_change (C := Try.checked) own started (by kernel_rfl) Try.func3
    (ChangeSpec.witness6 (enc := enc) (C := Try.checked) false ⟨#[], #[.slice none 0 0, .slice none 0 0], []⟩ 8 (by kernel_rfl) (by kernel_rfl) (by kernel_rfl) (by kernel_rfl)) ?_
  intro W base args ds gs before hval0 hW hcnd _
  have hval : ∀ (j : Nat) t v, Try.f3.params[j]? = some t → args[j]? = some v → Value.okWide Try.prog W .any base t v := hval0
  have hW' := hW
  obtain ⟨p, q, hA0, hV, rfl, hfz, hnd⟩ := hW
  have hA : DataW.TrodAll enc Try.prog W 0 (fun _ => true) true Try.f3.params.toList args.toList ds p := hA0
  rw [Try.params3] at hA hval
  obtain ⟨v0, vs0, d0, ds0, p0, q0, hargs, rfl, rfl, h0, r0⟩ := trodAll_cons hA
  obtain ⟨v1, vs1, d1, ds1, p1, q1, rfl, rfl, rfl, h1, r1⟩ := trodAll_cons r0
  obtain ⟨rfl, rfl, rfl⟩ := trodAll_nil r1
  obtain rfl : args = #[v0, v1] := by cases args; simp_all
  obtain ⟨rfl, rfl⟩ := trodVars_none hV
  obtain ⟨a0, len0, cap0, rfl⟩ := okWide_slice Try.underlying22 (hval 0 22 v0 rfl rfl)
  obtain ⟨a1, len1, cap1, rfl⟩ := okWide_slice Try.underlying23 (hval 1 23 v1 rfl rfl)
  have k0 := h0
  have k1 := h1
  have lt0 : ∀ x ∈ p0, x.block < W.heap.size := by obtain ⟨m, hm⟩ := k0; exact DataW.trod_lt m _ _ _ hm
  have lt1 : ∀ x ∈ p1, x.block < W.heap.size := by obtain ⟨m, hm⟩ := k1; exact DataW.trod_lt m _ _ _ hm
  obtain ⟨nm, dg, mv, ml, mf, w0⟩ : ∃ nm dg mv ml mf, TagsIn W a0 len0 nm dg mv ml mf := by
    obtain ⟨fuel, hf⟩ := h0
    exact openTags (by simpa [Value.cells] using hf)
  obtain ⟨ac, im, ru, un, w1, hm1⟩ : ∃ ac im ru un, DecsIn W a1 len1 ac im ru un ∧ (len1 : Int) ≤ 9223372036854775807 := by
    obtain ⟨fuel, hf⟩ := h1
    exact openDecs (by simpa [Value.cells] using hf)
  clear hA0 hval0
  refine (law_any W a0 a1 len0 len1 cap0 cap1 nm dg ac im mv ml mf ru un w0 w1 hm1).mono fun e W' ⟨he, bel⟩ => ?_
  subst he
  exact ⟨_, rfl, _, _, _, [], _, [], hW', trodAll_mk1 (shut_bool Try.underlying4 _),
    (trodAll_cons_mk (Below.trod laidOut (by kernel_rfl) (of_decide_eq_true (by kernel_rfl)) k0 bel lt0) (trodAll_cons_mk (Below.trod laidOut (by kernel_rfl) (of_decide_eq_true (by kernel_rfl)) k1 bel lt1) trodAll_mk0)), rfl, bel.frame _, fun h => by cases h⟩

theorem spareSharedProved : Rows.FnSpareSharedMatchesPairwiseScanSaid :=
  OpenClaim.holds_of_wide 3 Try.f3 rfl rfl rfl rfl rfl rfl rfl ⟨rfl, rfl, rfl, rfl, rfl⟩ rfl rfl rfl rfl rfl (by kernel_rfl) Try.func3 (by kernel_rfl)
    (of_decide_eq_true (by kernel_rfl)) (by unfold Func.isWrapper; first | (rw [if_pos (by decide +kernel)]; kernel_rfl) | (rw [if_neg (by decide +kernel)]; exact ⟨rfl, rfl⟩))
    (fun os started H enc _ => lifted os started H enc)
end Go.Proofs.Qxb6623375a
