import Derived.Test.Qxb6619244aW5
import Derived.ProofKit
import Derived.OpenShut
import Derived.ChangeOld
import Derived.Deep.Slices
namespace Go.Proofs.Qxb6619244a
open Go.ChangeShapes Go.WideShapes Go.ChangeAt Go.RowKit
open Fl

theorem own : ownKnob Try.prog.godebug = none := by kernel_rfl
theorem laidOut : laidOutB Try.prog = true := by kernel_rfl

/-- what a slice of floats that came in is -/
def IsFloats (w : World) (a : Option Addr) (len cap : Nat) : Prop :=
  (a = none ∧ len = 0 ∧ cap = 0) ∨
  ∃ x, a = some x ∧ len ≤ maxLen ∧ ∃ L : Nat → Nat, ∀ k, k < len → w.cell? (x.add k) = some (.float .f64 (L k))

theorem trod_float_cell {H : Type} {enc : TypeId × Value → H} {P : Program} {w : World} {base : Nat} {spare : Nat → Bool} {held : Bool} {t : TypeId} {k : FloatKind} (ht : P.underlying t = some (.float k)) {n : Nat} {v : Value} {x : DataW H × List MemPlace}
    (h : DataW.trod enc P w base spare held n t [v] = some x) : ∃ b, v = .float k b := by
  cases n with
  | zero => simp [DataW.trod] at h
  | succ n =>
    simp only [DataW.trod, ht] at h
    cases v <;> simp at h
    rename_i k' b
    exact ⟨b, by rw [h.1.1]⟩

theorem open_floats {H : Type} {enc : TypeId × Value → H} {W : World} {base : Nat} {spare : Nat → Bool} {held : Bool} {fuel : Nat} {a : Option Addr} {len cap : Nat} {x : DataW H × List MemPlace}
    (h : DataW.trod enc Try.prog W base spare held fuel 23 [.slice a len cap] = some x) : IsFloats W a len cap := by
  rcases Go.Deep.open_slice1 Try.underlying23 (by kernel_rfl) h with ⟨hcs, _⟩ | ⟨a', len', cap', m, n, V, D, Pl, hcs, hb, hl, hm, hmm, _, hx⟩
  · simp at hcs
    obtain ⟨rfl, rfl, rfl⟩ := hcs
    exact .inl ⟨rfl, rfl, rfl⟩
  · simp at hcs
    obtain ⟨rfl, rfl, rfl⟩ := hcs
    refine .inr ⟨a', rfl, by omega, fun k => match V k with | .float _ b => b | _ => 0, fun k hk => ?_⟩
    obtain ⟨h1, h2⟩ := hx k (by split at hmm <;> omega)
    obtain ⟨b, hbv⟩ := trod_float_cell Try.underlying22 h2
    rw [h1]
    simp only [hbv]

theorem cell_lt {w : World} {b o : Nat} {v : Value} (h : w.cell? ⟨b, o, none⟩ = some v) : b < w.heap.size := World.block_lt_of_cell? w _ h

theorem rec_any (mA x y : Int) (v : Nat) (a : Option Addr) (n cap : Nat) (w : World) (ha : IsFloats w a n cap)
    (wm : (Lit.int .i64 mA).wf = true) (wx : (Lit.int .i64 x).wf = true) (wy : (Lit.int .i64 y).wf = true) :
    Calls Try.prog 3 #[.int .i64 mA, .float .f64 v, .slice a n cap, .int .i64 x, .int .i64 y] w fun e w' => e = .returned (.bool true) ∧ Below w.heap.size w w' := by
  by_cases hn : 65536 < n
  · rcases ha with ⟨_, rfl, _⟩ | ⟨q, _, hm, _⟩
    · omega
    · exact rec_long mA x y v a n cap w hn (by unfold maxLen at hm; omega)
  by_cases hv : ((ord v 0 == some .gt || ord v 0 == some .eq) && (ord v oneW == some .lt || ord v oneW == some .eq)) = true
  case neg => exact rec_noV mA x y v a n cap w (by omega) (by simpa using hv)
  obtain ⟨t1, t2⟩ := Bool.and_eq_true_iff.1 hv
  by_cases h2 : n < 2
  · exact rec_short mA x y v a n cap w h2 t1 t2
  rcases ha with ⟨_, rfl, _⟩ | ⟨⟨lb, lo, spot⟩, rfl, hm, L, hL⟩
  · omega
  have hspot : spot = none := by simpa [Addr.add] using World.cell?_spot (hL 0 (by omega))
  subst hspot
  have hl : ∀ k, k < n → w.cell? ⟨lb, lo + k, none⟩ = some (.float .f64 (L k)) := fun k hk => by rw [← add_plain]; exact hL k hk
  exact rec_main mA x y v L lb lo n cap w (by omega) (by omega) t1 t2 wm wx wy (cell_lt (hl 0 (by omega))) hl

set_option maxRecDepth 100000 in
theorem rec_lifted (os : Os) (started : os.Started) (H : Type) (enc : TypeId × Value → H) :
    ReturnsInHanded {} Try.checked os 3 .any (Rows.fnJointDueRecursionSpec.pre6 enc Try.prog Try.f3 Rows.fnJointDueRecursionRow.domain false) (Rows.fnJointDueRecursionSpec.post enc Try.prog Try.f3 false true false false) := by
  refine returnsInHanded_of_change (C := Try.checked) own started (by kernel_rfl) Try.func3
    (ChangeSpec.witness6 (enc := enc) (C := Try.checked) false ⟨#[], #[.int .i64 0, .float .f64 0, .slice none 0 0, .int .i64 0, .int .i64 0], []⟩ 8 (by kernel_rfl) (by kernel_rfl) (by kernel_rfl) (by kernel_rfl)) ?_
  intro W base args ds gs before hval0 hW hcnd _
  have hval : ∀ (j : Nat) t v, Try.f3.params[j]? = some t → args[j]? = some v → Value.okWide Try.prog W .any base t v := hval0
  have hW' := hW
  obtain ⟨p, q, hA0, hV, rfl, hfz, hnd⟩ := hW
  have hA : DataW.TrodAll enc Try.prog W 0 (fun _ => true) true Try.f3.params.toList args.toList ds p := hA0
  rw [Try.params3] at hA hval
  obtain ⟨v0, vs0, d0, ds0, p0, q0, hargs, rfl, rfl, h0, r0⟩ := trodAll_cons hA
  obtain ⟨v1, vs1, d1, ds1, p1, q1, rfl, rfl, rfl, h1, r1⟩ := trodAll_cons r0
  obtain ⟨v2, vs2, d2, ds2, p2, q2, rfl, rfl, rfl, h2, r2⟩ := trodAll_cons r1
  obtain ⟨v3, vs3, d3, ds3, p3, q3, rfl, rfl, rfl, h3, r3⟩ := trodAll_cons r2
  obtain ⟨v4, vs4, d4, ds4, p4, q4, rfl, rfl, rfl, h4, r4⟩ := trodAll_cons r3
  obtain ⟨rfl, rfl, rfl⟩ := trodAll_nil r4
  obtain rfl : args = #[v0, v1, v2, v3, v4] := by cases args; simp_all
  obtain ⟨rfl, rfl⟩ := trodVars_none hV
  obtain ⟨a0, rfl, rfl, rfl, w0⟩ := open_int Try.underlying3 (hval 0 3 v0 rfl rfl) h0
  obtain ⟨a1, rfl, rfl, rfl, w1⟩ := open_float Try.underlying22 (hval 1 22 v1 rfl rfl) h1
  obtain ⟨a2, len2, cap2, rfl⟩ := okWide_slice Try.underlying23 (hval 2 23 v2 rfl rfl)
  have k2 := h2
  have lt2 : ∀ x ∈ p2, x.block < W.heap.size := by obtain ⟨m, hm⟩ := k2; exact DataW.trod_lt m _ _ _ hm
  have w2 : IsFloats W a2 len2 cap2 := by
    obtain ⟨fuel, hf⟩ := h2
    exact open_floats (by simpa [Value.cells] using hf)
  obtain ⟨a3, rfl, rfl, rfl, w3⟩ := open_int Try.underlying3 (hval 3 3 v3 rfl rfl) h3
  obtain ⟨a4, rfl, rfl, rfl, w4⟩ := open_int Try.underlying3 (hval 4 3 v4 rfl rfl) h4
  clear hA0 hval0
  refine (rec_any a0 a3 a4 a1 a2 len2 cap2 W w2 w0 w3 w4).mono fun e W' ⟨he, bel⟩ => ?_
  subst he
  exact ⟨_, rfl, _, _, _, [], _, [], hW', trodAll_mk1 (shut_bool Try.underlying4 _),
    (trodAll_cons_mk (shut_int Try.underlying3 w0) (trodAll_cons_mk (shut_float Try.underlying22 w1) (trodAll_cons_mk (Below.trod laidOut (by kernel_rfl) (of_decide_eq_true (by kernel_rfl)) k2 bel lt2) (trodAll_cons_mk (shut_int Try.underlying3 w3) (trodAll_cons_mk (shut_int Try.underlying3 w4) trodAll_mk0))))), rfl, bel.frame _, fun h => by cases h⟩

theorem recursionProved : Rows.FnJointDueRecursionSaid :=
  OpenClaim.holds_of_wide 3 Try.f3 rfl rfl rfl rfl rfl rfl rfl ⟨rfl, rfl, rfl, rfl, rfl⟩ rfl rfl rfl rfl rfl (by kernel_rfl) Try.func3 (by kernel_rfl)
    (of_decide_eq_true (by kernel_rfl)) (by unfold Func.isWrapper; first | (rw [if_pos (by decide +kernel)]; kernel_rfl) | (rw [if_neg (by decide +kernel)]; exact ⟨rfl, rfl⟩))
    (fun os started H enc _ => rec_lifted os started H enc)
end Go.Proofs.Qxb6619244a
