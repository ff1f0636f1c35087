import Derived.Test.Qxb6623286aXb
import Derived.Test.Qxb6623286aXc
import Derived.Test.Qxb6623286aXd
import Derived.Deep.Cut
namespace Go.Proofs.Qxb6623286a
open Go.RowKit

theorem RowIn.after {w w' : World} {v : Value} {n : Nat} {f : Nat → Int} (h : RowIn w v n f) (hb : Below w.heap.size w w') : RowIn w' v n f := by
  rcases h with h | ⟨ad, cp, e, hc⟩
  · exact .inl h
  · refine .inr ⟨ad, cp, e, fun h0 => ?_⟩
    obtain ⟨b, o, e1, hlt, hcell⟩ := hc h0
    exact ⟨b, o, e1, Nat.lt_of_lt_of_le hlt hb.size, fun k hk => by rw [hb.cell (p := ⟨b, o + k, none⟩) hlt]; exact hcell k hk⟩

/-- all that the law is handed -/
structure LPre (w : World) (l0 l1 l2 l3 l4 l5 l6 l7 : Nat) (a0 a1 a2 a3 a4 a5 a6 a7 : Option Addr) (k0 k1 k2 k3 k4 k5 k6 k7 : Nat) (thr rev mc ms F L sp : Nat → Int) (r : Nat → Value) (ln : Nat → Nat) (nd : Nat → Nat → Int) : Prop where
  i0 : RowIn w (.slice a0 l0 k0) l0 thr
  i1 : RowIn w (.slice a1 l1 k1) l1 rev
  i2 : RowIn w (.slice a2 l2 k2) l2 mc
  i3 : RowIn w (.slice a3 l3 k3) l3 ms
  i4 : RowIn w (.slice a4 l4 k4) l4 F
  i5 : RowIn w (.slice a5 l5 k5) l5 L
  i7 : RowIn w (.slice a7 l7 k7) l7 sp
  i6 : 0 < l6 → ∃ nb no, a6 = some ⟨nb, no, none⟩ ∧ nb < w.heap.size ∧ ∀ k, k < l6 → w.cell? ⟨nb, no + k, none⟩ = some (r k)
  rows : ∀ k, k < l6 → RowIn w (r k) (ln k) (nd k) ∧ (ln k : Int) ≤ 9223372036854775807
  r0 : ∀ k, k < l0 → -2147483648 ≤ thr k ∧ thr k ≤ 2147483647
  r1 : ∀ k, k < l1 → -2147483648 ≤ rev k ∧ rev k ≤ 2147483647
  r2 : ∀ k, k < l2 → -2147483648 ≤ mc k ∧ mc k ≤ 2147483647
  r3 : ∀ k, k < l3 → -2147483648 ≤ ms k ∧ ms k ≤ 2147483647
  r4 : ∀ k, k < l4 → -2147483648 ≤ F k ∧ F k ≤ 2147483647
  r5 : ∀ k, k < l5 → -2147483648 ≤ L k ∧ L k ≤ 2147483647
  r7 : ∀ k, k < l7 → -2147483648 ≤ sp k ∧ sp k ≤ 2147483647
  r6 : ∀ k j, k < l6 → j < ln k → -2147483648 ≤ nd k j ∧ nd k j ≤ 2147483647
  m0 : (l0 : Int) ≤ 9223372036854775807
  m1 : (l1 : Int) ≤ 9223372036854775807
  m2 : (l2 : Int) ≤ 9223372036854775807
  m3 : (l3 : Int) ≤ 9223372036854775807
  m4 : (l4 : Int) ≤ 9223372036854775807
  m5 : (l5 : Int) ≤ 9223372036854775807
  m6 : (l6 : Int) ≤ 9223372036854775807
  m7 : (l7 : Int) ≤ 9223372036854775807

theorem hret3 (w : World) {a' : Act} {w' : World} (h1 : Below w.heap.size w w') (h2 : a'.defers = []) (h3 : a'.tmps[20]? = some (.bool true)) :
    bodyPost Try.prog Try.f3 (fun e w' => e = .returned (.bool true) ∧ Below w.heap.size w w') .ret a' w' := by
  refine ⟨h2, .bool true, ?_, rfl, h1⟩
  rw [results_tmp (t := 20) rfl]
  simp [h3]

set_option maxRecDepth 1000000 in
set_option maxHeartbeats 4000000 in
theorem law_any (w : World) (l0 l1 l2 l3 l4 l5 l6 l7 : Nat) (a0 a1 a2 a3 a4 a5 a6 a7 : Option Addr) (k0 k1 k2 k3 k4 k5 k6 k7 : Nat) (thr rev mc ms F L sp : Nat → Int) (r : Nat → Value) (ln : Nat → Nat) (nd : Nat → Nat → Int) (cl v : Int)
    (h : LPre w l0 l1 l2 l3 l4 l5 l6 l7 a0 a1 a2 a3 a4 a5 a6 a7 k0 k1 k2 k3 k4 k5 k6 k7 thr rev mc ms F L sp r ln nd) (hv0 : -2147483648 ≤ v) (hv1 : v ≤ 2147483647) :
    Calls Try.prog 3 #[.slice a0 l0 k0, .slice a1 l1 k1, .slice a2 l2 k2, .slice a3 l3 k3, .slice a4 l4 k4, .slice a5 l5 k5, .slice a6 l6 k6, .slice a7 l7 k7, .int .i64 cl, .int .i32 v] w fun e w' => e = .returned (.bool true) ∧ Below w.heap.size w w' := by
  have HH := Lib.hid h
  have hsl : ∀ k, ∃ p : Option Addr × Nat, k < l6 → r k = .slice p.1 (ln k) p.2 := fun k => by
    by_cases hk : k < l6
    · obtain ⟨a, c, e, _⟩ := (h.rows k hk).1.i32
      exact ⟨(a, c), fun _ => e⟩
    · exact ⟨(none, 0), fun h => absurd h hk⟩
  obtain ⟨pr, hpr⟩ := Classical.skolem.1 hsl
  have hby := bytes_any w a0 a1 a2 a3 a4 a5 a6 a7 l0 l1 l2 l3 l4 l5 l6 l7 k0 k1 k2 k3 k4 k5 k6 k7 cl v (fun k => (pr k).1) ln (fun k => (pr k).2) h.m0 h.m1 h.m2 h.m3 h.m4 h.m5 h.m6 h.m7 (fun h0 => by
    obtain ⟨nb, no, e, _, hc⟩ := h.i6 h0
    exact ⟨nb, no, e, fun k hk => ⟨by rw [hc k hk, hpr k hk], (h.rows k hk).2⟩⟩)
  have m0 := h.m0
  have m1 := h.m1
  have m2 := h.m2
  have m3 := h.m3
  have m4 := h.m4
  have m5 := h.m5
  have m6 := h.m6
  have m7 := h.m7
  have HBY := Lib.hid hby
  clear h hsl hpr hby
  go_enter Try.func3, Try.ntmps3
  go_wp2_with (go_at_call 4; refine (HBY.out).mono ?_; intro e w1 hw; obtain ⟨hw1, he⟩ := hw; subst w1; rcases he with he | he <;> subst he <;> refine Hid.out ?_)
  · refine Lib.hid ?_
    go_wp2
    go_ret
    exact ⟨rfl, Below.refl _ _⟩
  refine Lib.hid ?_
  by_cases t0 : 65536 < (l0 : Int)
  · go_wp2
    go_ret
    exact ⟨rfl, Below.refl _ _⟩
  have n0 : (l0 : Int) ≤ 65536 := by omega
  clear m0
  by_cases t1 : 65536 < (l1 : Int)
  · go_wp2
    go_ret
    exact ⟨rfl, Below.refl _ _⟩
  have n1 : (l1 : Int) ≤ 65536 := by omega
  clear m1
  by_cases t2 : 65536 < (l2 : Int)
  · go_wp2
    go_ret
    exact ⟨rfl, Below.refl _ _⟩
  have n2 : (l2 : Int) ≤ 65536 := by omega
  clear m2
  by_cases t3 : 65536 < (l3 : Int)
  · go_wp2
    go_ret
    exact ⟨rfl, Below.refl _ _⟩
  have n3 : (l3 : Int) ≤ 65536 := by omega
  clear m3
  by_cases t4 : 65536 < (l4 : Int)
  · go_wp2
    go_ret
    exact ⟨rfl, Below.refl _ _⟩
  have n4 : (l4 : Int) ≤ 65536 := by omega
  clear m4
  by_cases t5 : 65536 < (l5 : Int)
  · go_wp2
    go_ret
    exact ⟨rfl, Below.refl _ _⟩
  have n5 : (l5 : Int) ≤ 65536 := by omega
  clear m5
  by_cases t6 : 65536 < (l6 : Int)
  · go_wp2
    go_ret
    exact ⟨rfl, Below.refl _ _⟩
  have n6 : (l6 : Int) ≤ 65536 := by omega
  clear m6
  by_cases t7 : 65536 < (l7 : Int)
  · go_wp2
    go_ret
    exact ⟨rfl, Below.refl _ _⟩
  have n7 : (l7 : Int) ≤ 65536 := by omega
  clear m7
  have hret : Hid (∀ (a' : Act) (w' : World), Below w.heap.size w w' → a'.defers = [] → a'.tmps[20]? = some (.bool true) → bodyPost Try.prog Try.f3 (fun e w' => e = .returned (.bool true) ∧ Below w.heap.size w w') .ret a' w') := fun a' w' h1 h2 h3 => hret3 w h1 h2 h3
  have q0 := neq_nil22 w a0 l0 k0
  go_upto_if 113 with fail
  refine copy_if0 w a0 l0 k0 thr _ n0 HH.out.i0 ?_
  refine Lib.hid ?_
  intros
  rename_i x0 w0 hB hC
  clear q0
  have HB0 := Lib.hid hB
  have HC0 := Lib.hid hC
  clear hB hC
  have q1 := neq_nil22 w0 a1 l1 k1
  go_upto_if 122 with fail
  refine copy_if1 w0 a1 l1 k1 rev _ n1 (RowIn.after HH.out.i1 HB0.out) ?_
  refine Lib.hid ?_
  intros
  rename_i x1 w1 hB hC
  clear q1
  have HB1 := Lib.hid (HB0.out.trans (hB.mono HB0.out.size))
  replace HC0 := Lib.hid (HC0.out.after hB)
  have HC1 := Lib.hid hC
  clear hB hC
  have q2 := neq_nil22 w1 a2 l2 k2
  go_upto_if 131 with fail
  refine copy_if2 w1 a2 l2 k2 mc _ n2 (RowIn.after HH.out.i2 HB1.out) ?_
  refine Lib.hid ?_
  intros
  rename_i x2 w2 hB hC
  clear q2
  have HB2 := Lib.hid (HB1.out.trans (hB.mono HB1.out.size))
  replace HC0 := Lib.hid (HC0.out.after hB)
  replace HC1 := Lib.hid (HC1.out.after hB)
  have HC2 := Lib.hid hC
  clear hB hC
  have q3 := neq_nil22 w2 a3 l3 k3
  go_upto_if 140 with fail
  refine copy_if3 w2 a3 l3 k3 ms _ n3 (RowIn.after HH.out.i3 HB2.out) ?_
  refine Lib.hid ?_
  intros
  rename_i x3 w3 hB hC
  clear q3
  have HB3 := Lib.hid (HB2.out.trans (hB.mono HB2.out.size))
  replace HC0 := Lib.hid (HC0.out.after hB)
  replace HC1 := Lib.hid (HC1.out.after hB)
  replace HC2 := Lib.hid (HC2.out.after hB)
  have HC3 := Lib.hid hC
  clear hB hC
  have q4 := neq_nil22 w3 a4 l4 k4
  go_upto_if 149 with fail
  refine copy_if4 w3 a4 l4 k4 F _ n4 (RowIn.after HH.out.i4 HB3.out) ?_
  refine Lib.hid ?_
  intros
  rename_i x4 w4 hB hC
  clear q4
  have HB4 := Lib.hid (HB3.out.trans (hB.mono HB3.out.size))
  replace HC0 := Lib.hid (HC0.out.after hB)
  replace HC1 := Lib.hid (HC1.out.after hB)
  replace HC2 := Lib.hid (HC2.out.after hB)
  replace HC3 := Lib.hid (HC3.out.after hB)
  have HC4 := Lib.hid hC
  clear hB hC
  have q5 := neq_nil22 w4 a5 l5 k5
  go_upto_if 158 with fail
  refine copy_if5 w4 a5 l5 k5 L _ n5 (RowIn.after HH.out.i5 HB4.out) ?_
  refine Lib.hid ?_
  intros
  rename_i x5 w5 hB hC
  clear q5
  have HB5 := Lib.hid (HB4.out.trans (hB.mono HB4.out.size))
  replace HC0 := Lib.hid (HC0.out.after hB)
  replace HC1 := Lib.hid (HC1.out.after hB)
  replace HC2 := Lib.hid (HC2.out.after hB)
  replace HC3 := Lib.hid (HC3.out.after hB)
  replace HC4 := Lib.hid (HC4.out.after hB)
  have HC5 := Lib.hid hC
  clear hB hC
  have q7 := neq_nil22 w5 a7 l7 k7
  go_upto_if 167 with fail
  refine copy_if7 w5 a7 l7 k7 sp _ n7 (RowIn.after HH.out.i7 HB5.out) ?_
  refine Lib.hid ?_
  intros
  rename_i x7 w7 hB hC
  clear q7
  have HB7 := Lib.hid (HB5.out.trans (hB.mono HB5.out.size))
  replace HC0 := Lib.hid (HC0.out.after hB)
  replace HC1 := Lib.hid (HC1.out.after hB)
  replace HC2 := Lib.hid (HC2.out.after hB)
  replace HC3 := Lib.hid (HC3.out.after hB)
  replace HC4 := Lib.hid (HC4.out.after hB)
  replace HC5 := Lib.hid (HC5.out.after hB)
  have HC7 := Lib.hid hC
  clear hB hC
  obtain ⟨b0, d0, e0, -⟩ := HC0.out.i32
  subst x0
  obtain ⟨b1, d1, e1, -⟩ := HC1.out.i32
  subst x1
  obtain ⟨b2, d2, e2, -⟩ := HC2.out.i32
  subst x2
  obtain ⟨b3, d3, e3, -⟩ := HC3.out.i32
  subst x3
  obtain ⟨b4, d4, e4, -⟩ := HC4.out.i32
  subst x4
  obtain ⟨b5, d5, e5, -⟩ := HC5.out.i32
  subst x5
  obtain ⟨b7, d7, e7, -⟩ := HC7.out.i32
  subst x7
  have HN7 : Hid (0 < l6 → ∃ nb no, a6 = some ⟨nb, no, none⟩ ∧ nb < w7.heap.size ∧ ∀ k, k < l6 → w7.cell? ⟨nb, no + k, none⟩ = some (r k)) := fun h0 => by
    obtain ⟨nb, no, e, hlt, hc⟩ := HH.out.i6 h0
    exact ⟨nb, no, e, Nat.lt_of_lt_of_le hlt HB7.out.size, fun k hk => by rw [HB7.out.cell (p := ⟨nb, no + k, none⟩) hlt]; exact hc k hk⟩
  have HR7 : Hid (∀ k, k < l6 → RowIn w7 (r k) (ln k) (nd k) ∧ (ln k : Int) ≤ 9223372036854775807) := fun k hk => ⟨RowIn.after (HH.out.rows k hk).1 HB7.out, (HH.out.rows k hk).2⟩
  clear t0 t1 t2 t3 t4 t5 t6 t7 HB0 HB1 HB2 HB3 HB4 HB5 HBY
  by_cases tot : 1048576 < 8 * ((l0 : Int) + l1 + l2 + l3 + l4 + l5 + l6 + l7)
  · go_wp2
    go_ret
    exact ⟨rfl, HB7.out⟩
  go_wp2
  refine law_loop1 w7 l6 k6 _ a6 r ln nd _ HN7 HR7 n6 (by omega) (by omega) ?_ ?_
  · exact Lib.hid (fun a' w' h1 h2 h3 => hret.out a' w' (by rw [h1]; exact HB7.out) h2 h3)
  refine Lib.hid ?_
  intros
  rename_i hlnk
  have HLN := Lib.hid hlnk
  clear hlnk tot
  by_cases he : ¬ (l0 ≠ 0 ∧ l1 = l0 ∧ l2 = l0 ∧ l3 = l0 ∧ l5 = l4 ∧ l6 = l4)
  · have HW := Lib.hid (wf_neq w7 l0 l1 l2 l3 l4 l5 l6 b0 b1 b2 b3 b4 b5 a6 d0 d1 d2 d3 d4 d5 k6 (.slice b7 l7 d7) (.int .i32 v) (by omega))
    clear he
    go_wp2_with (go_at_call 5; refine (HW.out).mono ?_; intro e w' hw; obtain ⟨hw1, he⟩ := hw; subst w'; subst he; refine Hid.out ?_)
    refine Lib.hid ?_
    go_wp2
    go_ret
    exact ⟨rfl, HB7.out⟩
  obtain ⟨h0, e1, e2, e3, e5, e6⟩ := Classical.not_not.1 he
  clear he
  subst l1 l2 l3 l5 l6
  have HW := Lib.hid (wf_any w7 l0 l4 l7 (.slice b0 l0 d0) (.slice b1 l0 d1) (.slice b2 l0 d2) (.slice b3 l0 d3) (.slice b4 l4 d4) (.slice b5 l4 d5) (.slice a6 l4 k6) (.slice b7 l7 d7) thr rev mc ms F L sp r ln nd v
    ⟨HC0.out.i32, HC1.out.i32, HC2.out.i32, HC3.out.i32, HC4.out.i32, HC5.out.i32, ⟨a6, k6, rfl, HN7.out⟩, fun k hk => ⟨(HR7.out k hk).1, HLN.out k hk⟩, HC7.out.i32, ⟨by omega, by omega, by omega⟩, HH.out.r0, HH.out.r2, HH.out.r3, HH.out.r4, HH.out.r5, HH.out.r7, HH.out.r6⟩ hv0 hv1)
  go_wp2_with (go_at_call 5; refine (HW.out).mono ?_; intro e w8 hw; obtain ⟨hb8, he⟩ := hw; rcases he with he | ⟨he, hwf⟩ <;> subst he <;> refine Hid.out ?_)
  · refine Lib.hid ?_
    have HB8 := Lib.hid (HB7.out.trans (hb8.mono HB7.out.size))
    clear hb8
    go_wp2
    go_ret
    exact ⟨rfl, HB8.out⟩
  refine Lib.hid ?_
  obtain ⟨v', c0, ev, hwf⟩ := hwf
  subst v
  obtain ⟨run, pos, hrun, hpos, hrv, hc0⟩ := hwf.toRun
  have HB8 := Lib.hid (HB7.out.trans (hb8.mono HB7.out.size))
  have h1 : 0 < l0 := by omega
  have h2 : 0 < l4 := by omega
  obtain ⟨tb, t1, t2⟩ := (HC0.out.after hb8).row h1
  cases t1
  obtain ⟨rb, t1, t3⟩ := (HC1.out.after hb8).row h1
  cases t1
  obtain ⟨mb, t1, t4⟩ := (HC2.out.after hb8).row h1
  cases t1
  obtain ⟨sb, t1, t5⟩ := (HC3.out.after hb8).row h1
  cases t1
  obtain ⟨fb, t1, t6⟩ := (HC4.out.after hb8).row h2
  cases t1
  obtain ⟨lb, t1, t7⟩ := (HC5.out.after hb8).row h2
  cases t1
  have HT := Lib.hid t2
  have HR := Lib.hid t3
  have HM := Lib.hid t4
  have HS := Lib.hid t5
  have HF := Lib.hid t6
  have HL := Lib.hid t7
  have HSP := Lib.hid (HC7.out.after hb8)
  have HWF := Lib.hid hwf
  have HRUN := Lib.hid hrun
  obtain ⟨nb, no, e6, hnb, hnc⟩ := HH.out.i6 h2
  subst a6
  have HN8 : Hid (∀ k, k < l4 → w8.cell? ⟨nb, no + k, none⟩ = some (r k)) := fun k hk => by rw [HB8.out.cell (p := ⟨nb, no + k, none⟩) hnb]; exact hnc k hk
  have HR8 : Hid (∀ k, k < l4 → RowIn w8 (r k) (ln k) (nd k) ∧ ln k ≤ 1048576) := fun k hk => ⟨RowIn.after (HH.out.rows k hk).1 HB8.out, HLN.out k hk⟩
  have hnb8 : nb < w8.heap.size := Nat.lt_of_lt_of_le hnb HB8.out.size
  have HV := Lib.hid hrv
  clear t2 t3 t4 t5 t6 t7 hwf hrun hnc HC0 HC1 HC2 HC3 HC4 HC5 HC7 hb8 HN7 HR7 HW hrv
  have HCL := Lib.hid (clone_any w8 nb no l4 k6 r ln nd hnb8 HN8.out HR8.out (by omega))
  go_wp2_with (go_at_call 6; refine (HCL.out).mono ?_; intro e w9 hw; obtain ⟨he, N, gb, hcl⟩ := hw; subst he; refine Hid.out ?_)
  refine Lib.hid ?_
  have HC9 := Lib.hid hcl
  have HB9 := Lib.hid (HB8.out.trans (hcl.below.mono HB8.out.size))
  obtain ⟨xa, xc, hx, hxc⟩ := (HR8.out c0 hc0).1.i32
  have hxl : (ln c0 : Int) ≤ 1048576 := by have := (HR8.out c0 hc0).2; omega
  have hvn : v' < l0 := HWF.out.hv
  have hvn' : (v' : Int) < l0 := by omega
  have hc0' : (c0 : Int) < l4 := by omega
  have hmv := HWF.out.hc0
  have hF0 := HRUN.out.first
  have hx0n : run 0 < l0 := HRUN.out.lt 0 (by omega)
  have g1 : w9.cell? ⟨mb, v', none⟩ = some (.int .i32 c0) := by rw [hcl.below.cell (p := ⟨mb, v', none⟩) HM.out.lt, HM.out.cell hvn, hmv]
  have g2 : w9.cell? ⟨nb, no + c0, none⟩ = some (.slice xa (ln c0) xc) := by rw [hcl.below.cell (p := ⟨nb, no + c0, none⟩) hnb8, HN8.out c0 hc0, hx]
  have hmk := run_make0 w9 (ln c0) hxl
  have g3 : (w9.alloc (.cells (madeCells #[.int .i32 0] (ln c0)) 21)).cell? ⟨fb, c0, none⟩ = some (.int .i32 (run 0 : Nat)) := by
    rw [World.cell?_alloc_past _ _ _ (Nat.lt_of_lt_of_le HF.out.lt hcl.below.size), hcl.below.cell (p := ⟨fb, c0, none⟩) HF.out.lt, HF.out.cell hc0, hF0]
  have HX := Lib.hid hx
  have HT9 : Hid (w9.rowIs tb 21 l0 (fun j => .int .i32 (thr j))) := HT.out.of_block (hcl.below.block _ HT.out.lt)
  clear hcl hmv hF0 hx hxc HCL
  go_wp2
  refine law_loop2 w9 _ l0 (ln c0) xc tb w9.heap.size (run 0) xa thr run _ HT9.out (Lib.hid fun k hk => by obtain ⟨t, a, b, _⟩ := HWF.out.hthr k hk; exact ⟨t, a, b⟩) (Lib.hid HRUN.out.lt) (Lib.hid HRUN.out.next) hxl rfl hx0n ((Below.refl _ _).alloc (Nat.le_refl _) _) rfl (own_made0 w9 (ln c0) (by omega)) ?_
  refine Lib.hid ?_
  intros
  rename_i w10 hb10 hrow
  have HB10 := Lib.hid hb10
  have HG := Lib.hid hrow
  clear g1 g2 g3 hmk hb10 hrow
  go_wp2
  refine law_loop3 w10 (ln c0) w9.heap.size v' pos run _ HG.out (Lib.hid HRUN.out.inj) hpos HV.out hxl (Lib.hid fun j hj => by have := HRUN.out.lt j hj; omega) ?_
  refine Lib.hid ?_
  intros
  obtain ⟨gb', hz⟩ := zpre HWF.out HRUN.out hc0 HT.out HR.out HM.out HS.out HF.out HL.out HSP.out HC9.out HB10.out HLN.out (by omega) (by omega) (by omega)
  have HZ := Lib.hid (zzcut_any w10 l0 l4 _ cl mc ms F L N w8.heap.size l7 sp ln nd gb' thr rev tb rb mb sb fb lb w8.heap.size (ln c0) c0 pos run hz hpos)
  clear hz
  rw [HV.out] at HZ
  go_upto_region 67 with (go_at_call 7; refine (HZ.out).mono ?_; intro e wz hw; obtain ⟨v1, v2, v3, v4, v5, sv', cl', he, hw⟩ := hw; subst he; refine Hid.out ?_)
  refine Lib.hid ?_
  obtain ⟨w4, w5, S, M, C, C', nc', cap', mc', ms', F', L', N', hz⟩ := hw
  have h810 : Below w8.heap.size w8 w10 := HC9.out.below.trans (HB10.out.mono HC9.out.below.size)
  have hcut := hz.cut
  have H810 := Lib.hid h810
  have HCUT := Lib.hid hcut
  have HZD := Lib.hid hz
  clear hz hcut h810 HZ
  go_upto_region 67 with fail
  have hcut := HCUT.out
  clear HCUT
  cases hcut with
  | first q h0 hw5 =>
    have hz := HZD.out
    have h10z : Below w10.heap.size w10 wz := by
      have h45 : Below w10.heap.size w10 w5 := by rw [hw5]; exact ⟨hz.b4.os, hz.b4.tape, hz.b4.output, hz.b4.size, hz.b4.block⟩
      exact h45.trans (hz.b5.mono h45.size)
    have h8z : Below w8.heap.size w8 wz := H810.out.trans (h10z.mono H810.out.size)
    obtain ⟨a1, j1, f1, _⟩ := id hz.r1
    obtain ⟨a2, j2, f2, _⟩ := id hz.r2
    obtain ⟨a3, j3, f3, _⟩ := id hz.r3
    obtain ⟨a4, j4, f4, _⟩ := id hz.r4
    obtain ⟨a5, j5, f5, _⟩ := id hz.r5
    subst v1 v2 v3 v4 v5
    have hp0 : ((pos : Nat) : Int) = 0 := by omega
    rw [hp0]
    refine law_first wz w l0 l4 l7 (some ⟨mb, 0, none⟩) (some ⟨sb, 0, none⟩) (some ⟨fb, 0, none⟩) (some ⟨lb, 0, none⟩) (some ⟨nb, no, none⟩) b7 a1 a2 a3 a4 a5 b7 l0 l0 l4 l4 k6 d7 j1 j2 j3 j4 j5 d7 mc ms F L sp r N ln nd cl _ _ _ ?_ ?_ hz.r1 hz.r2 hz.r3 hz.r4 hz.r5 (HSP.out.i32.after h8z) ((row_i32 HM.out).after h8z) ((row_i32 HS.out).after h8z) ((row_i32 HF.out).after h8z) ((row_i32 HL.out).after h8z) ⟨_, _, rfl, fun _ => ⟨nb, no, rfl, Nat.lt_of_lt_of_le hnb8 h8z.size, fun k hk => by rw [h8z.cell (p := ⟨nb, no + k, none⟩) hnb8]; exact HN8.out k hk⟩⟩ (HSP.out.i32.after h8z) (fun k hk => ?_) n0 n4 n7 (HB8.out.trans (h8z.mono HB8.out.size)) ?_
    · assumption
    · assumption
    · refine ⟨?_, ((HR8.out k hk).1.i32).after h8z, by have := (HR8.out k hk).2; omega⟩
      rcases hz.pre.lists.row k hk with ⟨z0, z1⟩ | ⟨z1, z2, z3⟩
      · exact ⟨none, 0, by rw [z1, z0], fun hp => absurd hp (by omega)⟩
      · have g5 : w5.rowIs (gb' k) 21 (ln k) (fun j => .int .i32 (nd k j)) := by rw [hw5]; exact z3
        have gz : wz.rowIs (gb' k) 21 (ln k) (fun j => .int .i32 (nd k j)) := g5.of_block (hz.b5.block _ g5.lt)
        rw [z1]
        exact row_i32 gz
    · exact Lib.hid (fun a' w' h1 h2 h3 => hret.out a' w' h1 h2 h3)
  | done s0 m d nc' C' cap' sv' mc' ms' F' L' lst' N' h0 hcd =>
    obtain ⟨a1, a2, a3, a4, a5, a7, j1, j2, j3, j4, j5, j7, m1, t1, f1, f2, f3, f4, f5, f7, fm, hspare, hd7, h8z, hq⟩ := qpre_of (k6 := k6) HZD.out hcd h0 hpos HC9.out HB10.out HM.out HS.out HF.out HL.out HSP.out hnb8 HN8.out HR8.out HG.out (by omega)
    subst v1 v2 v3 v4 v5 sv' m
    rw [show ((m1 + 1 : Nat) : Int) = (m1 : Int) + 1 by omega]
    have hBz := HB8.out.trans (h8z.mono HB8.out.size)
    rcases hq with ⟨g1, g2, g3, hq⟩ | ⟨g1, g2, g3, hq⟩
    · rw [show ((pos : Nat) : Int) = (t1 : Int) + 1 by omega]
      rw [g1] at hq
      rw [g1]
      refine law_pa wz w l0 l4 l7 (l7 - 1) nc' m1 t1 d c0 w9.heap.size (gb' c0) _ (some ⟨mb, 0, none⟩) (some ⟨sb, 0, none⟩) (some ⟨fb, 0, none⟩) (some ⟨lb, 0, none⟩) (some ⟨nb, no, none⟩) b7 a1 a2 a3 a4 a5 a7 l0 l0 l4 l4 k6 d7 j1 j2 j3 j4 j5 j7 mc ms F L mc' ms' F' L' sp lst' r N' ln nd run cl _ _ _ ?_ ?_ hq g3 hd7 hspare hBz ?_
      · assumption
      · assumption
      · exact Lib.hid (fun a' w' h1 h2 h3 => hret.out a' w' h1 h2 h3)
    · rw [show ((pos : Nat) : Int) = (m1 : Int) + 1 by omega]
      rw [g1] at hq
      rw [g1]
      refine law_pb wz w l0 l4 l7 (l7 - 1) nc' m1 t1 d c0 w9.heap.size (gb' c0) _ (some ⟨mb, 0, none⟩) (some ⟨sb, 0, none⟩) (some ⟨fb, 0, none⟩) (some ⟨lb, 0, none⟩) (some ⟨nb, no, none⟩) b7 a1 a2 a3 a4 a5 a7 l0 l0 l4 l4 k6 d7 j1 j2 j3 j4 j5 j7 mc ms F L mc' ms' F' L' sp lst' r N' ln nd run cl _ _ _ ?_ ?_ hq g3 hd7 hspare hBz ?_
      · assumption
      · assumption
      · exact Lib.hid (fun a' w' h1 h2 h3 => hret.out a' w' h1 h2 h3)
end Go.Proofs.Qxb6623286a
