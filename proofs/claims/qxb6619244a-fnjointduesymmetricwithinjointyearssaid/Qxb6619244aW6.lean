import Derived.Test.Qxb6619244aW4
namespace Go.Proofs.Qxb6619244a
open Go.RowKit
open Fl

set_option maxRecDepth 100000 in
set_option maxHeartbeats 400000 in
theorem sym_long (mA x y : Int) (v : Nat) (a : Option Addr) (n cap : Nat) (w : World) (hn : 65536 < n) (hm : n ≤ 9223372036854775807) :
    Calls Try.prog 4 #[.int .i64 mA, .float .f64 v, .slice a n cap, .int .i64 x, .int .i64 y] w fun e w' => e = .returned (.bool true) ∧ Below w.heap.size w w' := by
  have h1 : (65536 : Int) < n := by omega
  by_cases h2 : n ≤ 1048576
  · have h3 : ¬ (1048576 : Int) < n := by omega
    go_enter Try.func4, Try.ntmps4
    go_wp2
    go_ret
    exact ⟨rfl, Below.refl _ _⟩
  · have h3 : (1048576 : Int) < n := by omega
    go_enter Try.func4, Try.ntmps4
    go_wp2
    go_ret
    exact ⟨rfl, Below.refl _ _⟩

set_option maxRecDepth 100000 in
set_option maxHeartbeats 400000 in
theorem sym_noV (mA x y : Int) (v : Nat) (a : Option Addr) (n cap : Nat) (w : World) (hn : n ≤ 65536)
    (hv : ((ord v 0 == some .gt || ord v 0 == some .eq) && (ord v oneW == some .lt || ord v oneW == some .eq)) = false) :
    Calls Try.prog 4 #[.int .i64 mA, .float .f64 v, .slice a n cap, .int .i64 x, .int .i64 y] w fun e w' => e = .returned (.bool true) ∧ Below w.heap.size w w' := by
  have h1 : ¬ (65536 : Int) < n := by omega
  have h3 : ¬ (1048576 : Int) < n := by omega
  by_cases t1 : (FloatKind.f64.format.order v 0 == some .gt || FloatKind.f64.format.order v 0 == some .eq) = true
  · have t2 : (FloatKind.f64.format.order v 4607182418800017408 == some .lt || FloatKind.f64.format.order v 4607182418800017408 == some .eq) = false := by
      have : (ord v 0 == some .gt || ord v 0 == some .eq) = true := t1
      rw [this, Bool.true_and] at hv; exact hv
    clear hv
    go_enter Try.func4, Try.ntmps4
    go_wp2
    go_ret
    exact ⟨rfl, Below.refl _ _⟩
  · replace t1 : (FloatKind.f64.format.order v 0 == some .gt || FloatKind.f64.format.order v 0 == some .eq) = false := by simpa using t1
    clear hv
    go_enter Try.func4, Try.ntmps4
    go_wp2
    go_ret
    exact ⟨rfl, Below.refl _ _⟩

set_option maxRecDepth 100000 in
set_option maxHeartbeats 400000 in
theorem sym_short (mA x y : Int) (v : Nat) (a : Option Addr) (n cap : Nat) (w : World) (hn : n < 2)
    (t1 : (ord v 0 == some .gt || ord v 0 == some .eq) = true) (t2 : (ord v oneW == some .lt || ord v oneW == some .eq) = true) :
    Calls Try.prog 4 #[.int .i64 mA, .float .f64 v, .slice a n cap, .int .i64 x, .int .i64 y] w fun e w' => e = .returned (.bool true) ∧ Below w.heap.size w w' := by
  have h1 : ¬ (65536 : Int) < n := by omega
  have h3 : ¬ (1048576 : Int) < n := by omega
  replace t1 : (FloatKind.f64.format.order v 0 == some .gt || FloatKind.f64.format.order v 0 == some .eq) = true := t1
  replace t2 : (FloatKind.f64.format.order v 4607182418800017408 == some .lt || FloatKind.f64.format.order v 4607182418800017408 == some .eq) = true := t2
  go_enter Try.func4, Try.ntmps4
  go_wp2_with (first | (go_at_call 6; refine (surv_short _ _ _ _ hn).mono ?_; rintro e w' ⟨rfl, rfl⟩) | go_in)
  go_ret
  exact ⟨rfl, Below.refl _ _⟩

/-! the count -/
theorem gt_iff {a : Nat} (f : Fl.Fin a) : (FloatKind.f64.format.order a 0 == some .gt) = true ↔ 0 < val a := by
  refine ⟨pos_of f, fun h => ?_⟩
  have o : FloatKind.f64.format.order a 0 = _ := order_fin f zero_fin
  rw [o, zero_val, if_neg (by grind), if_neg (by grind)]; rfl
theorem cnt_yes {L : Nat → Nat} {i j k : Nat} (f : Fl.Fin (L (i + k))) (g : Fl.Fin (L (j + k))) (h1 : (FloatKind.f64.format.order (L (i + k)) 0 == some .gt) = true) (h2 : (FloatKind.f64.format.order (L (j + k)) 0 == some .gt) = true) :
    cnt L i j (k + 1) = cnt L i j k + 1 := by
  simp only [cnt]; rw [if_pos ⟨(gt_iff f).1 h1, (gt_iff g).1 h2⟩]
theorem cnt_no {L : Nat → Nat} {i j k : Nat} (f : Fl.Fin (L (i + k))) (g : Fl.Fin (L (j + k))) (h : (FloatKind.f64.format.order (L (i + k)) 0 == some .gt) = false ∨ (FloatKind.f64.format.order (L (j + k)) 0 == some .gt) = false) :
    cnt L i j (k + 1) = cnt L i j k := by
  have hno : ¬ (0 < val (L (i + k)) ∧ 0 < val (L (j + k))) := by
    rintro ⟨a, b⟩
    rcases h with h | h
    · rw [(gt_iff f).2 a] at h; exact absurd h (by decide)
    · rw [(gt_iff g).2 b] at h; exact absurd h (by decide)
  simp only [cnt]; rw [if_neg hno, Nat.add_zero]
theorem cnt_comm (L : Nat → Nat) (i j k : Nat) : cnt L i j k = cnt L j i k := by
  induction k with
  | zero => rfl
  | succ k ih =>
    simp only [cnt]; rw [ih]
    congr 1
    by_cases h : 0 < val (L (i + k)) ∧ 0 < val (L (j + k))
    · rw [if_pos h, if_pos ⟨h.2, h.1⟩]
    · rw [if_neg h, if_neg (fun q => h ⟨q.2, q.1⟩)]
theorem float_nat (c : Nat) : floatOfInt .f64 (c : Int) = natW c := by
  have h : decide ((c : Int) < 0) = false := decide_eq_false (by omega)
  show Ieee.double.nearest (decide ((c : Int) < 0)) (c : Int).natAbs 0 = Ieee.double.nearest false c 0
  rw [h, Int.natAbs_natCast]
theorem le_count {L : Nat → Nat} {v n i j : Nat} (D : Dom L v n i j) (K : Nat) (hi : i + K ≤ n) (hj : j + K ≤ n) :
    (FloatKind.f64.format.order (smW L v i j K) (floatOfInt .f64 (cnt L i j K : Int)) == some .lt || FloatKind.f64.format.order (smW L v i j K) (floatOfInt .f64 (cnt L i j K : Int)) == some .eq) = true := by
  obtain ⟨f, -, h, -⟩ := sm_ok D K hi hj
  obtain ⟨nf, nv⟩ := nat_ok (cnt L i j K) (by have := cnt_le L i j K; have := D.nn; omega)
  rw [float_nat]
  exact le_ok f nf (by rw [nv]; exact h)

set_option maxRecDepth 100000 in
set_option maxHeartbeats 1000000 in
theorem sym_main (mA x y : Int) (v : Nat) (L : Nat → Nat) (lb lo n cap : Nat) (w : World) (hn2 : 2 ≤ n) (hn : n ≤ 65536)
    (t1 : (ord v 0 == some .gt || ord v 0 == some .eq) = true) (t2 : (ord v oneW == some .lt || ord v oneW == some .eq) = true)
    (wm : (Lit.int .i64 mA).wf = true) (wx : (Lit.int .i64 x).wf = true) (wy : (Lit.int .i64 y).wf = true)
    (hb : lb < w.heap.size) (hl : ∀ k, k < n → w.cell? ⟨lb, lo + k, none⟩ = some (.float .f64 (L k))) :
    Calls Try.prog 4 #[.int .i64 mA, .float .f64 v, .slice (some ⟨lb, lo, none⟩) n cap, .int .i64 x, .int .i64 y] w fun e w' => e = .returned (.bool true) ∧ Below w.heap.size w w' := by
  have h1 : ¬ (65536 : Int) < n := by omega
  have h3 : ¬ (1048576 : Int) < n := by omega
  replace t1 : (FloatKind.f64.format.order v 0 == some .gt || FloatKind.f64.format.order v 0 == some .eq) = true := t1
  replace t2 : (FloatKind.f64.format.order v 4607182418800017408 == some .lt || FloatKind.f64.format.order v 4607182418800017408 == some .eq) = true := t2
  have hmk := run_make_row' (P := Try.prog) 23 22 (.float .f64 0) 8 Try.underlying23 Try.info22 rfl .i64 .i64 n (by omega) (by omega)
  obtain ⟨W2, hcp, hB2, hS2, hc2⟩ := copy_ok w L n cap lb lo hb hl
  have HC : Hid (∀ k, k < n → W2.cell? ⟨w.heap.size, 0 + k, none⟩ = some (.float .f64 (L k))) := hc2
  have HV : Hid (Fl.Fin v ∧ 0 ≤ val v ∧ val v ≤ 1) := unit_fin v t1 t2
  have HL : Hid (∀ k, k < n → w.cell? ⟨lb, lo + k, none⟩ = some (.float .f64 (L k))) := hl
  clear hl hc2
  go_enter Try.func4, Try.ntmps4
  go_wp2_with (first | (go_at_call 10; go_in) | fail)
  refine (surv_any L n cap lb lo _ hn2 hn HL.out).mono ?_
  rintro e w' ⟨rfl, rfl | ⟨rfl, hg⟩⟩
  · go_wp2
    go_ret
    exact ⟨rfl, Below.refl _ _⟩
  have HG : Hid (Good L n) := hg
  clear hg
  go_wp2_with fail
  refine (age_any mA x n _ hn2 hn wm wx).mono ?_
  rintro e W3 ⟨rfl, rfl | ⟨i, hi, rfl, rfl⟩⟩
  · go_wp2_with fail
    refine (age_any mA y n _ hn2 hn wm wy).mono ?_
    rintro e W4 ⟨rfl, rfl | ⟨j, hj, rfl, rfl⟩⟩
    all_goals
      go_wp2
      go_ret
      exact ⟨rfl, hB2⟩
  go_wp2_with fail
  refine (age_any mA y n _ hn2 hn wm wy).mono ?_
  rintro e W4 ⟨rfl, rfl | ⟨j, hj, rfl, rfl⟩⟩
  · go_wp2
    go_ret
    exact ⟨rfl, hB2⟩
  have ci := HC.out i (by omega)
  have cj := HC.out j (by omega)
  rw [Nat.zero_add] at ci cj
  have bi : (i : Int) < n := by omega
  have bj : (j : Int) < n := by omega
  by_cases p1 : (FloatKind.f64.format.order (L i) 0 == some .gt) = true
  case neg =>
    replace p1 : (FloatKind.f64.format.order (L i) 0 == some .gt) = false := by simpa using p1
    go_wp2
    go_ret
    exact ⟨rfl, hB2⟩
  by_cases p2 : (FloatKind.f64.format.order (L j) 0 == some .gt) = true
  case neg =>
    replace p2 : (FloatKind.f64.format.order (L j) 0 == some .gt) = false := by simpa using p2
    go_wp2
    go_ret
    exact ⟨rfl, hB2⟩
  have HD : Hid (Dom L v n i j) := dom_of HG.out HV.out (by omega) (by omega) (pos_of (HG.out.1 i (by omega)).1 p1) (pos_of (HG.out.1 j (by omega)).1 p2) hn
  have hB2' : Hid (Below w'.heap.size w' W4) := hB2
  clear hcp hmk HL wx wy wm t1 t2 hB2
  go_wp2
  clear ci cj p1 p2
  go_loop [17, 18] (fun m k => ∃ c : Nat, c ≤ n - max i j ∧ k = .int .i64 c ∧ m = .int .i64 (cnt L i j c)) (fun _ k => n - (intOf k).toNat)
  case atStart => exact ⟨0, Nat.zero_le _, rfl, rfl⟩
  case round =>
    obtain ⟨c, hc, rfl, rfl⟩ := hrel
    have hcn := cnt_le L i j c
    by_cases hlt : c < n - max i j
    · have k1 : i + c < n := by omega
      have k2 : j + c < n := by omega
      have g1 := HC.out (i + c) k1
      have g2 := HC.out (j + c) k2
      rw [Nat.zero_add] at g1 g2
      have b1 : (i : Int) + c < n := by omega
      have b2 : (j : Int) + c < n := by omega
      by_cases z1 : (FloatKind.f64.format.order (L (i + c)) 0 == some .gt) = true
      · by_cases z2 : (FloatKind.f64.format.order (L (j + c)) 0 == some .gt) = true
        · have E : Hid (cnt L i j (c + 1) = cnt L i j c + 1) := cnt_yes (HG.out.1 _ k1).1 (HG.out.1 _ k2).1 z1 z2
          go_wp2
          go_round
          case rel => exact ⟨c + 1, by omega, by go_num, by rw [E.out]; go_num⟩
          case measure => simp [intOf]; omega
        · replace z2 : (FloatKind.f64.format.order (L (j + c)) 0 == some .gt) = false := by simpa using z2
          have E : Hid (cnt L i j (c + 1) = cnt L i j c) := cnt_no (HG.out.1 _ k1).1 (HG.out.1 _ k2).1 (.inr z2)
          go_wp2
          go_round
          case rel => exact ⟨c + 1, by omega, by go_num, by rw [E.out]⟩
          case measure => simp [intOf]; omega
      · replace z1 : (FloatKind.f64.format.order (L (i + c)) 0 == some .gt) = false := by simpa using z1
        have E : Hid (cnt L i j (c + 1) = cnt L i j c) := cnt_no (HG.out.1 _ k1).1 (HG.out.1 _ k2).1 (.inl z1)
        go_wp2
        go_round
        case rel => exact ⟨c + 1, by omega, by go_num, by rw [E.out]⟩
        case measure => simp [intOf]; omega
    · have ec : c = n - max i j := by omega
      have b12 : ¬ ((i : Int) + c < n) ∨ (i : Int) + c < n ∧ ¬ ((j : Int) + c < n) := by omega
      have hiK : i + c ≤ n := by omega
      have hjK : j + c ≤ n := by omega
      have hK : 0 < c := by omega
      have HK : Hid (n - max i j = c ∧ n - max j i = c) := ⟨by omega, by omega⟩
      clear ec hlt
      rcases b12 with b1 | ⟨b1, b2⟩
      all_goals
        go_wp2_with fail
        have z := zzjoint_any L v n i j n (mA + i) (mA + j) mA w'.heap.size 0 _ HD.out (wrap_back mA i (by omega)) (wrap_back mA j (by omega)) hS2 HC.out
        rw [HK.out.1] at z
        refine z.mono ?_
        clear z
        rintro e W5 ⟨rfl, hB5⟩
        have C5 : Hid (∀ k, k < n → W5.cell? ⟨w'.heap.size, 0 + k, none⟩ = some (.float .f64 (L k))) := fun k hk => by
          rw [hB5.cell (p := ⟨w'.heap.size, 0 + k, none⟩) hS2]; exact HC.out k hk
        have HB : Hid (Below w'.heap.size w' W5) := hB2'.out.trans (hB5.mono (Nat.le_of_lt hS2))
        have hS5 : w'.heap.size < W5.heap.size := Nat.lt_of_lt_of_le hS2 hB5.size
        clear hB5
        go_wp2_with fail
        have z := zzjoint_any L v n j i n (mA + j) (mA + i) mA w'.heap.size 0 _ HD.out.swap (wrap_back mA j (by omega)) (wrap_back mA i (by omega)) hS5 C5.out
        rw [HK.out.2] at z
        refine z.mono ?_
        clear z
        rintro e W6 ⟨rfl, hB6⟩
        have HB6 : Hid (Below w'.heap.size w' W6) := HB.out.trans (hB6.mono (Nat.le_of_lt hS5))
        obtain ⟨gf, -, gc, g1⟩ := sm_ok HD.out c hiK hjK
        obtain ⟨sf, -, -, s1⟩ := sm_ok HD.out.swap c hjK hiK
        have q1 := ge_one gf (g1 hK)
        have q2 := le_count HD.out c hiK hjK
        have q3 := ge_one sf (s1 hK)
        have q4 := le_count HD.out.swap c hjK hiK
        rw [← cnt_comm L i j c] at q4
        obtain ⟨near1, near2⟩ := sym_ok HD.out c hiK hjK hK
        have gb : val (smW L v i j c) ≤ 1048576 := by
          have := cast_le (k := cnt L i j c) (by omega)
          grind
        obtain ⟨e1, ef, e2, mf, le1, le2⟩ := close_ok gf sf gf (g1 hK) gb near1 near2
        have H9 : Hid (∀ r, Abs (subW (smW L v i j c) (smW L v j i c)) r → (FloatKind.f64.format.order r (mulW nanoW (smW L v i j c)) == some .lt || FloatKind.f64.format.order r (mulW nanoW (smW L v i j c)) == some .eq) = true) := fun r hr => le_ok hr.1 mf (abs_le hr le1 le2)
        have HF : Hid (Fl.Fin (subW (smW L v i j c) (smW L v j i c))) := ef
        have m7 := fun wx => run_float_arith (P := Try.prog) wx .sub 22 .f64 _ _ _ e1
        have m8 := fun wx => run_float_arith (P := Try.prog) wx .mul 22 .f64 4472406533629990549 _ _ e2
        clear gf gc g1 sf s1 near1 near2 gb e1 ef e2 mf le1 le2 HB C5 hB6 hS5 HC HD hcn
        generalize smW L v i j c = got at *
        generalize smW L v j i c = sw at *
        generalize cnt L i j c = mm at *
        go_wp2_with fail
        refine (abs_any (subW got sw) _ HF.out).mono ?_
        rintro e W7 ⟨rfl, r, rfl, hr⟩
        have q5 : (FloatKind.f64.format.order r (mulW nanoW got) == some .lt || FloatKind.f64.format.order r (mulW nanoW got) == some .eq) = true := H9.out r hr
        clear hr
        go_wp2
        go_ret
        exact ⟨rfl, HB6.out⟩
end Go.Proofs.Qxb6619244a
