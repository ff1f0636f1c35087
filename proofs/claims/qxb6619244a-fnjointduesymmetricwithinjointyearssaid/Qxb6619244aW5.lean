import Derived.Test.Qxb6619244aW4
namespace Go.Proofs.Qxb6619244a
open Go.RowKit
open Fl

set_option maxRecDepth 100000 in
set_option maxHeartbeats 400000 in
theorem rec_long (mA x y : Int) (v : Nat) (a : Option Addr) (n cap : Nat) (w : World) (hn : 65536 < n) (hm : n ≤ 9223372036854775807) :
    Calls Try.prog 3 #[.int .i64 mA, .float .f64 v, .slice a n cap, .int .i64 x, .int .i64 y] w fun e w' => e = .returned (.bool true) ∧ Below w.heap.size w w' := by
  have h1 : (65536 : Int) < n := by omega
  by_cases h2 : n ≤ 1048576
  · have h3 : ¬ (1048576 : Int) < n := by omega
    go_enter Try.func3, Try.ntmps3
    go_wp2
    go_ret
    exact ⟨rfl, Below.refl _ _⟩
  · have h3 : (1048576 : Int) < n := by omega
    go_enter Try.func3, Try.ntmps3
    go_wp2
    go_ret
    exact ⟨rfl, Below.refl _ _⟩

set_option maxRecDepth 100000 in
set_option maxHeartbeats 400000 in
theorem rec_noV (mA x y : Int) (v : Nat) (a : Option Addr) (n cap : Nat) (w : World) (hn : n ≤ 65536)
    (hv : ((ord v 0 == some .gt || ord v 0 == some .eq) && (ord v oneW == some .lt || ord v oneW == some .eq)) = false) :
    Calls Try.prog 3 #[.int .i64 mA, .float .f64 v, .slice a n cap, .int .i64 x, .int .i64 y] w fun e w' => e = .returned (.bool true) ∧ Below w.heap.size w w' := by
  have h1 : ¬ (65536 : Int) < n := by omega
  have h3 : ¬ (1048576 : Int) < n := by omega
  by_cases t1 : (FloatKind.f64.format.order v 0 == some .gt || FloatKind.f64.format.order v 0 == some .eq) = true
  · have t2 : (FloatKind.f64.format.order v 4607182418800017408 == some .lt || FloatKind.f64.format.order v 4607182418800017408 == some .eq) = false := by
      have : (ord v 0 == some .gt || ord v 0 == some .eq) = true := t1
      rw [this, Bool.true_and] at hv; exact hv
    clear hv
    go_enter Try.func3, Try.ntmps3
    go_wp2
    go_ret
    exact ⟨rfl, Below.refl _ _⟩
  · replace t1 : (FloatKind.f64.format.order v 0 == some .gt || FloatKind.f64.format.order v 0 == some .eq) = false := by simpa using t1
    clear hv
    go_enter Try.func3, Try.ntmps3
    go_wp2
    go_ret
    exact ⟨rfl, Below.refl _ _⟩

set_option maxRecDepth 100000 in
set_option maxHeartbeats 400000 in
theorem rec_short (mA x y : Int) (v : Nat) (a : Option Addr) (n cap : Nat) (w : World) (hn : n < 2)
    (t1 : (ord v 0 == some .gt || ord v 0 == some .eq) = true) (t2 : (ord v oneW == some .lt || ord v oneW == some .eq) = true) :
    Calls Try.prog 3 #[.int .i64 mA, .float .f64 v, .slice a n cap, .int .i64 x, .int .i64 y] w fun e w' => e = .returned (.bool true) ∧ Below w.heap.size w w' := by
  have h1 : ¬ (65536 : Int) < n := by omega
  have h3 : ¬ (1048576 : Int) < n := by omega
  replace t1 : (FloatKind.f64.format.order v 0 == some .gt || FloatKind.f64.format.order v 0 == some .eq) = true := t1
  replace t2 : (FloatKind.f64.format.order v 4607182418800017408 == some .lt || FloatKind.f64.format.order v 4607182418800017408 == some .eq) = true := t2
  go_enter Try.func3, Try.ntmps3
  go_wp2_with (first | (go_at_call 6; refine (surv_short _ _ _ _ hn).mono ?_; rintro e w' ⟨rfl, rfl⟩) | go_in)
  go_ret
  exact ⟨rfl, Below.refl _ _⟩

set_option maxRecDepth 100000 in
set_option maxHeartbeats 1000000 in
theorem rec_main (mA x y : Int) (v : Nat) (L : Nat → Nat) (lb lo n cap : Nat) (w : World) (hn2 : 2 ≤ n) (hn : n ≤ 65536)
    (t1 : (ord v 0 == some .gt || ord v 0 == some .eq) = true) (t2 : (ord v oneW == some .lt || ord v oneW == some .eq) = true)
    (wm : (Lit.int .i64 mA).wf = true) (wx : (Lit.int .i64 x).wf = true) (wy : (Lit.int .i64 y).wf = true)
    (hb : lb < w.heap.size) (hl : ∀ k, k < n → w.cell? ⟨lb, lo + k, none⟩ = some (.float .f64 (L k))) :
    Calls Try.prog 3 #[.int .i64 mA, .float .f64 v, .slice (some ⟨lb, lo, none⟩) n cap, .int .i64 x, .int .i64 y] w fun e w' => e = .returned (.bool true) ∧ Below w.heap.size w w' := by
  have h1 : ¬ (65536 : Int) < n := by omega
  have h3 : ¬ (1048576 : Int) < n := by omega
  replace t1 : (FloatKind.f64.format.order v 0 == some .gt || FloatKind.f64.format.order v 0 == some .eq) = true := t1
  replace t2 : (FloatKind.f64.format.order v 4607182418800017408 == some .lt || FloatKind.f64.format.order v 4607182418800017408 == some .eq) = true := t2
  have hmk := run_make_row' (P := Try.prog) 23 22 (.float .f64 0) 8 Try.underlying23 Try.info22 rfl .i64 .i64 n (by omega) (by omega)
  obtain ⟨W2, hcp, hB2, hS2, hc2⟩ := copy_ok w L n cap lb lo hb hl
  have HC : Hid (∀ k, k < n → W2.cell? ⟨w.heap.size, 0 + k, none⟩ = some (.float .f64 (L k))) := hc2
  have HV : Hid (Fl.Fin v ∧ 0 ≤ val v ∧ val v ≤ 1) := unit_fin v t1 t2
  have HL : Hid (∀ k, k < n → w.cell? ⟨lb, lo + k, none⟩ = some (.float .f64 (L k))) := hl
  clear hl hc2
  go_enter Try.func3, Try.ntmps3
  go_wp2_with (first | (go_at_call 5; go_in) | fail)
  refine (surv_any L n cap lb lo _ hn2 hn HL.out).mono ?_
  rintro e w' ⟨rfl, rfl | ⟨rfl, hg⟩⟩
  · go_wp2
    go_ret
    exact ⟨rfl, Below.refl _ _⟩
  have HG : Hid (Good L n) := hg
  clear hg
  go_wp2_with fail
  refine (age_any mA x n _ hn2 hn wm wx).mono ?_
  rintro e W3 ⟨rfl, rfl | ⟨i, hi, rfl, rfl⟩⟩
  · go_wp2_with fail
    refine (age_any mA y n _ hn2 hn wm wy).mono ?_
    rintro e W4 ⟨rfl, rfl | ⟨j, hj, rfl, rfl⟩⟩
    all_goals
      go_wp2
      go_ret
      exact ⟨rfl, hB2⟩
  go_wp2_with fail
  refine (age_any mA y n _ hn2 hn wm wy).mono ?_
  rintro e W4 ⟨rfl, rfl | ⟨j, hj, rfl, rfl⟩⟩
  · go_wp2
    go_ret
    exact ⟨rfl, hB2⟩
  have ci := HC.out i (by omega)
  have cj := HC.out j (by omega)
  rw [Nat.zero_add] at ci cj
  have bi : (i : Int) < n := by omega
  have bj : (j : Int) < n := by omega
  by_cases p1 : (FloatKind.f64.format.order (L i) 0 == some .gt) = true
  case neg =>
    replace p1 : (FloatKind.f64.format.order (L i) 0 == some .gt) = false := by simpa using p1
    go_wp2
    go_ret
    exact ⟨rfl, hB2⟩
  by_cases p2 : (FloatKind.f64.format.order (L j) 0 == some .gt) = true
  case neg =>
    replace p2 : (FloatKind.f64.format.order (L j) 0 == some .gt) = false := by simpa using p2
    go_wp2
    go_ret
    exact ⟨rfl, hB2⟩
  have HD : Hid (Dom L v n i j) := dom_of HG.out HV.out (by omega) (by omega) (pos_of (HG.out.1 i (by omega)).1 p1) (pos_of (HG.out.1 j (by omega)).1 p2) hn
  obtain ⟨K, eK, eK1⟩ : ∃ K, n - max i j = K + 1 ∧ n - max (i + 1) (j + 1) = K := ⟨n - max (i + 1) (j + 1), by omega, rfl⟩
  have hK : 0 < K := by omega
  have hiK : i + (K + 1) ≤ n := by omega
  have hjK : j + (K + 1) ≤ n := by omega
  have HK : Hid (n - max i j = K + 1 ∧ n - max (i + 1) (j + 1) = K) := ⟨eK, eK1⟩
  clear eK eK1
  go_wp2_with fail
  have z := zzjoint_any L v n i j n (mA + i) (mA + j) mA w'.heap.size 0 _ HD.out (wrap_back mA i (by omega)) (wrap_back mA j (by omega)) hS2 HC.out
  rw [HK.out.1] at z
  refine z.mono ?_
  clear z
  rintro e W5 ⟨rfl, hB5⟩
  have C5 : Hid (∀ k, k < n → W5.cell? ⟨w'.heap.size, 0 + k, none⟩ = some (.float .f64 (L k))) := fun k hk => by
    rw [hB5.cell (p := ⟨w'.heap.size, 0 + k, none⟩) hS2]; exact HC.out k hk
  have HB : Hid (Below w'.heap.size w' W5) := hB2.trans (hB5.mono (Nat.le_of_lt hS2))
  have hS5 : w'.heap.size < W5.heap.size := Nat.lt_of_lt_of_le hS2 hB5.size
  have HS : Hid (Fl.Fin (smW L v i j (K + 1)) ∧ 1 ≤ val (smW L v i j (K + 1))) := by
    obtain ⟨f, -, -, h⟩ := sm_ok HD.out (K + 1) (by omega) (by omega)
    exact ⟨f, h (by omega)⟩
  clear hcp hmk hB2 hB5 HC HL hS2 ci cj wx wy wm t1 t2 p1 p2
  have ci := C5.out i (by omega)
  have cj := C5.out j (by omega)
  have ci1 := C5.out (i + 1) hi
  have cj1 := C5.out (j + 1) hj
  rw [Nat.zero_add] at ci cj ci1 cj1
  have bi1 : (i : Int) + 1 < n := by omega
  have bj1 : (j : Int) + 1 < n := by omega
  have G1 := HD.out.fin (i + 1) hi
  have G2 := HD.out.fin (j + 1) hj
  by_cases z1 : (FloatKind.f64.format.order (L (i + 1)) 0 == some .eq) = true
  · have he := eq_one HS.out.1 (one_year HD.out (K + 1) (by omega) (by omega) (by omega) (.inl (zero_of G1 z1)))
    clear G1 G2
    go_wp2
    go_ret
    exact ⟨rfl, HB.out⟩
  by_cases z2 : (FloatKind.f64.format.order (L (j + 1)) 0 == some .eq) = true
  · have he := eq_one HS.out.1 (one_year HD.out (K + 1) (by omega) (by omega) (by omega) (.inr (zero_of G2 z2)))
    replace z1 : (FloatKind.f64.format.order (L (i + 1)) 0 == some .eq) = false := by simpa using z1
    clear G1 G2
    go_wp2
    go_ret
    exact ⟨rfl, HB.out⟩
  replace z1 : (FloatKind.f64.format.order (L (i + 1)) 0 == some .eq) = false := by simpa using z1
  replace z2 : (FloatKind.f64.format.order (L (j + 1)) 0 == some .eq) = false := by simpa using z2
  have HD1 : Hid (Dom L v n (i + 1) (j + 1)) := dom_of HG.out HV.out hi hj (nonzero_of G1 (HD.out.lo _ hi) z1) (nonzero_of G2 (HD.out.lo _ hj) z2) hn
  clear G1 G2
  go_wp2_with fail
  have z := zzjoint_any L v n (i + 1) (j + 1) n (wrap64 (mA + i + 1)) (wrap64 (mA + j + 1)) mA w'.heap.size 0 _ HD1.out (wrap_back1 mA i (by omega)) (wrap_back1 mA j (by omega)) hS5 C5.out
  rw [HK.out.2] at z
  refine z.mono ?_
  clear z
  rintro e W6 ⟨rfl, hB6⟩
  have HB6 : Hid (Below w'.heap.size w' W6) := HB.out.trans (hB6.mono (Nat.le_of_lt hS5))
  have ci' : W6.cell? ⟨w'.heap.size, i, none⟩ = some (.float .f64 (L i)) := by rw [hB6.cell (p := ⟨w'.heap.size, i, none⟩) hS5]; exact ci
  have cj' : W6.cell? ⟨w'.heap.size, j, none⟩ = some (.float .f64 (L j)) := by rw [hB6.cell (p := ⟨w'.heap.size, j, none⟩) hS5]; exact cj
  have ci1' : W6.cell? ⟨w'.heap.size, i + 1, none⟩ = some (.float .f64 (L (i + 1))) := by rw [hB6.cell (p := ⟨w'.heap.size, i + 1, none⟩) hS5]; exact ci1
  have cj1' : W6.cell? ⟨w'.heap.size, j + 1, none⟩ = some (.float .f64 (L (j + 1))) := by rw [hB6.cell (p := ⟨w'.heap.size, j + 1, none⟩) hS5]; exact cj1
  obtain ⟨d1, d2, d3, d4, d5, d6, wf, w1, w2, near1, near2⟩ := rec_ok HD.out HD1.out K hiK hjK hK
  obtain ⟨s1, sf, s2, mf, le1, le2⟩ := close_ok HS.out.1 wf wf w1 w2 near1 near2
  have q1 := ge_one HS.out.1 HS.out.2
  have q2 := ge_one wf w1
  have H9 : Hid (∀ r, Abs (subW (smW L v i j (K + 1)) (wantW L v i j (smW L v (i + 1) (j + 1) K))) r → (FloatKind.f64.format.order r (mulW nanoW (wantW L v i j (smW L v (i + 1) (j + 1) K))) == some .lt || FloatKind.f64.format.order r (mulW nanoW (wantW L v i j (smW L v (i + 1) (j + 1) K))) == some .eq) = true) := fun r hr => le_ok hr.1 mf (abs_le hr le1 le2)
  have HF : Hid (Fl.Fin (subW (smW L v i j (K + 1)) (wantW L v i j (smW L v (i + 1) (j + 1) K)))) := sf
  have m1 := fun wx => run_float_arith (P := Try.prog) wx .quo 22 .f64 _ _ _ d1
  have m2 := fun wx => run_float_arith (P := Try.prog) wx .quo 22 .f64 _ _ _ d2
  have m3 := fun wx => run_float_arith (P := Try.prog) wx .mul 22 .f64 _ _ _ d3
  have m4 := fun wx => run_float_arith (P := Try.prog) wx .mul 22 .f64 _ _ _ d4
  have m5 := fun wx => run_float_arith (P := Try.prog) wx .mul 22 .f64 _ _ _ d5
  have m6 := fun wx => run_float_arith (P := Try.prog) wx .add 22 .f64 4607182418800017408 _ _ d6
  have m7 := fun wx => run_float_arith (P := Try.prog) wx .sub 22 .f64 _ _ _ s1
  have m8 := fun wx => run_float_arith (P := Try.prog) wx .mul 22 .f64 4472406533629990549 _ _ s2
  clear d1 d2 d3 d4 d5 d6 wf w1 w2 near1 near2 s1 sf s2 mf le1 le2 ci cj ci1 cj1 z1 z2 HB C5 hB6 hS5
  generalize wantW L v i j (smW L v (i + 1) (j + 1) K) = want at *
  generalize smW L v i j (K + 1) = got at *
  generalize smW L v (i + 1) (j + 1) K = next at *
  go_wp2
  go_quiet (fail)
  go_wp2_with fail
  refine (abs_any (subW got want) _ HF.out).mono ?_
  rintro e W7 ⟨rfl, r, rfl, hr⟩
  have q3 : (FloatKind.f64.format.order r (mulW nanoW want) == some .lt || FloatKind.f64.format.order r (mulW nanoW want) == some .eq) = true := H9.out r hr
  clear hr
  go_wp2
  go_ret
  exact ⟨rfl, below_drewN HB6.out _⟩
end Go.Proofs.Qxb6619244a
