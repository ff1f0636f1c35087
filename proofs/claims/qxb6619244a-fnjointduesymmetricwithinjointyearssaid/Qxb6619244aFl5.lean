import Derived.Test.Qxb6619244aFl4
namespace Go.Proofs.Qxb6619244a.Fl
open Ieee

theorem d575 : p2 (-560) = 32768 * p2 (-575) := by
  have : (32768 : Rat) = p2 15 := by decide +kernel
  rw [this, ← p2_add]; exact congrArg p2 (by omega)

/-- a term against the exact one, 'v^k' for the reckoned power -/
def ex (L : Nat → Nat) (v i j k : Nat) : Rat := pw (val v) k * qa L i k * qa L j k
theorem tm_ex {L : Nat → Nat} {v n i j : Nat} (D : Dom L v n i j) {k : Nat} (hi : i + k < n) (hj : j + k < n) :
    Ap (val (tmW L v i j k)) (ex L v i j k) (1 / 17179869184) (p2 (-560)) := by
  obtain ⟨-, -, -, -, -, -, -, hA, -, -⟩ := tm_ok D hi hj
  have hV := vk_ap D.vf D.v0 D.v1 k (by have := D.nn; omega)
  obtain ⟨a0, a1⟩ := D.q_range hi D.pi
  obtain ⟨c0, c1⟩ := D.q_range hj D.pj
  have hk : (k : Rat) ≤ 65536 := cast_le (by have := D.nn; omega)
  have hk0 : (0 : Rat) ≤ (k : Rat) := Rat.natCast_nonneg
  unfold ex
  generalize val (tmW L v i j k) = t at *
  generalize val (vkW v k) = V at *
  generalize pw (val v) k = P at *
  have q0 : 0 ≤ qa L i k * qa L j k := Rat.mul_nonneg a0 c0
  have q1 : qa L i k * qa L j k ≤ 1 := Rat.le_trans (mul_le_one a0 c1) a1
  rw [Rat.mul_assoc] at hA ⊢
  generalize qa L i k * qa L j k = q at *
  obtain ⟨x0, _, A, B⟩ := hA
  obtain ⟨P0, _, C, E⟩ := hV
  have C' := Rat.mul_le_mul_of_nonneg_right C q0
  have E' := Rat.mul_le_mul_of_nonneg_right E q0
  have hp := p2_pos (-575)
  have h1075 : 131072 * p2 (-1075) ≤ p2 (-575) := by
    have : (131072 : Rat) = p2 17 := by decide +kernel
    rw [this, ← p2_add]; exact p2_mono (by omega)
  have hh := p2_pos (-1075)
  generalize p2 (-1075) = h at *
  rw [d575]
  generalize p2 (-575) = d at *
  rw [u52] at *
  have Pq := Rat.mul_nonneg P0 q0
  have kPq := Rat.mul_le_mul_of_nonneg_right hk Pq
  have kPq0 := Rat.mul_nonneg hk0 Pq
  have hq := mul_le_one (Rat.le_of_lt hh) q1
  have hq0 := Rat.mul_nonneg (Rat.le_of_lt hh) q0
  have khq := Rat.mul_le_mul_of_nonneg_left hq hk0
  have kh := Rat.mul_le_mul_of_nonneg_right hk (Rat.le_of_lt hh)
  refine ⟨Pq, by grind, ?_, ?_⟩
  · grind
  · grind

theorem tm_x {L : Nat → Nat} {v n i j : Nat} (D : Dom L v n i j) {k : Nat} (hi : i + k < n) (hj : j + k < n) :
    Ap (val (tmW L v i j k)) (val (vkW v k) * (qa L i k * qa L j k)) (1 / 17179869184) (p2 (-560)) := by
  obtain ⟨-, -, -, -, -, -, -, hA, -, -⟩ := tm_ok D hi hj
  rw [Rat.mul_assoc] at hA
  obtain ⟨x0, _, A, B⟩ := hA
  have hp := p2_pos (-575)
  rw [u52] at *
  rw [d575]
  exact ⟨x0, by grind, by grind, by grind⟩

theorem tiny540 : p2 (-540) ≤ 1 / 1152921504606846976 := by
  have : (1 / 1152921504606846976 : Rat) = p2 (-60) := by decide +kernel
  rw [this]; exact p2_mono (by omega)
theorem tiny1075 : p2 (-1075) ≤ 1 / 1152921504606846976 := by
  have : (1 / 1152921504606846976 : Rat) = p2 (-60) := by decide +kernel
  rw [this]; exact p2_mono (by omega)

theorem tinyTwo : 131072 * (131072 * (131072 * 0 + 2 * p2 (-1075) + p2 (-1075)) + 2 * p2 (-1075) + p2 (-1075)) + 2 * 0 + p2 (-1075) ≤ 1 / 1152921504606846976 := by
  have e : p2 (-1075) ≤ p2 (-100) := p2_mono (by omega)
  have h2 : p2 (-60) = 1099511627776 * p2 (-100) := by decide +kernel
  have h3 : (1 / 1152921504606846976 : Rat) = p2 (-60) := by decide +kernel
  have h4 := p2_pos (-100)
  rw [h3, h2]
  generalize p2 (-1075) = h at *
  generalize p2 (-100) = g at *
  grind

/-- the word of 1e-9 -/
def nanoW : Nat := 4472406533629990549
theorem nano_read : ∃ m, double.read nanoW = .number false m (-82) ∧ 2 ^ 52 ≤ m ∧ m < 2 ^ 53 := ⟨_, rfl, by decide +kernel, by decide +kernel⟩
theorem nano_ok : Fin nanoW ∧ 1 / 1073741824 ≤ val nanoW ∧ val nanoW ≤ 2 / 1073741824 := by
  obtain ⟨m, hr, hm, hm2⟩ := nano_read
  refine ⟨⟨_, _, _, hr⟩, ?_⟩
  rw [val_of hr]; simp only [dval]
  have h1 : ((2 ^ 52 : Nat) : Rat) ≤ (m : Rat) := by exact_mod_cast hm
  have h2 : (m : Rat) ≤ ((2 ^ 53 : Nat) : Rat) := by exact_mod_cast Nat.le_of_lt hm2
  have a := Rat.mul_le_mul_of_nonneg_right h1 (Rat.le_of_lt (p2_pos (-82)))
  have b := Rat.mul_le_mul_of_nonneg_right h2 (Rat.le_of_lt (p2_pos (-82)))
  have e1 : ((2 ^ 52 : Nat) : Rat) * p2 (-82) = 1 / 1073741824 := by decide +kernel
  have e2 : ((2 ^ 53 : Nat) : Rat) * p2 (-82) = 2 / 1073741824 := by decide +kernel
  rw [e1] at a; rw [e2] at b
  simp only [Bool.false_eq_true, if_false]
  exact ⟨a, b⟩

/-- the absolute value as zzAbs takes it -/
def Abs (a r : Nat) : Prop := Fin r ∧ (0 ≤ val a → val r = val a) ∧ (val a < 0 → val r = - val a)

/-- THE CLOSENESS TEST: two words within a part 2^-31 of a third, which is at least 1, pass 'abs (a - b) <= 1e-9 * c' -/
theorem close_ok {a b c : Nat} (fa : Fin a) (fb : Fin b) (fc : Fin c) (c1 : 1 ≤ val c) (c2 : val c ≤ 1048576)
    (h1 : val a - val b ≤ 1 / 2147483648 * val c) (h2 : val b - val a ≤ 1 / 2147483648 * val c) :
    double.sub a b = some (subW a b) ∧ Fin (subW a b) ∧ double.mul nanoW c = some (mulW nanoW c) ∧ Fin (mulW nanoW c) ∧
      val (subW a b) ≤ val (mulW nanoW c) ∧ - val (subW a b) ≤ val (mulW nanoW c) := by
  obtain ⟨nf, n1, n2⟩ := nano_ok
  have hbig : (1048576 : Rat) ≤ p2 900 := by
    have h1 : p2 20 ≤ p2 900 := p2_mono (by omega)
    have h2 : p2 20 = 1048576 := by decide +kernel
    grind
  obtain ⟨e, sf, s1, s2⟩ := subW_bound fa fb (1 / 2147483648 * val c) h1 h2 (by grind)
  have m1 := Rat.mul_le_mul_of_nonneg_right n1 (show 0 ≤ val c by grind)
  have m2 := Rat.mul_le_mul_of_nonneg_right n2 (show 0 ≤ val c by grind)
  obtain ⟨e', r⟩ := mulW_rnd nf fc (by grind) (by grind) (by grind)
  have r2 := r.e2
  have t := tiny1075
  rw [u53] at s1 s2
  rw [u52] at r2
  refine ⟨e, sf, e', r.fin, ?_, ?_⟩
  · grind
  · grind

/-- THE SYMMETRIC LAW, on words -/
theorem sym_ok {L : Nat → Nat} {v n i j : Nat} (D : Dom L v n i j) (K : Nat) (hi : i + K ≤ n) (hj : j + K ≤ n) (hK : 0 < K) :
    val (smW L v i j K) - val (smW L v j i K) ≤ 1 / 2147483648 * val (smW L v i j K) ∧ val (smW L v j i K) - val (smW L v i j K) ≤ 1 / 2147483648 * val (smW L v i j K) := by
  have hp := p2_pos (-560)
  obtain ⟨s0, a, b⟩ := sm_near D K hi hj (g := fun k => val (vkW v k) * (qa L i k * qa L j k)) (Rat.le_of_lt hp) (fun k hk => tm_x D (by omega) (by omega)) Rat.le_refl
  obtain ⟨_, c, d⟩ := sm_near D.swap K hj hi (g := fun k => val (vkW v k) * (qa L i k * qa L j k)) (Rat.le_of_lt hp) (fun k hk => by
    have := tm_x D.swap (k := k) (by omega) (by omega)
    rw [Rat.mul_comm (qa L j k)] at this; exact this) Rat.le_refl
  obtain ⟨-, -, -, g1⟩ := sm_ok D K hi hj
  have g1 := g1 hK
  have t := tiny540
  generalize sumR (fun k => val (vkW v k) * (qa L i k * qa L j k)) K = S at *
  generalize val (smW L v i j K) = G at *
  generalize val (smW L v j i K) = G' at *
  constructor
  · grind
  · grind

theorem sumR_shift (f : Nat → Rat) (K : Nat) : sumR f (K + 1) = f 0 + sumR (fun k => f (k + 1)) K := by
  induction K with
  | zero => simp [sumR]; grind
  | succ k ih => rw [sumR, ih]; simp only [sumR]; grind
theorem sumR_mul (c : Rat) (f : Nat → Rat) (K : Nat) : sumR (fun k => c * f k) K = c * sumR f K := by
  induction K with
  | zero => simp [sumR]
  | succ k ih => simp only [sumR]; rw [ih]; grind
theorem sumR_congr {f g : Nat → Rat} (K : Nat) (h : ∀ k, k < K → f k = g k) : sumR f K = sumR g K := by
  induction K with
  | zero => rfl
  | succ k ih => simp only [sumR]; rw [ih (fun k hk => h k (by omega)), h k (by omega)]

theorem pw_succ' (x : Rat) (k : Nat) : pw x (k + 1) = x * pw x k := Rat.mul_comm _ _

theorem q_split (L : Nat → Nat) (a k : Nat) (h : val (L (a + 1)) ≠ 0) : qa L a (k + 1) = qa L a 1 * qa L (a + 1) k := by
  unfold qa
  rw [show a + (k + 1) = a + 1 + k by omega]
  simp only [Rat.div_def]
  have := Rat.inv_mul_cancel _ h
  grind

/-- THE RECURSION of the exact sums -/
theorem ex_rec {L : Nat → Nat} {v n i j : Nat} (D : Dom L v n i j) (hi : val (L (i + 1)) ≠ 0) (hj : val (L (j + 1)) ≠ 0) (K : Nat) :
    sumR (ex L v i j) (K + 1) = 1 + val v * (qa L i 1 * qa L j 1) * sumR (ex L v (i + 1) (j + 1)) K := by
  rw [sumR_shift, ← sumR_mul]
  have e0 : ex L v i j 0 = 1 := by
    unfold ex qa pw
    simp only [Nat.add_zero, Rat.div_def]
    rw [Rat.mul_inv_cancel _ (Rat.ne_of_gt D.pi), Rat.mul_inv_cancel _ (Rat.ne_of_gt D.pj)]; decide +kernel
  rw [e0]
  congr 1
  refine sumR_congr K (fun k _ => ?_)
  unfold ex
  rw [pw_succ', q_split L i k hi, q_split L j k hj]
  grind

/-- what the law reckons: '1 + v * (l[i+1]/l[i]) * (l[j+1]/l[j]) * next' -/
def wantW (L : Nat → Nat) (v i j x : Nat) : Nat := addW oneW (mulW (mulW (mulW v (divW (L (i + 1)) (L i))) (divW (L (j + 1)) (L j))) x)

theorem ratio_ok {L : Nat → Nat} {v n i j : Nat} (D : Dom L v n i j) {a : Nat} (h : a + 1 < n) (hp : 0 < val (L a)) :
    double.div (L (a + 1)) (L a) = some (divW (L (a + 1)) (L a)) ∧ Fin (divW (L (a + 1)) (L a)) ∧ 0 ≤ val (divW (L (a + 1)) (L a)) ∧ val (divW (L (a + 1)) (L a)) ≤ 1 ∧
      Ap (val (divW (L (a + 1)) (L a))) (qa L a 1) (p2 (-52)) (p2 (-1075)) := by
  obtain ⟨q0, q1⟩ := D.q_range h hp
  obtain ⟨e, r⟩ := divW_rnd (D.fin _ h) (D.fin a (by omega)) (D.lo _ h) hp (by have := p899; have : val (L (a + 1)) / val (L a) ≤ 1 := q1; grind)
  refine ⟨e, r.fin, r.nn, ?_, ⟨q0, Rat.le_of_lt (p2_pos _), r.e1, r.e2⟩⟩
  have := r.up oneW one_fin (by rw [one_val]; exact q1)
  rw [one_val] at this; exact this

/-- a product of two that stand near to two others, rounded -/
theorem prod_ap {a b : Nat} (fa : Fin a) (fb : Fin b) (a0 : 0 ≤ val a) (a1 : val a ≤ 1) (b0 : 0 ≤ val b) (B : Rat) (hB : B ≤ 65536) (b1 : val b ≤ B) {x y ρ σ δ ε : Rat}
    (hx : Ap (val a) x ρ δ) (hy : Ap (val b) y σ ε) (x1 : x ≤ 1) (hρ0 : 0 ≤ ρ) (hρ : ρ ≤ 1 / 1024) (hσ0 : 0 ≤ σ) (hσ : σ ≤ 1 / 1024) :
    double.mul a b = some (mulW a b) ∧ Fin (mulW a b) ∧ 0 ≤ val (mulW a b) ∧ val (mulW a b) ≤ val b ∧
      Ap (val (mulW a b)) (x * y) (2 * ρ + 2 * σ + 2 * p2 (-52)) (131072 * δ + 2 * ε + p2 (-1075)) := by
  have hab : val a * val b ≤ val b := by
    have := Rat.mul_le_mul_of_nonneg_right a1 b0; rw [Rat.one_mul] at this; exact this
  have hbig : (65536 : Rat) ≤ p2 900 := by
    have h1 : p2 20 ≤ p2 900 := p2_mono (by omega)
    have h2 : p2 20 = 1048576 := by decide +kernel
    grind
  obtain ⟨e, r⟩ := mulW_rnd fa fb a0 b0 (by grind)
  refine ⟨e, r.fin, r.nn, r.up b fb hab, ?_⟩
  obtain ⟨x0, d0, A, A'⟩ := hx
  obtain ⟨y0, f0, C, C'⟩ := hy
  have e1 := r.e1
  have e2 := r.e2
  rw [u52] at *
  -- |ab - xy| ≤ |a - x| b + x |b - y|
  have t1 := Rat.mul_le_mul_of_nonneg_right A b0
  have t2 := Rat.mul_le_mul_of_nonneg_right A' b0
  have t3 := Rat.mul_le_mul_of_nonneg_left C x0
  have t4 := Rat.mul_le_mul_of_nonneg_left C' x0
  have xy := Rat.mul_nonneg x0 y0
  have s1 := Rat.mul_le_mul_of_nonneg_right hσ xy
  have s2 := Rat.mul_nonneg hσ0 xy
  have s3 := Rat.mul_le_mul_of_nonneg_right hρ xy
  have s4 := Rat.mul_nonneg hρ0 xy
  have db := Rat.mul_le_mul_of_nonneg_left b1 d0
  have db2 := Rat.mul_le_mul_of_nonneg_left hB d0
  have xe := mul_le_one f0 x1
  have xe0 := Rat.mul_nonneg f0 x0
  -- ρ x b ≤ ρ (x y (1 + σ) + ε)
  have q1 := Rat.mul_le_mul_of_nonneg_left t3 hρ0
  have q2 := Rat.mul_le_mul_of_nonneg_left s1 hρ0
  have q3 := Rat.mul_le_mul_of_nonneg_left xe hρ0
  have q4 := Rat.mul_le_mul_of_nonneg_right hρ f0
  have q5 := Rat.mul_nonneg hρ0 f0
  refine ⟨xy, by have := p2_pos (-1075); grind, ?_, ?_⟩
  · grind
  · grind

/-- THE RECURSION, on words -/
theorem rec_ok {L : Nat → Nat} {v n i j : Nat} (D : Dom L v n i j) (D' : Dom L v n (i + 1) (j + 1)) (K : Nat) (hi : i + (K + 1) ≤ n) (hj : j + (K + 1) ≤ n) (hK : 0 < K) :
    double.div (L (i + 1)) (L i) = some (divW (L (i + 1)) (L i)) ∧ double.div (L (j + 1)) (L j) = some (divW (L (j + 1)) (L j)) ∧
    double.mul v (divW (L (i + 1)) (L i)) = some (mulW v (divW (L (i + 1)) (L i))) ∧
    double.mul (mulW v (divW (L (i + 1)) (L i))) (divW (L (j + 1)) (L j)) = some (mulW (mulW v (divW (L (i + 1)) (L i))) (divW (L (j + 1)) (L j))) ∧
    double.mul (mulW (mulW v (divW (L (i + 1)) (L i))) (divW (L (j + 1)) (L j))) (smW L v (i + 1) (j + 1) K) = some (mulW (mulW (mulW v (divW (L (i + 1)) (L i))) (divW (L (j + 1)) (L j))) (smW L v (i + 1) (j + 1) K)) ∧
    double.add oneW (mulW (mulW (mulW v (divW (L (i + 1)) (L i))) (divW (L (j + 1)) (L j))) (smW L v (i + 1) (j + 1) K)) = some (wantW L v i j (smW L v (i + 1) (j + 1) K)) ∧
    Fin (wantW L v i j (smW L v (i + 1) (j + 1) K)) ∧ 1 ≤ val (wantW L v i j (smW L v (i + 1) (j + 1) K)) ∧ val (wantW L v i j (smW L v (i + 1) (j + 1) K)) ≤ 1048576 ∧
    val (smW L v i j (K + 1)) - val (wantW L v i j (smW L v (i + 1) (j + 1) K)) ≤ 1 / 2147483648 * val (wantW L v i j (smW L v (i + 1) (j + 1) K)) ∧
    val (wantW L v i j (smW L v (i + 1) (j + 1) K)) - val (smW L v i j (K + 1)) ≤ 1 / 2147483648 * val (wantW L v i j (smW L v (i + 1) (j + 1) K)) := by
  obtain ⟨k1, f1, r10, r11, p1⟩ := ratio_ok D (a := i) (by omega) D.pi
  obtain ⟨k2, f2, r20, r21, p2'⟩ := ratio_ok D (a := j) (by omega) D.pj
  obtain ⟨qi0, qi1⟩ := D.q_range (a := i) (k := 1) (by omega) D.pi
  obtain ⟨qj0, qj1⟩ := D.q_range (a := j) (k := 1) (by omega) D.pj
  have hp := p2_pos (-560)
  obtain ⟨S0, a, b⟩ := sm_near D (K + 1) hi hj (g := ex L v i j) (Rat.le_of_lt hp) (fun k hk => tm_ex D (by omega) (by omega)) Rat.le_refl
  obtain ⟨T0, c, d⟩ := sm_near D' K (by omega) (by omega) (g := ex L v (i + 1) (j + 1)) (Rat.le_of_lt hp) (fun k hk => tm_ex D' (by omega) (by omega)) Rat.le_refl
  have hrec := ex_rec D (Rat.ne_of_gt D'.pi) (Rat.ne_of_gt D'.pj) K
  obtain ⟨gf, g0, -, g1⟩ := sm_ok D (K + 1) hi hj
  have g1 := g1 (by omega)
  obtain ⟨hf, h0, hc, h1⟩ := sm_ok D' K (by omega) (by omega)
  have h1 := h1 hK
  have hc' : val (smW L v (i + 1) (j + 1) K) ≤ 65536 := by
    have := cnt_le L (i + 1) (j + 1) K
    have := D.nn
    exact Rat.le_trans hc (cast_le (by omega))
  have hpt := p2_pos (-1075)
  have t75 := tiny1075
  have self : Ap (val v) (val v) 0 0 := ⟨D.v0, Rat.le_refl, by grind, by grind⟩
  have selfH : Ap (val (smW L v (i + 1) (j + 1) K)) (val (smW L v (i + 1) (j + 1) K)) 0 0 := ⟨h0, Rat.le_refl, by grind, by grind⟩
  obtain ⟨k3, f3, m30, m31, p3⟩ := prod_ap D.vf f1 D.v0 D.v1 r10 1 (by decide +kernel) r11 self p1 D.v1 Rat.le_refl (by decide +kernel) (Rat.le_of_lt (p2_pos _)) (by rw [u52]; decide +kernel)
  have xq1 : val v * qa L i 1 ≤ 1 := Rat.le_trans (mul_le_one D.v0 qi1) D.v1
  obtain ⟨k4, f4, m40, m41, p4⟩ := prod_ap f3 f2 m30 (Rat.le_trans m31 r11) r20 1 (by decide +kernel) r21 p3 p2' xq1 (by rw [u52]; decide +kernel) (by rw [u52]; decide +kernel) (Rat.le_of_lt (p2_pos _)) (by rw [u52]; decide +kernel)
  have xq2 : val v * qa L i 1 * qa L j 1 ≤ 1 := Rat.le_trans (mul_le_one p3.x0 qj1) xq1
  obtain ⟨k5, f5, m50, m51, p5⟩ := prod_ap f4 hf m40 (Rat.le_trans m41 r21) h0 65536 Rat.le_refl hc' p4 selfH xq2 (by rw [u52]; decide +kernel) (by rw [u52]; decide +kernel) Rat.le_refl (by decide +kernel)
  have hbig : (1048576 : Rat) ≤ p2 900 := by
    have h1 : p2 20 ≤ p2 900 := p2_mono (by omega)
    have h2 : p2 20 = 1048576 := by decide +kernel
    grind
  have hone : val oneW = 1 := one_val
  obtain ⟨k6, r6, -, -⟩ := addW_rnd one_fin f5 (by rw [hone]; decide) m50 (by rw [hone]; grind)
  rw [hone] at r6
  refine ⟨k1, k2, k3, k4, k5, k6, r6.fin, ?_, ?_, ?_⟩
  · have := r6.dn oneW one_fin (by rw [hone]; grind)
    rw [hone] at this; exact this
  · have e := r6.e1
    rw [u52] at e
    show val (addW _ _) ≤ _
    grind
  · have e1 := r6.e1
    have e2 := r6.e2
    obtain ⟨-, -, A, B⟩ := p5
    show val (smW L v i j (K + 1)) - val (addW _ _) ≤ 1 / 2147483648 * val (addW _ _) ∧ val (addW _ _) - val (smW L v i j (K + 1)) ≤ 1 / 2147483648 * val (addW _ _)
    have t540 := tiny540
    have hw0 : 0 ≤ val v * qa L i 1 * qa L j 1 := p4.x0
    rw [← Rat.mul_assoc] at hrec
    generalize val (mulW (mulW (mulW v (divW (L (i + 1)) (L i))) (divW (L (j + 1)) (L j))) (smW L v (i + 1) (j + 1) K)) = p at *
    generalize val (addW oneW (mulW (mulW (mulW v (divW (L (i + 1)) (L i))) (divW (L (j + 1)) (L j))) (smW L v (i + 1) (j + 1) K))) = W at *
    generalize val (smW L v i j (K + 1)) = G at *
    generalize val (smW L v (i + 1) (j + 1) K) = Hh at *
    generalize sumR (ex L v i j) (K + 1) = Gs at *
    generalize sumR (ex L v (i + 1) (j + 1)) K = Hs at *
    generalize val v * qa L i 1 * qa L j 1 = w at *
    rw [u52] at *
    have c' := Rat.mul_le_mul_of_nonneg_left c hw0
    have d' := Rat.mul_le_mul_of_nonneg_left d hw0
    have wt := mul_le_one (Rat.le_of_lt (p2_pos (-540))) xq2
    have tp := p2_pos (-540)
    have wH0 := Rat.mul_nonneg hw0 h0
    have wHs := Rat.mul_nonneg hw0 T0
    have tiny2 := tinyTwo
    generalize 131072 * (131072 * (131072 * 0 + 2 * p2 (-1075) + p2 (-1075)) + 2 * p2 (-1075) + p2 (-1075)) + 2 * 0 + p2 (-1075) = ty at *
    constructor
    · grind
    · grind

end Go.Proofs.Qxb6619244a.Fl
