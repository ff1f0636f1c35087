import Derived.Test.Qxb6619244aFl3
namespace Go.Proofs.Qxb6619244a.Fl
open Ieee

/-! the loop of jointDue, on words -/
def vkW (v : Nat) : Nat → Nat
  | 0 => oneW
  | k + 1 => mulW (vkW v k) v
def tmW (L : Nat → Nat) (v i j k : Nat) : Nat := divW (mulW (divW (mulW (vkW v k) (L (i + k))) (L i)) (L (j + k))) (L j)
def smW (L : Nat → Nat) (v i j : Nat) : Nat → Nat
  | 0 => 0
  | k + 1 => addW (smW L v i j k) (tmW L v i j k)

/-- a survivors column, a discount and two places at which both live -/
structure Dom (L : Nat → Nat) (v n i j : Nat) : Prop where
  fin : ∀ k, k < n → Fin (L k)
  lo : ∀ k, k < n → 0 ≤ val (L k)
  hi : ∀ k, k < n → val (L k) ≤ 1
  mono : ∀ k, k + 1 < n → val (L (k + 1)) ≤ val (L k)
  norm : ∀ k, k < n → val (L k) = 0 ∨ p2 (-500) ≤ val (L k)
  vf : Fin v
  v0 : 0 ≤ val v
  v1 : val v ≤ 1
  ni : i < n
  nj : j < n
  pi : 0 < val (L i)
  pj : 0 < val (L j)
  nn : n ≤ 65536

theorem Dom.swap {L : Nat → Nat} {v n i j : Nat} (D : Dom L v n i j) : Dom L v n j i :=
  { D with ni := D.nj, nj := D.ni, pi := D.pj, pj := D.pi }

theorem Dom.le {L : Nat → Nat} {v n i j : Nat} (D : Dom L v n i j) (a k : Nat) (h : a + k < n) : val (L (a + k)) ≤ val (L a) := by
  induction k with
  | zero => exact Rat.le_refl
  | succ k ih => exact Rat.le_trans (D.mono (a + k) h) (ih (by omega))

theorem Dom.big {L : Nat → Nat} {v n i j : Nat} (D : Dom L v n i j) (a : Nat) (h : a < n) (hp : 0 < val (L a)) : p2 (-500) ≤ val (L a) := by
  rcases D.norm a h with e | e
  · rw [e] at hp; exact absurd hp Rat.lt_irrefl
  · exact e

/-- the powers of the discount -/
def pw (x : Rat) : Nat → Rat
  | 0 => 1
  | k + 1 => pw x k * x
theorem pw_range {x : Rat} (h0 : 0 ≤ x) (h1 : x ≤ 1) (k : Nat) : 0 ≤ pw x k ∧ pw x k ≤ 1 := by
  induction k with
  | zero => exact ⟨show (0 : Rat) ≤ 1 by decide, Rat.le_refl⟩
  | succ k ih => exact ⟨Rat.mul_nonneg ih.1 h0, Rat.le_trans (mul_le_one ih.1 h1) ih.2⟩

theorem vk_ok {v : Nat} (vf : Fin v) (v0 : 0 ≤ val v) (v1 : val v ≤ 1) (k : Nat) :
    Fin (vkW v k) ∧ 0 ≤ val (vkW v k) ∧ val (vkW v k) ≤ 1 := by
  induction k with
  | zero => exact ⟨one_fin, by rw [vkW, one_val]; decide, by rw [vkW, one_val]; exact Rat.le_refl⟩
  | succ k ih =>
    obtain ⟨f, h0, h1⟩ := ih
    have hle := mul_le_one h0 v1
    obtain ⟨-, r⟩ := mulW_rnd f vf h0 v0 (by have := p900; grind)
    refine ⟨r.fin, r.nn, ?_⟩
    have := r.up oneW one_fin (by rw [one_val]; exact Rat.le_trans hle h1)
    rw [one_val] at this; exact this
theorem vk_mul {v : Nat} (vf : Fin v) (v0 : 0 ≤ val v) (v1 : val v ≤ 1) (k : Nat) :
    double.mul (vkW v k) v = some (vkW v (k + 1)) := by
  obtain ⟨f, h0, h1⟩ := vk_ok vf v0 v1 k
  exact (mulW_rnd f vf h0 v0 (by have := mul_le_one h0 v1; have := p900; grind)).1

theorem cast_le {k : Nat} (h : k ≤ 65536) : (k : Rat) ≤ 65536 := by exact_mod_cast h

theorem vk_ap {v : Nat} (vf : Fin v) (v0 : 0 ≤ val v) (v1 : val v ≤ 1) (k : Nat) (hk : k ≤ 65536) :
    Ap (val (vkW v k)) (pw (val v) k) (2 * (k : Rat) * p2 (-52)) (2 * (k : Rat) * p2 (-1075)) := by
  induction k with
  | zero =>
    have e : ((0 : Nat) : Rat) = 0 := rfl
    refine ⟨show (0 : Rat) ≤ 1 by decide, by simp, ?_, ?_⟩ <;> simp [vkW, pw, one_val] <;> grind
  | succ k ih =>
    have ih := ih (by omega)
    obtain ⟨f, h0, h1⟩ := vk_ok vf v0 v1 k
    obtain ⟨-, r⟩ := mulW_rnd f vf h0 v0 (by have := mul_le_one h0 v1; have := p900; grind)
    have e1 := r.e1
    have e2 := r.e2
    obtain ⟨a0, d0, a, b⟩ := ih
    have hc := cast_le (show k ≤ 65536 by omega)
    have ck : ((k + 1 : Nat) : Rat) = (k : Rat) + 1 := Rat.natCast_add _ _
    have hk0 : (0 : Rat) ≤ (k : Rat) := Rat.natCast_nonneg
    have hp := p2_pos (-1075)
    show Ap (val (mulW (vkW v k) v)) (pw (val v) k * val v) _ _
    obtain ⟨V, hV⟩ : ∃ V, V = val (vkW v k) := ⟨_, rfl⟩
    obtain ⟨P, hP⟩ : ∃ P, P = pw (val v) k := ⟨_, rfl⟩
    obtain ⟨x, hx⟩ : ∃ x, x = val v := ⟨_, rfl⟩
    obtain ⟨h, hh⟩ : ∃ h, h = p2 (-1075) := ⟨_, rfl⟩
    obtain ⟨K, hK⟩ : ∃ K, K = (k : Rat) := ⟨_, rfl⟩
    rw [← hV, ← hP, ← hh, ← hK] at a b
    rw [← hP] at a0
    rw [← hV, ← hx, ← hh] at e1 e2
    rw [← hV] at h0 h1
    rw [← hx] at v0 v1
    rw [← hK] at hc hk0
    rw [← hh] at hp
    rw [ck, ← hP, ← hx, ← hh, ← hK]
    rw [u52] at *
    have A := Rat.mul_le_mul_of_nonneg_right a v0
    have B := Rat.mul_le_mul_of_nonneg_right b v0
    have Px0 := Rat.mul_nonneg a0 v0
    have KP0 := Rat.mul_nonneg hk0 Px0
    have KP1 := Rat.mul_le_mul_of_nonneg_right hc Px0
    have hx1 : h * x ≤ h := mul_le_one (Rat.le_of_lt hp) v1
    have hx0 := Rat.mul_nonneg (Rat.le_of_lt hp) v0
    have Kh0 := Rat.mul_nonneg hk0 (Rat.le_of_lt hp)
    have Kh1 := Rat.mul_le_mul_of_nonneg_right hc (Rat.le_of_lt hp)
    have Khx := Rat.mul_le_mul_of_nonneg_left hx1 hk0
    have Khx0 := Rat.mul_nonneg hk0 hx0
    refine ⟨Px0, by grind, ?_, ?_⟩
    · grind
    · grind

def qa (L : Nat → Nat) (a k : Nat) : Rat := val (L (a + k)) / val (L a)
theorem Dom.q_range {L : Nat → Nat} {v n i j : Nat} (D : Dom L v n i j) {a k : Nat} (h : a + k < n) (hp : 0 < val (L a)) : 0 ≤ qa L a k ∧ qa L a k ≤ 1 := by
  refine ⟨div_nonneg (D.lo _ h) hp, div_le_of hp ?_⟩
  rw [Rat.one_mul]; exact D.le a k h

/-- one term: the operations are valid; between 0 and 1; near 'vk * qa * qc' -/
theorem tm_ok {L : Nat → Nat} {v n i j : Nat} (D : Dom L v n i j) {k : Nat} (hi : i + k < n) (hj : j + k < n) :
    double.mul (vkW v k) (L (i + k)) = some (mulW (vkW v k) (L (i + k))) ∧
    double.div (mulW (vkW v k) (L (i + k))) (L i) = some (divW (mulW (vkW v k) (L (i + k))) (L i)) ∧
    double.mul (divW (mulW (vkW v k) (L (i + k))) (L i)) (L (j + k)) = some (mulW (divW (mulW (vkW v k) (L (i + k))) (L i)) (L (j + k))) ∧
    double.div (mulW (divW (mulW (vkW v k) (L (i + k))) (L i)) (L (j + k))) (L j) = some (tmW L v i j k) ∧
    Fin (tmW L v i j k) ∧ 0 ≤ val (tmW L v i j k) ∧ val (tmW L v i j k) ≤ 1 ∧
    Ap (val (tmW L v i j k)) (val (vkW v k) * qa L i k * qa L j k) (7 * p2 (-52)) (7 * p2 (-575)) ∧
    ((val (L (i + k)) = 0 ∨ val (L (j + k)) = 0) → val (tmW L v i j k) = 0) ∧ (k = 0 → val (tmW L v i j k) = 1) := by
  obtain ⟨vf, v0, v1⟩ := vk_ok D.vf D.v0 D.v1 k
  obtain ⟨m1, m2, f1, a1, b1, p1, z1, o1⟩ := pair_step vf (D.fin _ hi) (D.fin _ D.ni) v0 v1 (D.lo _ hi) (D.le i k hi) (D.hi _ D.ni) (D.big i D.ni D.pi)
  obtain ⟨m3, m4, f2, a2, b2, q2, z2, o2⟩ := pair_step f1 (D.fin _ hj) (D.fin _ D.nj) a1 b1 (D.lo _ hj) (D.le j k hj) (D.hi _ D.nj) (D.big j D.nj D.pj)
  refine ⟨m1, m2, m3, m4, f2, a2, b2, ?_, ?_, ?_⟩
  · obtain ⟨q0, q1⟩ := D.q_range hj D.pj
    obtain ⟨x0, d0, A, B⟩ := p1
    obtain ⟨y0, e0, C, E⟩ := q2
    show Ap (val (divW (mulW (divW (mulW (vkW v k) (L (i + k))) (L i)) (L (j + k))) (L j))) _ _ _
    have hx : val (vkW v k) * (val (L (i + k)) / val (L i)) = val (vkW v k) * qa L i k := rfl
    have hc : val (L (j + k)) / val (L j) = qa L j k := rfl
    rw [hx] at x0 A B
    rw [hc] at y0 C E
    generalize val (vkW v k) * qa L i k = X at *
    generalize qa L j k = c at *
    generalize val (divW (mulW (vkW v k) (L (i + k))) (L i)) = y at *
    generalize val (divW (mulW (divW (mulW (vkW v k) (L (i + k))) (L i)) (L (j + k))) (L j)) = t at *
    have hd := p2_pos (-575)
    generalize p2 (-575) = d at *
    rw [u52] at *
    have A' := Rat.mul_le_mul_of_nonneg_right A q0
    have B' := Rat.mul_le_mul_of_nonneg_right B q0
    have Xc := Rat.mul_nonneg x0 q0
    have dc := mul_le_one (Rat.le_of_lt hd) q1
    have dc0 := Rat.mul_nonneg (Rat.le_of_lt hd) q0
    refine ⟨Xc, by grind, ?_, ?_⟩
    · grind
    · grind
  · intro h
    refine z2 ?_
    rcases h with h | h
    · exact Or.inl (z1 (Or.inr h))
    · exact Or.inr h
  · intro h
    subst h
    refine o2 (o1 ?_ rfl) rfl
    rw [vkW]; exact one_val

/-- how many of the first K years see both living -/
def cnt (L : Nat → Nat) (i j : Nat) : Nat → Nat
  | 0 => 0
  | k + 1 => cnt L i j k + (if 0 < val (L (i + k)) ∧ 0 < val (L (j + k)) then 1 else 0)
theorem cnt_le (L : Nat → Nat) (i j K : Nat) : cnt L i j K ≤ K := by
  induction K with
  | zero => simp [cnt]
  | succ k ih => simp only [cnt]; split <;> omega

/-- the sum so far -/
theorem sm_ok {L : Nat → Nat} {v n i j : Nat} (D : Dom L v n i j) (K : Nat) (hi : i + K ≤ n) (hj : j + K ≤ n) :
    Fin (smW L v i j K) ∧ 0 ≤ val (smW L v i j K) ∧ val (smW L v i j K) ≤ cnt L i j K ∧ (0 < K → 1 ≤ val (smW L v i j K)) := by
  induction K with
  | zero => exact ⟨zero_fin, by rw [smW, zero_val]; exact Rat.le_refl, by rw [smW, zero_val]; exact Rat.le_refl, fun h => absurd h (by omega)⟩
  | succ k ih =>
    obtain ⟨f, h0, hc, h1⟩ := ih (by omega) (by omega)
    obtain ⟨-, -, -, -, tf, t0, t1, -, tz, to⟩ := tm_ok D (k := k) (by omega) (by omega)
    have hck := cnt_le L i j k
    have hn := D.nn
    have hck' : (cnt L i j k : Rat) ≤ 65536 := cast_le (by omega)
    have hbig : (65536 : Rat) + 1 ≤ p2 900 := by
      have h1 : p2 17 ≤ p2 900 := p2_mono (by omega)
      have h2 : p2 17 = 131072 := by decide +kernel
      grind
    obtain ⟨-, r, -, -⟩ := addW_rnd f tf h0 t0 (by grind)
    refine ⟨r.fin, r.nn, ?_, fun _ => ?_⟩
    · obtain ⟨nf, nv⟩ := nat_ok (cnt L i j (k + 1)) (by have := cnt_le L i j (k + 1); omega)
      have := r.up _ nf (by
        rw [nv]; simp only [cnt]
        split
        · rw [Rat.natCast_add]; have e1 : ((1 : Nat) : Rat) = 1 := rfl
          rw [e1]; grind
        · rename_i hno
          have hz : val (tmW L v i j k) = 0 := by
            refine tz ?_
            have a0 := D.lo (i + k) (by omega)
            have b0 := D.lo (j + k) (by omega)
            by_cases hA : 0 < val (L (i + k))
            · right
              have : ¬ 0 < val (L (j + k)) := fun h => hno ⟨hA, h⟩
              grind
            · left; grind
          rw [Nat.add_zero]; grind)
      rw [nv] at this; exact this
    · by_cases hk : k = 0
      · have e := to hk
        have := r.dn oneW one_fin (by rw [one_val, e]; grind)
        rw [one_val] at this; exact this
      · have := h1 (by omega)
        have := r.dn _ f (by grind)
        show 1 ≤ val (addW _ _)
        grind

theorem sm_step {L : Nat → Nat} {v n i j : Nat} (D : Dom L v n i j) (k : Nat) (hi : i + k < n) (hj : j + k < n) :
    double.add (smW L v i j k) (tmW L v i j k) = some (smW L v i j (k + 1)) ∧ val (smW L v i j k) ≤ val (smW L v i j (k + 1)) ∧
    val (smW L v i j (k + 1)) ≤ (val (smW L v i j k) + val (tmW L v i j k)) + (p2 (-53) * val (smW L v i j (k + 1)) + p2 (-1075)) ∧
    (val (smW L v i j k) + val (tmW L v i j k)) ≤ val (smW L v i j (k + 1)) + (p2 (-53) * val (smW L v i j (k + 1)) + p2 (-1075)) := by
  obtain ⟨f, h0, hc, -⟩ := sm_ok D k (by omega) (by omega)
  obtain ⟨-, -, -, -, tf, t0, t1, -, -, -⟩ := tm_ok D (k := k) hi hj
  have hck := cnt_le L i j k
  have hn := D.nn
  have hck' : (cnt L i j k : Rat) ≤ 65536 := cast_le (by omega)
  have hbig : (65536 : Rat) + 1 ≤ p2 900 := by
    have h1 : p2 17 ≤ p2 900 := p2_mono (by omega)
    have h2 : p2 17 = 131072 := by decide +kernel
    grind
  obtain ⟨e, r, a, b⟩ := addW_rnd f tf h0 t0 (by grind)
  exact ⟨e, r.dn _ f (by grind), a, b⟩

def sumR (f : Nat → Rat) : Nat → Rat
  | 0 => 0
  | k + 1 => sumR f k + f k

theorem sumAp {f g : Nat → Rat} {ρ δ : Rat} (hd : 0 ≤ δ) (K : Nat) (h : ∀ k, k < K → Ap (f k) (g k) ρ δ) : Ap (sumR f K) (sumR g K) ρ ((K : Rat) * δ) := by
  induction K with
  | zero => refine ⟨Rat.le_refl, by simp, ?_, ?_⟩ <;> simp [sumR] <;> grind
  | succ k ih =>
    obtain ⟨a0, d0, a, b⟩ := ih (fun k hk => h k (by omega))
    obtain ⟨c0, _, c, d⟩ := h k (by omega)
    have ck : ((k + 1 : Nat) : Rat) = (k : Rat) + 1 := Rat.natCast_add _ _
    simp only [sumR]
    rw [ck]
    refine ⟨Rat.add_nonneg a0 c0, by grind, by grind, by grind⟩

theorem sm_sum {L : Nat → Nat} {v n i j : Nat} (D : Dom L v n i j) (K : Nat) (hi : i + K ≤ n) (hj : j + K ≤ n) :
    val (smW L v i j K) ≤ sumR (fun k => val (tmW L v i j k)) K + (K : Rat) * (p2 (-53) * val (smW L v i j K) + p2 (-1075)) ∧
    sumR (fun k => val (tmW L v i j k)) K ≤ val (smW L v i j K) + (K : Rat) * (p2 (-53) * val (smW L v i j K) + p2 (-1075)) := by
  induction K with
  | zero => simp [smW, sumR, zero_val]; grind
  | succ k ih =>
    obtain ⟨a, b⟩ := ih (by omega) (by omega)
    obtain ⟨-, m, c, d⟩ := sm_step D k (by omega) (by omega)
    have ck : ((k + 1 : Nat) : Rat) = (k : Rat) + 1 := Rat.natCast_add _ _
    have hk0 : (0 : Rat) ≤ (k : Rat) := Rat.natCast_nonneg
    simp only [sumR]
    rw [ck]
    have m' := Rat.mul_le_mul_of_nonneg_left m (Rat.le_of_lt (p2_pos (-53)))
    have mk := Rat.mul_le_mul_of_nonneg_left m' hk0
    constructor
    · grind
    · grind

/-- the sum against the exact sum of what its terms stand near to -/
theorem sm_near {L : Nat → Nat} {v n i j : Nat} (D : Dom L v n i j) (K : Nat) (hi : i + K ≤ n) (hj : j + K ≤ n) {g : Nat → Rat} {ρ δ : Rat} (hd : 0 ≤ δ)
    (h : ∀ k, k < K → Ap (val (tmW L v i j k)) (g k) ρ δ) (hδ : δ ≤ p2 (-560)) :
    0 ≤ sumR g K ∧ val (smW L v i j K) ≤ sumR g K + (1 / 137438953472 * val (smW L v i j K) + ρ * sumR g K + p2 (-540)) ∧
    sumR g K ≤ val (smW L v i j K) + (1 / 137438953472 * val (smW L v i j K) + ρ * sumR g K + p2 (-540)) := by
  obtain ⟨a, b⟩ := sm_sum D K hi hj
  obtain ⟨c0, _, c, d⟩ := sumAp hd K h
  obtain ⟨-, s0, -, -⟩ := sm_ok D K hi hj
  have hK : (K : Rat) ≤ 65536 := cast_le (by have := D.nn; omega)
  have hK0 : (0 : Rat) ≤ (K : Rat) := Rat.natCast_nonneg
  have t1 := Rat.mul_le_mul_of_nonneg_right hK hd
  have e560 : 65536 * p2 (-560) = p2 (-544) := by
    have : (65536 : Rat) = p2 16 := by decide +kernel
    rw [this, ← p2_add]; exact congrArg p2 (by omega)
  have e540 : p2 (-540) = 16 * p2 (-544) := by
    have : (16 : Rat) = p2 4 := by decide +kernel
    rw [this, ← p2_add]; exact congrArg p2 (by omega)
  have t2 := Rat.mul_le_mul_of_nonneg_right hK (Rat.le_of_lt (p2_pos (-1075)))
  have e1075 : 65536 * p2 (-1075) ≤ p2 (-544) := by
    have : (65536 : Rat) = p2 16 := by decide +kernel
    rw [this, ← p2_add]; exact p2_mono (by omega)
  have hp := p2_pos (-544)
  have t3 := Rat.mul_le_mul_of_nonneg_right hK s0
  have t30 := Rat.mul_nonneg hK0 s0
  rw [u53] at a b
  refine ⟨c0, ?_, ?_⟩
  · grind
  · grind

end Go.Proofs.Qxb6619244a.Fl
