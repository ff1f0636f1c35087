import Derived.Test.Qxb6619244aFl2
namespace Go.Proofs.Qxb6619244a.Fl
open Ieee

/-! the four operations on words, and the constants -/
def oneW : Nat := 4607182418800017408
def mulW (a b : Nat) : Nat := (double.mul a b).getD 0
def divW (a b : Nat) : Nat := (double.div a b).getD 0
def addW (a b : Nat) : Nat := (double.add a b).getD 0
def subW (a b : Nat) : Nat := (double.sub a b).getD 0

theorem one_read : double.read oneW = .number false (2 ^ 52) (-52) := by decide +kernel
theorem zero_read : double.read 0 = .number false 0 (-1074) := by decide +kernel
theorem one_fin : Fin oneW := ⟨_, _, _, one_read⟩
theorem zero_fin : Fin 0 := ⟨_, _, _, zero_read⟩
theorem one_val : val oneW = 1 := by
  rw [val_of one_read]; simp only [dval]
  rw [← p2_nat, ← p2_add]; exact p2_zero
theorem zero_val : val 0 = 0 := by
  rw [val_of zero_read]; simp [dval]

/-- the word of a natural number -/
def natW (c : Nat) : Nat := double.nearest false c 0
theorem nat_ok (c : Nat) (h : c < 2 ^ 53) : Fin (natW c) ∧ val (natW c) = c := by
  have hb : (c : Rat) * p2 0 ≤ p2 900 := by
    rw [p2_zero, Rat.mul_one]
    have h1 : (c : Rat) ≤ ((2 ^ 53 : Nat) : Rat) := by exact_mod_cast Nat.le_of_lt h
    have h2 : ((2 ^ 53 : Nat) : Rat) = p2 53 := (p2_nat 53).symm
    have h3 := p2_mono (show (53 : Int) ≤ 900 by omega)
    grind
  obtain ⟨m, i, hr, _, _, _, _, a5, a6⟩ := nearest_spec false c 0 hb
  have hr' : double.read (natW c) = .number false m i := hr
  refine ⟨⟨_, _, _, hr'⟩, ?_⟩
  rw [val_of hr']
  simp only [dval]
  have h1 := a5 c 0 h (by omega) Rat.le_refl
  have h2 := a6 c 0 h (by omega) Rat.le_refl
  rw [p2_zero, Rat.mul_one] at h1 h2
  have := Rat.le_antisymm h1 h2
  simpa using this

theorem rnd_zero {r : Nat} {x : Rat} (h : Rnd r x) (hx : x = 0) : val r = 0 := by
  have h1 := h.up 0 zero_fin (by rw [zero_val, hx]; exact Rat.le_refl)
  rw [zero_val] at h1
  exact Rat.le_antisymm h1 h.nn
/-- an exact result is handed back as it is -/
theorem rnd_exact {r s : Nat} {x : Rat} (h : Rnd r x) (hs : Fin s) (hx : x = val s) : val r = val s :=
  Rat.le_antisymm (h.up s hs (by rw [hx]; exact Rat.le_refl)) (h.dn s hs (by rw [hx]; exact Rat.le_refl))

theorem one_le_p2 (n : Nat) : (1 : Rat) ≤ p2 (n : Int) := p2_ge_one n
theorem mulW_rnd {a b : Nat} (ha : Fin a) (hb : Fin b) (a0 : 0 ≤ val a) (b0 : 0 ≤ val b) (hx : val a * val b ≤ p2 900) :
    double.mul a b = some (mulW a b) ∧ Rnd (mulW a b) (val a * val b) := by
  obtain ⟨r, hr, h⟩ := mul_rnd ha hb a0 b0 hx
  have : mulW a b = r := by unfold mulW; rw [hr]; rfl
  rw [this]; exact ⟨hr, h⟩
theorem divW_rnd {a b : Nat} (ha : Fin a) (hb : Fin b) (a0 : 0 ≤ val a) (b0 : 0 < val b) (hx : val a / val b ≤ p2 899) :
    double.div a b = some (divW a b) ∧ Rnd (divW a b) (val a / val b) := by
  obtain ⟨r, hr, h⟩ := div_rnd ha hb a0 b0 hx
  have : divW a b = r := by unfold divW; rw [hr]; rfl
  rw [this]; exact ⟨hr, h⟩
theorem addW_rnd {a b : Nat} (ha : Fin a) (hb : Fin b) (a0 : 0 ≤ val a) (b0 : 0 ≤ val b) (hx : val a + val b ≤ p2 900) :
    double.add a b = some (addW a b) ∧ Rnd (addW a b) (val a + val b) ∧ val (addW a b) ≤ (val a + val b) + (p2 (-53) * val (addW a b) + p2 (-1075)) ∧ (val a + val b) ≤ val (addW a b) + (p2 (-53) * val (addW a b) + p2 (-1075)) := by
  obtain ⟨r, hr, h⟩ := add_rnd ha hb a0 b0 hx
  have : addW a b = r := by unfold addW; rw [hr]; rfl
  rw [this]; exact ⟨hr, h⟩
theorem subW_bound {a b : Nat} (ha : Fin a) (hb : Fin b) (B : Rat) (h1 : val a - val b ≤ B) (h2 : val b - val a ≤ B) (hB : B ≤ p2 900) :
    double.sub a b = some (subW a b) ∧ Fin (subW a b) ∧ val (subW a b) ≤ B + (p2 (-53) * B + p2 (-1075)) ∧ -(val (subW a b)) ≤ B + (p2 (-53) * B + p2 (-1075)) := by
  obtain ⟨r, hr, h⟩ := sub_bound ha hb B h1 h2 hB
  have : subW a b = r := by unfold subW; rw [hr]; rfl
  rw [this]; exact ⟨hr, h⟩

theorem p900 : (1 : Rat) ≤ p2 900 := one_le_p2 900
theorem p899 : (1 : Rat) ≤ p2 899 := one_le_p2 899

theorem mul_le_one {x y : Rat} (x0 : 0 ≤ x) (y1 : y ≤ 1) : x * y ≤ x := by
  have := Rat.mul_le_mul_of_nonneg_left y1 x0
  rw [Rat.mul_one] at this; exact this
theorem div_nonneg {x y : Rat} (hx : 0 ≤ x) (hy : 0 < y) : 0 ≤ x / y := by
  rw [Rat.div_def]; exact Rat.mul_nonneg hx (Rat.le_of_lt (Rat.inv_pos.2 hy))
theorem div_le_of {x y z : Rat} (hy : 0 < y) (h : x ≤ z * y) : x / y ≤ z := by
  have e : x / y * y = x := Rat.div_mul_cancel (Rat.ne_of_gt hy)
  exact Rat.le_of_mul_le_mul_right (by rw [e]; exact h) hy
theorem le_div_of {x y z : Rat} (hy : 0 < y) (h : z * y ≤ x) : z ≤ x / y := by
  have e : x / y * y = x := Rat.div_mul_cancel (Rat.ne_of_gt hy)
  exact Rat.le_of_mul_le_mul_right (by rw [e]; exact h) hy

/-- 'y' is 'x' but for a part 'ρ' of x and 'δ' -/
structure Ap (y x ρ δ : Rat) : Prop where
  x0 : 0 ≤ x
  d0 : 0 ≤ δ
  a : y ≤ x + (ρ * x + δ)
  b : x ≤ y + (ρ * x + δ)

theorem u52 : p2 (-52) = 1 / 4503599627370496 := by decide +kernel
theorem u53 : p2 (-53) = 1 / 9007199254740992 := by decide +kernel

/-- 'y * a / B' with a ≤ B: two roundings -/
theorem pair_step {y a B : Nat} (fy : Fin y) (fa : Fin a) (fB : Fin B) (y0 : 0 ≤ val y) (y1 : val y ≤ 1) (a0 : 0 ≤ val a) (aB : val a ≤ val B) (B1 : val B ≤ 1) (Bn : p2 (-500) ≤ val B) :
    double.mul y a = some (mulW y a) ∧ double.div (mulW y a) B = some (divW (mulW y a) B) ∧ Fin (divW (mulW y a) B) ∧ 0 ≤ val (divW (mulW y a) B) ∧ val (divW (mulW y a) B) ≤ 1 ∧
    Ap (val (divW (mulW y a) B)) (val y * (val a / val B)) (3 * p2 (-52)) (3 * p2 (-575)) ∧ ((val y = 0 ∨ val a = 0) → val (divW (mulW y a) B) = 0) ∧ (val y = 1 → val a = val B → val (divW (mulW y a) B) = 1) := by
  have B0 : 0 < val B := by have := p2_pos (-500); grind
  have hya : val y * val a ≤ val a := by
    have := Rat.mul_le_mul_of_nonneg_right y1 a0; rw [Rat.one_mul] at this; exact this
  have hya0 : 0 ≤ val y * val a := Rat.mul_nonneg y0 a0
  obtain ⟨m1, r1⟩ := mulW_rnd fy fa y0 a0 (by have := p900; grind)
  have r1B : val (mulW y a) ≤ val B := Rat.le_trans (r1.up a fa hya) aB
  have hq1 : val (mulW y a) / val B ≤ 1 := div_le_of B0 (by rw [Rat.one_mul]; exact r1B)
  have hq0 : 0 ≤ val (mulW y a) / val B := div_nonneg r1.nn B0
  obtain ⟨m2, r2⟩ := divW_rnd r1.fin fB r1.nn B0 (by have := p899; grind)
  refine ⟨m1, m2, r2.fin, r2.nn, ?_, ?_, ?_, ?_⟩
  · have := r2.up oneW one_fin (by rw [one_val]; exact hq1)
    rw [one_val] at this; exact this
  · -- the error
    have qe : val y * (val a / val B) = (val y * val a) / val B := by
      rw [Rat.div_def, Rat.div_def, Rat.mul_assoc]
    obtain ⟨q, hq⟩ : ∃ q, q = val y * (val a / val B) := ⟨_, rfl⟩
    obtain ⟨z, hz⟩ : ∃ z, z = val (mulW y a) / val B := ⟨_, rfl⟩
    obtain ⟨x, hx⟩ : ∃ x, x = val y * val a := ⟨_, rfl⟩
    obtain ⟨iB, hiB⟩ : ∃ iB, iB = (val B)⁻¹ := ⟨_, rfl⟩
    have hi0 : 0 < iB := by rw [hiB]; exact Rat.inv_pos.2 B0
    have hi1 : iB * val B = 1 := by rw [hiB]; exact Rat.inv_mul_cancel _ (Rat.ne_of_gt B0)
    have hiB500 : iB ≤ p2 500 := by
      have h1 : p2 500 * p2 (-500) = 1 := by rw [← p2_add]; exact p2_zero
      have h2 := Rat.mul_le_mul_of_nonneg_left Bn (Rat.le_of_lt (p2_pos 500))
      have h3 : iB * val B ≤ p2 500 * val B := by rw [hi1, ← h1]; exact h2
      exact Rat.le_of_mul_le_mul_right h3 B0
    have hiB1 : 1 ≤ iB := by
      have := Rat.mul_le_mul_of_nonneg_left B1 (Rat.le_of_lt hi0)
      rw [hi1, Rat.mul_one] at this; exact this
    have e1 := r1.e1
    have e2 := r1.e2
    have e3 := r2.e1
    have e4 := r2.e2
    rw [← hz] at e3 e4 hq0
    rw [← hx] at e1 e2 hya0
    have hqx : q = x * iB := by rw [hq, qe, hx, hiB]; rfl
    have hzr : z = val (mulW y a) * iB := by rw [hz, hiB]; rfl
    have hq0' : 0 ≤ q := by rw [hqx]; exact Rat.mul_nonneg hya0 (Rat.le_of_lt hi0)
    have E1 := Rat.mul_le_mul_of_nonneg_right e1 (Rat.le_of_lt hi0)
    have E2 := Rat.mul_le_mul_of_nonneg_right e2 (Rat.le_of_lt hi0)
    have hh : p2 (-1075) * iB ≤ p2 (-575) := by
      have h1 : p2 (-1075) * p2 500 = p2 (-575) := by rw [← p2_add]; exact congrArg p2 (by omega)
      rw [← h1]; exact Rat.mul_le_mul_of_nonneg_left hiB500 (Rat.le_of_lt (p2_pos _))
    have hh0 : p2 (-1075) ≤ p2 (-575) := p2_mono (by omega)
    have hhp := p2_pos (-575)
    have hh2 := Rat.mul_nonneg (Rat.le_of_lt (p2_pos (-1075))) (Rat.le_of_lt hi0)
    have Z1 : z ≤ q + (p2 (-52) * q + p2 (-575)) := by rw [hzr, hqx]; grind
    have Z2 : q ≤ z + (p2 (-52) * q + p2 (-575)) := by rw [hzr, hqx]; grind
    rw [← hq]
    rw [u52] at e3 e4 Z1 Z2
    refine ⟨hq0', by grind, ?_, ?_⟩
    · rw [u52]; grind
    · rw [u52]; grind
  · intro h
    have hx : val y * val a = 0 := by rcases h with h | h <;> rw [h] <;> simp
    have h1 := rnd_zero r1 hx
    exact rnd_zero r2 (by rw [h1, Rat.div_def]; simp)
  · intro hy ha
    have h1 : val (mulW y a) = val B := by rw [← ha]; exact rnd_exact r1 fa (by rw [hy, Rat.one_mul])
    have h2 : val (mulW y a) / val B = val oneW := by
      rw [h1, one_val, Rat.div_def, Rat.mul_inv_cancel _ (Rat.ne_of_gt B0)]
    rw [rnd_exact r2 one_fin h2, one_val]

end Go.Proofs.Qxb6619244a.Fl
