import Ieee.Arith
import Derived.Laws.FloatBits
namespace Go.Proofs.Qxb6619244a.Fl
open Ieee

/-- two to an integer power, as a rational. -/
def p2 (e : Int) : Rat := (2 : Rat) ^ e

theorem p2_pos (e : Int) : 0 < p2 e := Rat.zpow_pos (by decide)
theorem p2_add (a b : Int) : p2 (a + b) = p2 a * p2 b := Rat.zpow_add (by decide) a b
theorem p2_zero : p2 0 = 1 := Rat.zpow_zero 2
theorem p2_one : p2 1 = 2 := Rat.zpow_one 2
theorem p2_nat (n : Nat) : p2 (n : Int) = ((2 ^ n : Nat) : Rat) := by
  unfold p2; rw [Rat.zpow_natCast, Rat.natCast_pow]; rfl
theorem p2_ge_one (n : Nat) : 1 ≤ p2 (n : Int) := by
  rw [p2_nat]; have : 1 ≤ 2 ^ n := Nat.one_le_two_pow
  exact_mod_cast this
theorem p2_mono {a b : Int} (h : a ≤ b) : p2 a ≤ p2 b := by
  obtain ⟨n, hn⟩ : ∃ n : Nat, b = a + n := ⟨(b - a).toNat, by omega⟩
  rw [hn, p2_add]
  have h1 := p2_ge_one n
  have h2 := Rat.mul_le_mul_of_nonneg_left h1 (Rat.le_of_lt (p2_pos a))
  rw [Rat.mul_one] at h2; exact h2
theorem p2_split {a b : Int} (h : a ≤ b) : ∃ n : Nat, b = a + n ∧ p2 b = p2 a * ((2 ^ n : Nat) : Rat) := by
  refine ⟨(b - a).toNat, by omega, ?_⟩
  rw [← p2_nat, ← p2_add]; exact congrArg p2 (by omega)

/-- what a datum stands for (0 of what is no number) -/
def dval : Datum → Rat
  | .number s m i => if s then -((m : Rat) * p2 i) else (m : Rat) * p2 i
  | _ => 0

def val (b : Nat) : Rat := dval (double.read b)
def Fin (b : Nat) : Prop := ∃ s m i, double.read b = .number s m i

theorem leastPlace_eq : double.leastPlace = -1074 := by decide
theorem binade_eq : double.binade = 2 ^ 52 := by decide
theorem infRung_eq : double.infRung = 2047 * 2 ^ 52 := by decide
theorem signWeight_eq : double.signWeight = 2 ^ 63 := by decide

/-- half to even of 'n / 2^drop' -/
theorem cut_even (neg : Bool) (n drop : Nat) :
    2 * (Toward.even.cut neg n drop) * 2 ^ drop ≤ 2 * n + 2 ^ drop ∧ 2 * n ≤ 2 * (Toward.even.cut neg n drop) * 2 ^ drop + 2 ^ drop := by
  unfold Toward.cut
  simp only [Nat.one_shiftLeft]
  by_cases hd : drop ≤ n.log2 + 2
  · rw [Nat.min_eq_left hd]
    have hg : 0 < 2 ^ drop := Nat.two_pow_pos _
    generalize 2 ^ drop = g at *
    have h1 := Nat.div_add_mod n g
    have h2 := Nat.mod_lt n hg
    generalize n / g = lo at *
    generalize n % g = re at *
    have e1 : g * lo = lo * g := Nat.mul_comm _ _
    by_cases hm : (decide (g < 2 * re) || (g == 2 * re && lo % 2 == 1)) = true
    · rw [hm]
      simp only [Bool.toNat_true]
      have hge : g ≤ 2 * re := by
        rcases Bool.or_eq_true_iff.1 hm with h | h
        · have := of_decide_eq_true h; omega
        · have := (Bool.and_eq_true_iff.1 h).1; simp at this; omega
      have e2 : 2 * (lo + 1) * g = 2 * (lo * g) + 2 * g := by
        rw [Nat.mul_assoc, Nat.add_mul]; omega
      rw [e2]; omega
    · have hm' : (decide (g < 2 * re) || (g == 2 * re && lo % 2 == 1)) = false := by simpa using hm
      rw [hm']
      simp only [Bool.toNat_false, Nat.add_zero]
      have hle : 2 * re ≤ g := by
        rcases Bool.or_eq_false_iff.1 hm' with ⟨h, _⟩
        have := of_decide_eq_false h; omega
      have e2 : 2 * lo * g = 2 * (lo * g) := by rw [Nat.mul_assoc]
      rw [e2]; omega
  · rw [Nat.min_eq_right (by omega)]
    have hlt : n < 2 ^ (n.log2 + 1) := Nat.lt_log2_self
    have hle : 2 ^ (n.log2 + 2) ≤ 2 ^ drop := Nat.pow_le_pow_right (by omega) (by omega)
    have h22 : 2 ^ (n.log2 + 2) = 2 * 2 ^ (n.log2 + 1) := by rw [Nat.pow_succ]; omega
    have h0 : n / 2 ^ (n.log2 + 2) = 0 := Nat.div_eq_of_lt (by omega)
    have hm : n % 2 ^ (n.log2 + 2) = n := Nat.mod_eq_of_lt (by omega)
    rw [h0, hm]
    have hf : (decide (2 ^ (n.log2 + 2) < 2 * n) || (2 ^ (n.log2 + 2) == 2 * n && 0 % 2 == 1)) = false := by
      simp; omega
    rw [hf]
    simp only [Bool.toNat_false]
    omega

theorem shl_eq (n k : Nat) : n <<< k = n * 2 ^ k := Nat.shiftLeft_eq n k

theorem nearest_shape (neg : Bool) (mag : Nat) (place : Int) (hm : mag ≠ 0) :
    ∃ (kept : Nat) (last : Int), last = max (place + mag.log2 - 52) (-1074) ∧
      double.nearest neg mag place = double.word neg (min ((last + 1074).toNat * 2 ^ 52 + kept) (2047 * 2 ^ 52)) ∧
      2 * (kept : Rat) * p2 last ≤ 2 * (mag * p2 place) + p2 last ∧ 2 * (mag * p2 place) ≤ 2 * (kept : Rat) * p2 last + p2 last := by
  refine ⟨Toward.even.cut neg (mag <<< (place - max (place + mag.log2 - 52) (-1074)).toNat) (max (place + mag.log2 - 52) (-1074) - place).toNat, max (place + mag.log2 - 52) (-1074), rfl, ?_, ?_⟩
  · unfold Format.nearest
    rw [if_neg hm, leastPlace_eq, binade_eq, infRung_eq]
    show double.word neg (min ((max (place + ↑mag.log2 - ((52 : Nat) : Int)) (-1074) - -1074).toNat * _ + _) _) = _
    rfl
  · generalize max (place + (mag.log2 : Int) - 52) (-1074) = last
    have h := cut_even neg (mag <<< (place - last).toNat) (last - place).toNat
    generalize Toward.even.cut neg (mag <<< (place - last).toNat) (last - place).toNat = kept at *
    rw [shl_eq] at h
    have hsp := p2_pos place
    have hsl := p2_pos last
    by_cases hc : last ≤ place
    · obtain ⟨n, hn, hp⟩ := p2_split hc
      have e1 : (last - place).toNat = 0 := by omega
      have e2 : (place - last).toNat = n := by omega
      rw [e1, e2] at h
      simp only [Nat.pow_zero, Nat.mul_one] at h
      rw [hp]
      obtain ⟨ha, hb⟩ := h
      have ha' : (2 * (kept : Rat)) ≤ 2 * ((mag : Rat) * ((2 ^ n : Nat) : Rat)) + 1 := by exact_mod_cast ha
      have hb' : 2 * ((mag : Rat) * ((2 ^ n : Nat) : Rat)) ≤ (2 * (kept : Rat)) + 1 := by exact_mod_cast hb
      have ha2 := Rat.mul_le_mul_of_nonneg_right ha' (Rat.le_of_lt hsl)
      have hb2 := Rat.mul_le_mul_of_nonneg_right hb' (Rat.le_of_lt hsl)
      constructor
      · grind
      · grind
    · obtain ⟨n, hn, hp⟩ := p2_split (show place ≤ last by omega)
      have e1 : (last - place).toNat = n := by omega
      have e2 : (place - last).toNat = 0 := by omega
      rw [e1, e2] at h
      simp only [Nat.pow_zero, Nat.mul_one] at h
      rw [hp]
      obtain ⟨ha, hb⟩ := h
      have ha' : (2 * (kept : Rat)) * ((2 ^ n : Nat) : Rat) ≤ 2 * (mag : Rat) + ((2 ^ n : Nat) : Rat) := by exact_mod_cast ha
      have hb' : 2 * (mag : Rat) ≤ (2 * (kept : Rat)) * ((2 ^ n : Nat) : Rat) + ((2 ^ n : Nat) : Rat) := by exact_mod_cast hb
      have ha2 := Rat.mul_le_mul_of_nonneg_right ha' (Rat.le_of_lt hsp)
      have hb2 := Rat.mul_le_mul_of_nonneg_right hb' (Rat.le_of_lt hsp)
      constructor
      · grind
      · grind

/-- reading a word of a sign and a rung below infinity -/
theorem read_word (neg : Bool) (rung : Nat) (h : rung < 2047 * 2 ^ 52) :
    double.read (double.word neg rung) = if rung < 2 ^ 52 then .number neg rung (-1074) else .number neg (2 ^ 52 + rung % 2 ^ 52) (-1074 + ((rung / 2 ^ 52 - 1 : Nat) : Int)) := by
  have e1 : (double.word neg rung / 2 ^ 63 % 2 == 1) = neg := by
    unfold Format.word; rw [signWeight_eq]; cases neg <;> simp <;> omega
  have e2 : double.word neg rung % 2 ^ 63 = rung := by
    unfold Format.word; rw [signWeight_eq]; cases neg <;> simp <;> omega
  unfold Format.read
  rw [signWeight_eq, binade_eq, infRung_eq, leastPlace_eq]
  simp only [e1, e2]
  rw [if_pos h]

/-- 'kept * 2^last' is read back -/
theorem read_kept (neg : Bool) (E kept : Nat) (hE : E = 0 ∨ 2 ^ 52 ≤ kept) (hk : kept ≤ 2 ^ 53) (hlt : E < 2045) :
    ∃ m i, double.read (double.word neg (E * 2 ^ 52 + kept)) = .number neg m i ∧ (m : Rat) * p2 i = kept * p2 (E - 1074) := by
  rw [read_word neg _ (by omega)]
  by_cases h1 : E * 2 ^ 52 + kept < 2 ^ 52
  · rw [if_pos h1]
    have : E = 0 := by omega
    subst this
    refine ⟨_, _, rfl, ?_⟩
    simp only [Nat.zero_mul, Nat.zero_add]; rfl
  · rw [if_neg h1]
    refine ⟨_, _, rfl, ?_⟩
    by_cases h2 : kept = 2 ^ 53
    · subst h2
      have e1 : (E * 2 ^ 52 + 2 ^ 53) % 2 ^ 52 = 0 := by omega
      have e2 : ((E * 2 ^ 52 + 2 ^ 53) / 2 ^ 52 - 1 : Nat) = E + 1 := by omega
      rw [e1, e2]
      have e3 : (-1074 + ((E + 1 : Nat) : Int)) = ((E : Int) - 1074) + 1 := by omega
      rw [e3, p2_add, p2_one]
      have e4 : ((2 ^ 53 : Nat) : Rat) = ((2 ^ 52 + 0 : Nat) : Rat) * 2 := by
        have : (2 ^ 53 : Nat) = (2 ^ 52 + 0) * 2 := by decide
        exact_mod_cast this
      rw [e4]; grind
    · by_cases h3 : kept < 2 ^ 52
      · have : E = 0 := by omega
        subst this; omega
      · have e1 : 2 ^ 52 + (E * 2 ^ 52 + kept) % 2 ^ 52 = kept := by omega
        have e2 : ((E * 2 ^ 52 + kept) / 2 ^ 52 - 1 : Nat) = E := by omega
        rw [e1, e2]
        have e3 : (-1074 + (E : Int)) = ((E : Int) - 1074) := by omega
        rw [e3]

/-- a finite word is 'm * 2^i' with at most 53 digits -/
theorem fin_shape {b : Nat} (h : Fin b) : ∃ s m i, double.read b = .number s m i ∧ m < 2 ^ 53 ∧ -1074 ≤ i := by
  obtain ⟨s, m, i, h⟩ := h
  refine ⟨s, m, i, h, ?_⟩
  unfold Format.read at h
  rw [signWeight_eq, binade_eq, infRung_eq, leastPlace_eq] at h
  simp only at h
  split at h
  · cases h; omega
  · split at h
    · cases h; omega
    · split at h <;> cases h

theorem log2_bounds {mag : Nat} (hm : mag ≠ 0) (place : Int) :
    p2 (place + mag.log2) ≤ mag * p2 place ∧ mag * p2 place < 2 * p2 (place + mag.log2) := by
  have h1 := Nat.log2_self_le hm
  have h2 : mag < 2 ^ (mag.log2 + 1) := Nat.lt_log2_self
  have hp := p2_pos place
  rw [p2_add, p2_nat]
  have h1' : ((2 ^ mag.log2 : Nat) : Rat) ≤ (mag : Rat) := by exact_mod_cast h1
  have h2' : (mag : Rat) < 2 * ((2 ^ mag.log2 : Nat) : Rat) := by
    rw [Nat.pow_succ, Nat.mul_comm] at h2; exact_mod_cast h2
  have a := Rat.mul_le_mul_of_nonneg_right h1' (Rat.le_of_lt hp)
  have b := Rat.mul_lt_mul_of_pos_right h2' hp
  constructor
  · grind
  · grind

theorem natCast_le_of_lt_half {a b : Nat} (h : 2 * (a : Rat) ≤ 2 * (b : Rat) + 1) : a ≤ b := by
  have h' : 2 * a ≤ 2 * b + 1 := by exact_mod_cast h
  omega

theorem le_of_mul_p2 {a b : Rat} {e : Int} (h : a * p2 e ≤ b * p2 e) : a ≤ b := Rat.le_of_mul_le_mul_right h (p2_pos e)

/-- THE LAW OF ROUNDING, for the magnitude. -/
theorem nearest_spec (neg : Bool) (mag : Nat) (place : Int) (hx : (mag : Rat) * p2 place ≤ p2 900) :
    ∃ m i, double.read (double.nearest neg mag place) = .number neg m i ∧
      (m : Rat) * p2 i - mag * p2 place ≤ p2 (-53) * (mag * p2 place) + p2 (-1075) ∧
      (mag : Rat) * p2 place - m * p2 i ≤ p2 (-53) * (mag * p2 place) + p2 (-1075) ∧
      (m : Rat) * p2 i - mag * p2 place ≤ p2 (-53) * (m * p2 i) + p2 (-1075) ∧
      (mag : Rat) * p2 place - m * p2 i ≤ p2 (-53) * (m * p2 i) + p2 (-1075) ∧
      (∀ (M : Nat) (P : Int), M < 2 ^ 53 → -1074 ≤ P → (mag : Rat) * p2 place ≤ M * p2 P → (m : Rat) * p2 i ≤ M * p2 P) ∧
      (∀ (M : Nat) (P : Int), M < 2 ^ 53 → -1074 ≤ P → (M : Rat) * p2 P ≤ mag * p2 place → (M : Rat) * p2 P ≤ m * p2 i) := by
  by_cases hm : mag = 0
  · subst hm
    refine ⟨0, -1074, ?_, ?_⟩
    · unfold Format.nearest; rw [if_pos rfl, read_word neg 0 (by omega)]; simp
    · have h0 := p2_pos (-1075)
      have e : ((0 : Nat) : Rat) = 0 := rfl
      simp only [e, Rat.zero_mul, Rat.mul_zero]
      refine ⟨by grind, by grind, by grind, by grind, fun M P _ _ h => h, fun M P _ _ h => h⟩
  · obtain ⟨kept, last, hlast, hn, ha, hb⟩ := nearest_shape neg mag place hm
    obtain ⟨hl1, hl2⟩ := log2_bounds hm place
    have hx0 : 0 < p2 (place + mag.log2) := p2_pos _
    -- the place
    have hle : place + (mag.log2 : Int) < 901 := by
      apply Classical.byContradiction; intro hc
      have := p2_mono (show (900 : Int) + 1 ≤ place + mag.log2 by omega)
      rw [p2_add 900 1, p2_one] at this
      have := p2_pos 900
      grind
    have hpl := p2_pos last
    -- kept ≤ 2^53
    have hk53 : kept ≤ 2 ^ 53 := by
      have h1 : p2 (place + mag.log2) ≤ p2 (last + 52) := p2_mono (by omega)
      have e52 : p2 (last + 52) = p2 last * ((2 ^ 52 : Nat) : Rat) := by rw [p2_add]; exact congrArg _ (p2_nat 52)
      have h2 : (2 * (kept : Rat)) * p2 last ≤ (2 * ((2 ^ 53 : Nat) : Rat) + 1) * p2 last := by
        have e53 : ((2 ^ 53 : Nat) : Rat) = 2 * ((2 ^ 52 : Nat) : Rat) := by
          have : (2 ^ 53 : Nat) = 2 * 2 ^ 52 := by decide
          exact_mod_cast this
        grind
      exact natCast_le_of_lt_half (le_of_mul_p2 h2)
    have hk52 : -1074 < last → 2 ^ 52 ≤ kept := by
      intro hl
      have h1 : p2 (place + mag.log2) = p2 (last + 52) := congrArg p2 (by omega)
      have e52 : p2 (last + 52) = p2 last * ((2 ^ 52 : Nat) : Rat) := by rw [p2_add]; exact congrArg _ (p2_nat 52)
      have h2 : (2 * ((2 ^ 52 : Nat) : Rat)) * p2 last ≤ (2 * (kept : Rat) + 1) * p2 last := by grind
      exact natCast_le_of_lt_half (le_of_mul_p2 h2)
    have hmin : min ((last + 1074).toNat * 2 ^ 52 + kept) (2047 * 2 ^ 52) = (last + 1074).toNat * 2 ^ 52 + kept := by
      apply Nat.min_eq_left; omega
    rw [hmin] at hn
    obtain ⟨m, i, hr, hv⟩ := read_kept neg (last + 1074).toNat kept (by
      by_cases h : -1074 < last
      · exact Or.inr (hk52 h)
      · exact Or.inl (by omega)) hk53 (by omega)
    have elast : (((last + 1074).toNat : Int) - 1074) = last := by omega
    rw [elast] at hv
    refine ⟨m, i, by rw [hn]; exact hr, ?_⟩
    rw [hv]
    -- the error is at most half of 2^last
    have herr : p2 last ≤ 2 * (p2 (-53) * (mag * p2 place) + p2 (-1075)) ∧ p2 last ≤ 2 * (p2 (-53) * (kept * p2 last) + p2 (-1075)) := by
      have q0 := p2_pos (-1075)
      have q1 := p2_pos (-53)
      have hxx : 0 < (mag : Rat) * p2 place := by grind
      have hkk : 0 ≤ (kept : Rat) * p2 last := Rat.mul_nonneg Rat.natCast_nonneg (Rat.le_of_lt hpl)
      have m1 := Rat.mul_nonneg (Rat.le_of_lt q1) (Rat.le_of_lt hxx)
      have m2 := Rat.mul_nonneg (Rat.le_of_lt q1) hkk
      by_cases h : -1074 < last
      · have e : p2 last = 2 * (p2 (-53) * p2 (last + 52)) := by
          rw [← p2_add, ← p2_one, ← p2_add]; exact congrArg p2 (by omega)
        have h1 : p2 (place + mag.log2) = p2 (last + 52) := congrArg p2 (by omega)
        have h2 : p2 (last + 52) ≤ kept * p2 last := by
          have e52 : p2 (last + 52) = ((2 ^ 52 : Nat) : Rat) * p2 last := by rw [p2_add, Rat.mul_comm]; exact congrArg (· * p2 last) (p2_nat 52)
          rw [e52]
          exact Rat.mul_le_mul_of_nonneg_right (by exact_mod_cast hk52 h) (Rat.le_of_lt hpl)
        have a1 := Rat.mul_le_mul_of_nonneg_left (show p2 (last + 52) ≤ mag * p2 place by grind) (Rat.le_of_lt q1)
        have a2 := Rat.mul_le_mul_of_nonneg_left h2 (Rat.le_of_lt q1)
        constructor
        · grind
        · grind
      · have e : p2 last = 2 * p2 (-1075) := by
          rw [← p2_one, ← p2_add]; exact congrArg p2 (by omega)
        constructor
        · grind
        · grind
    refine ⟨by grind, by grind, by grind, by grind, ?_, ?_⟩
    · intro M P hM hP hle
      by_cases hc : last ≤ P
      · obtain ⟨n, _, hp⟩ := p2_split hc
        rw [hp] at hle ⊢
        have : (2 * (kept : Rat)) * p2 last ≤ (2 * ((M * 2 ^ n : Nat) : Rat) + 1) * p2 last := by
          have e : ((M * 2 ^ n : Nat) : Rat) = (M : Rat) * ((2 ^ n : Nat) : Rat) := Rat.natCast_mul _ _
          rw [e]; grind
        have hk := natCast_le_of_lt_half (le_of_mul_p2 this)
        have hk' : (kept : Rat) ≤ (M : Rat) * ((2 ^ n : Nat) : Rat) := by exact_mod_cast hk
        have := Rat.mul_le_mul_of_nonneg_right hk' (Rat.le_of_lt hpl)
        grind
      · exfalso
        have h1 : p2 (place + mag.log2) = p2 (last + 52) := congrArg p2 (by omega)
        have h2 : p2 (P + 53) ≤ p2 (last + 52) := p2_mono (by omega)
        have e53 : p2 (P + 53) = ((2 ^ 53 : Nat) : Rat) * p2 P := by rw [p2_add, Rat.mul_comm]; exact congrArg (· * p2 P) (p2_nat 53)
        have hM' : (M : Rat) < ((2 ^ 53 : Nat) : Rat) := by exact_mod_cast hM
        have := Rat.mul_lt_mul_of_pos_right hM' (p2_pos P)
        grind
    · intro M P hM hP hle
      by_cases hc : last ≤ P
      · obtain ⟨n, _, hp⟩ := p2_split hc
        rw [hp] at hle ⊢
        have : (2 * ((M * 2 ^ n : Nat) : Rat)) * p2 last ≤ (2 * (kept : Rat) + 1) * p2 last := by
          have e : ((M * 2 ^ n : Nat) : Rat) = (M : Rat) * ((2 ^ n : Nat) : Rat) := Rat.natCast_mul _ _
          rw [e]; grind
        have hk := natCast_le_of_lt_half (le_of_mul_p2 this)
        have hk' : (M : Rat) * ((2 ^ n : Nat) : Rat) ≤ (kept : Rat) := by exact_mod_cast hk
        have := Rat.mul_le_mul_of_nonneg_right hk' (Rat.le_of_lt hpl)
        grind
      · have h2 : p2 (P + 53) ≤ p2 (last + 52) := p2_mono (by omega)
        have e53 : p2 (P + 53) = ((2 ^ 53 : Nat) : Rat) * p2 P := by rw [p2_add, Rat.mul_comm]; exact congrArg (· * p2 P) (p2_nat 53)
        have e52 : p2 (last + 52) = ((2 ^ 52 : Nat) : Rat) * p2 last := by rw [p2_add, Rat.mul_comm]; exact congrArg (· * p2 last) (p2_nat 52)
        have hM' : (M : Rat) < ((2 ^ 53 : Nat) : Rat) := by exact_mod_cast hM
        have h3 := Rat.mul_lt_mul_of_pos_right hM' (p2_pos P)
        have h4 : ((2 ^ 52 : Nat) : Rat) ≤ (kept : Rat) := by exact_mod_cast hk52 (by omega)
        have h5 := Rat.mul_le_mul_of_nonneg_right h4 (Rat.le_of_lt hpl)
        grind
end Go.Proofs.Qxb6619244a.Fl
