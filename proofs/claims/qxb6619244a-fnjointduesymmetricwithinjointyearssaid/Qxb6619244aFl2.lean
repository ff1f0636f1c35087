import Derived.Test.Qxb6619244aFl1
namespace Go.Proofs.Qxb6619244a.Fl
open Ieee

theorem p2_dbl {a b : Int} (h : a = b + 1) : p2 a = 2 * p2 b := by
  rw [h, p2_add, p2_one, Rat.mul_comm]

theorem natAbs_cast (z : Int) : ((z.natAbs : Nat) : Rat) = if z < 0 then -(z : Rat) else (z : Rat) := by
  split
  · have : (z.natAbs : Int) = -z := by omega
    have h : ((z.natAbs : Int) : Rat) = ((-z : Int) : Rat) := by rw [this]
    rw [Rat.intCast_natCast, Rat.intCast_neg] at h; exact h
  · have : (z.natAbs : Int) = z := by omega
    have h : ((z.natAbs : Int) : Rat) = (z : Rat) := by rw [this]
    rw [Rat.intCast_natCast] at h; exact h

theorem signed_val (s : Bool) (m : Nat) (i base : Int) (h : base ≤ i) :
    ((signed s m (i - base).toNat : Int) : Rat) * p2 base = dval (.number s m i) := by
  obtain ⟨n, hn, hp⟩ := p2_split h
  have e : (i - base).toNat = n := by omega
  simp only [signed, dval]
  rw [e, shl_eq, hp]
  cases s
  · simp only [Bool.false_eq_true, if_false]
    rw [Rat.intCast_natCast, Rat.natCast_mul]; grind
  · simp only [if_true]
    rw [Rat.intCast_neg, Rat.intCast_natCast, Rat.natCast_mul]; grind

theorem dval_total (total : Int) (z : Bool) (base : Int) :
    dval (.number (if total = 0 then z else decide (total < 0)) total.natAbs base) = (total : Rat) * p2 base := by
  simp only [dval]
  rw [natAbs_cast]
  by_cases h0 : total = 0
  · subst h0; cases z <;> simp <;> rfl
  · rw [if_neg h0]
    by_cases h1 : total < 0
    · simp only [h1, decide_true, if_true]; grind
    · simp only [h1, decide_false, if_false, Bool.false_eq_true]

theorem sum_number (s : Bool) (m : Nat) (i : Int) (t : Bool) (n : Nat) (j : Int) :
    ∃ u k e, (Datum.number s m i).sum (.number t n j) = some (.number u k e) ∧ dval (.number u k e) = dval (.number s m i) + dval (.number t n j) := by
  refine ⟨_, _, _, rfl, ?_⟩
  rw [dval_total, Rat.intCast_add, Rat.add_mul, signed_val s m i _ (Int.min_le_left _ _), signed_val t n j _ (Int.min_le_right _ _)]

theorem dval_neg_opp (s : Bool) (m : Nat) (i : Int) : dval (.number (!s) m i) = - dval (.number s m i) := by
  cases s <;> simp [dval] <;> grind

theorem val_of {b : Nat} {s : Bool} {m : Nat} {i : Int} (h : double.read b = .number s m i) : val b = dval (.number s m i) := by
  unfold val; rw [h]

/-- the magnitude of a number that stands for something not negative -/
theorem mag_of_nonneg {s : Bool} {m : Nat} {i : Int} (h : 0 ≤ dval (.number s m i)) : (m : Rat) * p2 i = dval (.number s m i) := by
  cases s
  · simp [dval]
  · have h1 : 0 ≤ (m : Rat) * p2 i := Rat.mul_nonneg Rat.natCast_nonneg (Rat.le_of_lt (p2_pos i))
    simp [dval] at h ⊢
    grind

theorem mul_number (s : Bool) (m : Nat) (i : Int) (t : Bool) (n : Nat) (j : Int) :
    dval (.number (s ^^ t) (m * n) (i + j)) = dval (.number s m i) * dval (.number t n j) := by
  simp only [dval]
  rw [Rat.natCast_mul, p2_add]
  cases s <;> cases t <;> simp <;> grind

/-- what a rounded result owes to the exact one, which is not negative -/
structure Rnd (r : Nat) (x : Rat) : Prop where
  fin : Fin r
  nn : 0 ≤ val r
  e1 : val r ≤ x + (p2 (-52) * x + p2 (-1075))
  e2 : x ≤ val r + (p2 (-52) * x + p2 (-1075))
  up : ∀ s, Fin s → x ≤ val s → val r ≤ val s
  dn : ∀ s, Fin s → val s ≤ x → val s ≤ val r

theorem u53_le {x : Rat} (h : 0 ≤ x) : p2 (-53) * x ≤ p2 (-52) * x :=
  Rat.mul_le_mul_of_nonneg_right (p2_mono (by omega)) h

theorem write_rnd {s : Bool} {m : Nat} {i : Int} (h0 : 0 ≤ dval (.number s m i)) (hx : dval (.number s m i) ≤ p2 900) :
    Rnd (double.write (.number s m i)) (dval (.number s m i)) ∧
    val (double.write (.number s m i)) ≤ dval (.number s m i) + (p2 (-53) * val (double.write (.number s m i)) + p2 (-1075)) ∧
    dval (.number s m i) ≤ val (double.write (.number s m i)) + (p2 (-53) * val (double.write (.number s m i)) + p2 (-1075)) := by
  have hm := mag_of_nonneg h0
  obtain ⟨M, I, hr, a1, a2, a3, a4, a5, a6⟩ := nearest_spec s m i (by rw [hm]; exact hx)
  have hr' : double.read (double.write (.number s m i)) = .number s M I := hr
  have hz : s = true → dval (.number s m i) = 0 := by
    intro e; subst e
    have h1 : 0 ≤ (m : Rat) * p2 i := Rat.mul_nonneg Rat.natCast_nonneg (Rat.le_of_lt (p2_pos i))
    have : dval (.number true m i) = -((m : Rat) * p2 i) := by simp [dval]
    grind
  have hv : val (double.write (.number s m i)) = (M : Rat) * p2 I := by
    rw [val_of hr']
    cases s
    · simp [dval]
    · have := a5 0 0 (by omega) (by omega) (by rw [hm, hz rfl]; simp)
      have h1 : 0 ≤ (M : Rat) * p2 I := Rat.mul_nonneg Rat.natCast_nonneg (Rat.le_of_lt (p2_pos I))
      have e0 : ((0 : Nat) : Rat) * p2 0 = 0 := by simp
      rw [e0] at this
      simp [dval]; grind
  have hnn : 0 ≤ (M : Rat) * p2 I := Rat.mul_nonneg Rat.natCast_nonneg (Rat.le_of_lt (p2_pos I))
  rw [hm] at a1 a2 a3 a4 a5 a6
  have hu := u53_le h0
  rw [hv]
  refine ⟨⟨⟨_, _, _, hr'⟩, by rw [hv]; exact hnn, by rw [hv]; grind, by rw [hv]; grind, ?_, ?_⟩, by grind, by grind⟩
  · intro w hw hle
    obtain ⟨sw, mw, iw, hrw, hmw, hiw⟩ := fin_shape hw
    have e := val_of hrw
    have h0w : 0 ≤ dval (.number sw mw iw) := by rw [← e]; grind
    rw [hv, e, ← mag_of_nonneg h0w]
    exact a5 mw iw hmw hiw (by rw [mag_of_nonneg h0w, ← e]; exact hle)
  · intro w hw hle
    obtain ⟨sw, mw, iw, hrw, hmw, hiw⟩ := fin_shape hw
    have e := val_of hrw
    by_cases h0w : 0 ≤ dval (.number sw mw iw)
    · rw [hv, e, ← mag_of_nonneg h0w]
      exact a6 mw iw hmw hiw (by rw [mag_of_nonneg h0w, ← e]; exact hle)
    · rw [hv, e]; grind

theorem mul_rnd {a b : Nat} (ha : Fin a) (hb : Fin b) (a0 : 0 ≤ val a) (b0 : 0 ≤ val b) (hx : val a * val b ≤ p2 900) :
    ∃ r, double.mul a b = some r ∧ Rnd r (val a * val b) := by
  obtain ⟨s, m, i, h1⟩ := ha
  obtain ⟨t, n, j, h2⟩ := hb
  have e := mul_number s m i t n j
  rw [← val_of h1, ← val_of h2] at e
  refine ⟨double.write (.number (s ^^ t) (m * n) (i + j)), ?_, ?_⟩
  · unfold Format.mul; rw [h1, h2]; rfl
  · rw [← e] at hx ⊢
    exact (write_rnd (by rw [e]; exact Rat.mul_nonneg a0 b0) hx).1

theorem add_rnd {a b : Nat} (ha : Fin a) (hb : Fin b) (a0 : 0 ≤ val a) (b0 : 0 ≤ val b) (hx : val a + val b ≤ p2 900) :
    ∃ r, double.add a b = some r ∧ Rnd r (val a + val b) ∧ val r ≤ (val a + val b) + (p2 (-53) * val r + p2 (-1075)) ∧ (val a + val b) ≤ val r + (p2 (-53) * val r + p2 (-1075)) := by
  obtain ⟨s, m, i, h1⟩ := ha
  obtain ⟨t, n, j, h2⟩ := hb
  obtain ⟨u, k, e, hs, hd⟩ := sum_number s m i t n j
  rw [← val_of h1, ← val_of h2] at hd
  refine ⟨double.write (.number u k e), ?_, ?_⟩
  · unfold Format.add; rw [h1, h2, hs]; rfl
  · rw [← hd] at hx ⊢
    exact write_rnd (by rw [hd]; exact Rat.add_nonneg a0 b0) hx

/-- a difference of either sign -/
theorem sub_bound {a b : Nat} (ha : Fin a) (hb : Fin b) (B : Rat) (h1 : val a - val b ≤ B) (h2 : val b - val a ≤ B) (hB : B ≤ p2 900) :
    ∃ r, double.sub a b = some r ∧ Fin r ∧ val r ≤ B + (p2 (-53) * B + p2 (-1075)) ∧ -(val r) ≤ B + (p2 (-53) * B + p2 (-1075)) := by
  obtain ⟨s, m, i, g1⟩ := ha
  obtain ⟨t, n, j, g2⟩ := hb
  obtain ⟨u, k, e, hs, hd⟩ := sum_number s m i (!t) n j
  rw [dval_neg_opp, ← val_of g1, ← val_of g2] at hd
  have hmag : (k : Rat) * p2 e ≤ B := by
    cases u <;> simp [dval] at hd <;> grind
  have hk0 : 0 ≤ (k : Rat) * p2 e := Rat.mul_nonneg Rat.natCast_nonneg (Rat.le_of_lt (p2_pos e))
  obtain ⟨M, I, hr, a1, a2, a3, a4, a5, a6⟩ := nearest_spec u k e (by grind)
  have hr' : double.read (double.write (.number u k e)) = .number u M I := hr
  refine ⟨double.write (.number u k e), ?_, ⟨_, _, _, hr'⟩, ?_⟩
  · unfold Format.sub; rw [g1, g2]
    show ((Datum.number s m i).sum (.number (!t) n j)).map _ = _
    rw [hs]; rfl
  · have hM0 : 0 ≤ (M : Rat) * p2 I := Rat.mul_nonneg Rat.natCast_nonneg (Rat.le_of_lt (p2_pos I))
    have hmul := Rat.mul_le_mul_of_nonneg_left hmag (Rat.le_of_lt (p2_pos (-53)))
    have hmul0 := Rat.mul_nonneg (Rat.le_of_lt (p2_pos (-53))) hk0
    have q0 := p2_pos (-1075)
    rw [val_of hr']
    cases u <;> simp [dval] <;> grind

theorem fin_opp {a : Nat} (ha : Fin a) (r : Nat) (h : double.read r = (double.read a).opposite) : Fin r ∧ val r = - val a := by
  obtain ⟨s, m, i, g⟩ := ha
  rw [g] at h
  have h' : double.read r = .number (!s) m i := h
  exact ⟨⟨_, _, _, h'⟩, by rw [val_of h', val_of g, dval_neg_opp]⟩

theorem div_rnd {a b : Nat} (ha : Fin a) (hb : Fin b) (a0 : 0 ≤ val a) (b0 : 0 < val b) (hx : val a / val b ≤ p2 899) :
    ∃ r, double.div a b = some r ∧ Rnd r (val a / val b) := by
  obtain ⟨s, m, i, h1⟩ := ha
  obtain ⟨t, n, j, h2⟩ := hb
  have hva := val_of h1
  have hvb := val_of h2
  have ma := mag_of_nonneg (s := s) (m := m) (i := i) (by rw [← hva]; exact a0)
  have mb := mag_of_nonneg (s := t) (m := n) (i := j) (by rw [← hvb]; exact Rat.le_of_lt b0)
  have hn : n ≠ 0 := by
    intro e; subst e
    have : ((0 : Nat) : Rat) * p2 j = 0 := by simp
    rw [hvb, ← mb, this] at b0; exact Rat.lt_irrefl b0
  have htf : t = false := by
    cases t
    · rfl
    · exfalso
      have : dval (.number true n j) = -((n : Rat) * p2 j) := by simp [dval]
      have h0 : 0 ≤ (n : Rat) * p2 j := Rat.mul_nonneg Rat.natCast_nonneg (Rat.le_of_lt (p2_pos j))
      grind
  subst htf
  -- the quotient's two numbers
  obtain ⟨more, hmore⟩ : ∃ more, more = 54 + n.log2 - m.log2 := ⟨_, rfl⟩
  have hq : (Datum.number s m i).quotient (double.fractionBits + 2) (.number false n j) =
      some (.number (s ^^ false) (2 * (m * 2 ^ more / n) + ((m * 2 ^ more) % n != 0).toNat) (i - j - more - 1)) := by
    unfold Datum.quotient
    simp only
    rw [if_neg hn, shl_eq, hmore]; rfl
  obtain ⟨Q, hQ⟩ : ∃ Q, Q = m * 2 ^ more / n := ⟨_, rfl⟩
  obtain ⟨R, hR⟩ : ∃ R, R = m * 2 ^ more % n := ⟨_, rfl⟩
  rw [← hQ, ← hR] at hq
  have hdm : n * Q + R = m * 2 ^ more := by rw [hQ, hR]; exact Nat.div_add_mod _ _
  have hRn : R < n := by rw [hR]; exact Nat.mod_lt _ (by omega)
  obtain ⟨st, hst⟩ : ∃ st : Nat, st = (R != 0).toNat := ⟨_, rfl⟩
  rw [← hst] at hq
  obtain ⟨pl, hpl⟩ : ∃ pl : Int, pl = i - j - more - 1 := ⟨_, rfl⟩
  rw [← hpl] at hq
  have hs0 : dval (.number (s ^^ false) (2 * Q + st) pl) = ((2 * Q + st : Nat) : Rat) * p2 pl := by
    cases s
    · simp [dval]
    · have e0 : m = 0 := by
        have h0 : dval (.number true m i) = -((m : Rat) * p2 i) := by simp [dval]
        have hz : (m : Rat) * p2 i = 0 := by
          have := Rat.mul_nonneg (Rat.natCast_nonneg (a := m)) (Rat.le_of_lt (p2_pos i)); grind
        rcases Rat.mul_eq_zero.1 hz with h | h
        · exact_mod_cast h
        · have := p2_pos i; rw [h] at this; exact absurd this (Rat.lt_irrefl)
      have eR : R = 0 := by rw [hR, e0]; simp
      have eQ : Q = 0 := by rw [hQ, e0]; simp
      have est : st = 0 := by rw [hst, eR]; rfl
      rw [eQ, est]; simp [dval]
  -- the exact quotient
  have hpn := p2_pos pl
  have hnR : (0 : Rat) < (n : Rat) := by exact_mod_cast Nat.pos_of_ne_zero hn
  have hxeq : val a / val b * (n : Rat) = (2 * (m * 2 ^ more : Nat) : Rat) * p2 pl := by
    have hb1 : val b = (n : Rat) * p2 j := by rw [hvb]; exact mb.symm
    have ha1 : val a = (m : Rat) * p2 i := by rw [hva]; exact ma.symm
    have hjp := p2_pos j
    have hjne : p2 j ≠ 0 := Rat.ne_of_gt hjp
    have hnne : (n : Rat) ≠ 0 := Rat.ne_of_gt hnR
    have hdc : val a / val b * val b = val a := Rat.div_mul_cancel (Rat.ne_of_gt b0)
    have e1 : p2 i = p2 j * (2 * (((2 ^ more : Nat) : Rat) * p2 pl)) := by
      rw [← p2_nat, ← p2_one, ← p2_add, ← p2_add, ← p2_add]; exact congrArg p2 (by omega)
    have e2 : (val a / val b * (n : Rat)) * p2 j = ((2 * (m * 2 ^ more : Nat) : Rat) * p2 pl) * p2 j := by
      rw [hb1, ha1, e1] at hdc
      rw [hb1, ha1, e1, Rat.natCast_mul]
      grind
    have e3 := congrArg (· * (p2 j)⁻¹) e2
    simp only [Rat.mul_assoc, Rat.mul_inv_cancel _ hjne, Rat.mul_one] at e3
    rw [Rat.mul_assoc]; exact e3
  obtain ⟨x, hxdef⟩ : ∃ x, x = val a / val b := ⟨_, rfl⟩
  rw [← hxdef] at hxeq hx ⊢
  have hcast : ((m * 2 ^ more : Nat) : Rat) = (n : Rat) * (Q : Rat) + (R : Rat) := by rw [← hdm]; exact_mod_cast rfl
  rw [hcast] at hxeq
  have hRr : (R : Rat) < (n : Rat) := by exact_mod_cast hRn
  have hR0 : (0 : Rat) ≤ (R : Rat) := Rat.natCast_nonneg
  -- x lies in [2Q, 2Q+2) * 2^pl, and is 2Q * 2^pl where nothing is left over
  have hlo : (2 * (Q : Rat)) * p2 pl ≤ x := by
    have := Rat.mul_nonneg hR0 (Rat.le_of_lt hpn)
    have h' : ((2 * (Q : Rat)) * p2 pl) * (n : Rat) ≤ x * (n : Rat) := by rw [hxeq]; grind
    exact Rat.le_of_mul_le_mul_right h' hnR
  have hhi : x < (2 * (Q : Rat) + 2) * p2 pl := by
    have := Rat.mul_lt_mul_of_pos_right hRr hpn
    have h' : x * (n : Rat) < ((2 * (Q : Rat) + 2) * p2 pl) * (n : Rat) := by rw [hxeq]; grind
    exact Rat.lt_of_mul_lt_mul_right h' (Rat.le_of_lt hnR)
  have hex : R = 0 → x = (2 * (Q : Rat)) * p2 pl := by
    intro e
    have er : (R : Rat) = 0 := by rw [e]; rfl
    have h' : x * (n : Rat) = ((2 * (Q : Rat)) * p2 pl) * (n : Rat) := by rw [hxeq, er]; grind
    have := congrArg (· * (n : Rat)⁻¹) h'
    simp only [Rat.mul_assoc, Rat.mul_inv_cancel _ (Rat.ne_of_gt hnR), Rat.mul_one] at this
    rw [Rat.mul_assoc]; exact this
  have x0 : 0 ≤ x := by
    rw [hxdef, Rat.div_def]; exact Rat.mul_nonneg a0 (Rat.le_of_lt (Rat.inv_pos.2 b0))
  by_cases hm0 : m = 0
  · -- nought
    have eR : R = 0 := by rw [hR, hm0]; simp
    have eQ : Q = 0 := by rw [hQ, hm0]; simp
    have est : st = 0 := by rw [hst, eR]; rfl
    have hd0 : dval (.number (s ^^ false) (2 * Q + st) pl) = x := by
      rw [hs0, hex eR, eQ, est]; simp
    refine ⟨double.write (.number (s ^^ false) (2 * Q + st) pl), ?_, ?_⟩
    · unfold Format.div; rw [h1, h2, hq]; rfl
    · rw [← hd0]
      exact (write_rnd (by rw [hd0]; exact x0) (by rw [hd0]; have := p2_mono (show (899 : Int) ≤ 900 by omega); grind)).1
  · -- Q has at least 54 digits
    have hQ53 : 2 ^ 53 ≤ Q := by
      rw [hQ, Nat.le_div_iff_mul_le (by omega)]
      have l1 := Nat.log2_self_le hm0
      have l2 : n < 2 ^ (n.log2 + 1) := Nat.lt_log2_self
      calc 2 ^ 53 * n ≤ 2 ^ 53 * 2 ^ (n.log2 + 1) := Nat.mul_le_mul_left _ (by omega)
        _ = 2 ^ (54 + n.log2) := by rw [← Nat.pow_add]; exact congrArg (2 ^ ·) (by omega)
        _ ≤ 2 ^ (m.log2 + more) := Nat.pow_le_pow_right (by omega) (by omega)
        _ = 2 ^ m.log2 * 2 ^ more := Nat.pow_add _ _ _
        _ ≤ m * 2 ^ more := Nat.mul_le_mul_right _ l1
    have hQr : ((2 ^ 53 : Nat) : Rat) ≤ (Q : Rat) := by exact_mod_cast hQ53
    obtain ⟨y, hy⟩ : ∃ y, y = ((2 * Q + st : Nat) : Rat) * p2 pl := ⟨_, rfl⟩
    have hst01 : (st = 0 ∧ R = 0) ∨ (st = 1 ∧ R ≠ 0) := by
      by_cases e : R = 0
      · left; exact ⟨by rw [hst, e]; rfl, e⟩
      · right; refine ⟨?_, e⟩; rw [hst]; have : (R != 0) = true := by simpa using e
        rw [this]; rfl
    have hyc : y = (2 * (Q : Rat) + (st : Rat)) * p2 pl := by
      rw [hy]; have : ((2 * Q + st : Nat) : Rat) = 2 * (Q : Rat) + (st : Rat) := by exact_mod_cast rfl
      rw [this]
    have hyx : y ≤ x + p2 pl ∧ x ≤ y + p2 pl := by
      rcases hst01 with ⟨e1, e2⟩ | ⟨e1, e2⟩
      · have := hex e2; rw [hyc, e1]; simp; grind
      · rw [hyc, e1]; simp; grind
    have hbig : p2 (54 + pl) ≤ x := by
      have e : p2 (54 + pl) = (2 * ((2 ^ 53 : Nat) : Rat)) * p2 pl := by
        rw [p2_add]; have : p2 54 = 2 * ((2 ^ 53 : Nat) : Rat) := by
          have := p2_nat 54
          have h2 : (2 ^ 54 : Nat) = 2 * 2 ^ 53 := by decide
          rw [h2, Rat.natCast_mul] at this; exact this
        rw [this]
      rw [e]
      have := Rat.mul_le_mul_of_nonneg_right hQr (Rat.le_of_lt hpn)
      grind
    have hsmall : p2 pl ≤ p2 (-54) * x := by
      have e : p2 pl = p2 (-54) * p2 (54 + pl) := by rw [← p2_add]; exact congrArg p2 (by omega)
      rw [e]; exact Rat.mul_le_mul_of_nonneg_left hbig (Rat.le_of_lt (p2_pos _))
    have hsm1 : p2 (-54) * x ≤ x := by
      have h1 : p2 (-54) ≤ 1 := by rw [← p2_zero]; exact p2_mono (by omega)
      have := Rat.mul_le_mul_of_nonneg_right h1 x0
      grind
    have hy0 : 0 ≤ y := by rw [hy]; exact Rat.mul_nonneg Rat.natCast_nonneg (Rat.le_of_lt hpn)
    have hy900 : y ≤ p2 900 := by
      have e : p2 900 = 2 * p2 899 := p2_dbl (by omega)
      grind
    have hd : dval (.number (s ^^ false) (2 * Q + st) pl) = y := by rw [hs0, hy]
    obtain ⟨hw, -, -⟩ := write_rnd (s := s ^^ false) (m := 2 * Q + st) (i := pl) (by rw [hd]; exact hy0) (by rw [hd]; exact hy900)
    rw [hd] at hw
    refine ⟨double.write (.number (s ^^ false) (2 * Q + st) pl), ?_, ?_⟩
    · unfold Format.div; rw [h1, h2, hq]; rfl
    · -- the error: 2^-53 of y, and 2^-54 of x
      obtain ⟨M, I, hr, a1, a2, a3, a4, a5, a6⟩ := nearest_spec (s ^^ false) (2 * Q + st) pl (by rw [← hy]; exact hy900)
      have hr' : double.read (double.write (.number (s ^^ false) (2 * Q + st) pl)) = .number (s ^^ false) M I := hr
      have hMv : val (double.write (.number (s ^^ false) (2 * Q + st) pl)) = (M : Rat) * p2 I := by
        have := mag_of_nonneg (s := s ^^ false) (m := M) (i := I) (by rw [← val_of hr']; exact hw.nn)
        rw [val_of hr', this]
      rw [← hy] at a1 a2
      have e52 : p2 (-52) * x = 2 * (p2 (-53) * x) := by
        have : p2 (-52) = 2 * p2 (-53) := by rw [← p2_one, ← p2_add]; exact congrArg p2 (by omega)
        rw [this]; grind
      have e53 : p2 (-53) * x = 2 * (p2 (-54) * x) := by
        have : p2 (-53) = 2 * p2 (-54) := by rw [← p2_one, ← p2_add]; exact congrArg p2 (by omega)
        rw [this]; grind
      have hux : p2 (-53) * y ≤ p2 (-53) * x + p2 (-53) * (p2 (-54) * x) := by
        have := Rat.mul_le_mul_of_nonneg_left (show y ≤ x + p2 (-54) * x by grind) (Rat.le_of_lt (p2_pos (-53)))
        grind
      have hu2 : p2 (-53) * (p2 (-54) * x) ≤ p2 (-54) * x := by
        have h1 : p2 (-53) ≤ 1 := by rw [← p2_zero]; exact p2_mono (by omega)
        have h2 : 0 ≤ p2 (-54) * x := Rat.mul_nonneg (Rat.le_of_lt (p2_pos _)) x0
        have := Rat.mul_le_mul_of_nonneg_right h1 h2
        grind
      refine ⟨hw.fin, hw.nn, by rw [hMv]; grind, by rw [hMv]; grind, ?_, ?_⟩
      · intro w hwf hle
        refine hw.up w hwf ?_
        obtain ⟨sw, mw, iw, hrw, hmw, hiw⟩ := fin_shape hwf
        have ew := val_of hrw
        have h0w : 0 ≤ dval (.number sw mw iw) := by rw [← ew]; grind
        rw [ew, ← mag_of_nonneg h0w] at hle ⊢
        rcases hst01 with ⟨e1, e2⟩ | ⟨e1, e2⟩
        · have := hex e2; rw [hyc, e1]; simp; grind
        · by_cases hc : pl + 1 ≤ iw
          · obtain ⟨k, _, hp⟩ := p2_split hc
            rw [p2_add pl 1, p2_one] at hp
            rw [hp] at hle ⊢
            have : (2 * (Q : Rat)) * p2 pl < (2 * ((mw * 2 ^ k : Nat) : Rat)) * p2 pl := by
              -- R is not nought: x is above 2Q
              have hgt : (2 * (Q : Rat)) * p2 pl < x := by
                have hRp : (0 : Rat) < (R : Rat) := by exact_mod_cast Nat.pos_of_ne_zero e2
                have := Rat.mul_pos hRp hpn
                have h' : ((2 * (Q : Rat)) * p2 pl) * (n : Rat) < x * (n : Rat) := by rw [hxeq]; grind
                exact Rat.lt_of_mul_lt_mul_right h' (Rat.le_of_lt hnR)
              rw [Rat.natCast_mul]; grind
            have hlt := Rat.lt_of_mul_lt_mul_right this (Rat.le_of_lt hpn)
            have hlt' : 2 * Q < 2 * (mw * 2 ^ k) := by exact_mod_cast hlt
            have hge : 2 * Q + 1 ≤ 2 * (mw * 2 ^ k) := by omega
            have hge' : 2 * (Q : Rat) + 1 ≤ 2 * ((mw * 2 ^ k : Nat) : Rat) := by exact_mod_cast hge
            have := Rat.mul_le_mul_of_nonneg_right hge' (Rat.le_of_lt hpn)
            rw [hyc, e1]
            rw [Rat.natCast_mul] at this
            simp; grind
          · exfalso
            have h2 : p2 (iw + 53) ≤ p2 (54 + pl) := p2_mono (by omega)
            have e53' : p2 (iw + 53) = ((2 ^ 53 : Nat) : Rat) * p2 iw := by rw [p2_add, Rat.mul_comm]; exact congrArg (· * p2 iw) (p2_nat 53)
            have hM' : (mw : Rat) < ((2 ^ 53 : Nat) : Rat) := by exact_mod_cast hmw
            have := Rat.mul_lt_mul_of_pos_right hM' (p2_pos iw)
            grind
      · intro w hwf hle
        refine hw.dn w hwf ?_
        obtain ⟨sw, mw, iw, hrw, hmw, hiw⟩ := fin_shape hwf
        have ew := val_of hrw
        by_cases h0w : 0 ≤ dval (.number sw mw iw)
        · rw [ew, ← mag_of_nonneg h0w] at hle ⊢
          rcases hst01 with ⟨e1, e2⟩ | ⟨e1, e2⟩
          · have := hex e2; rw [hyc, e1]; simp; grind
          · by_cases hc : pl + 1 ≤ iw
            · obtain ⟨k, _, hp⟩ := p2_split hc
              rw [p2_add pl 1, p2_one] at hp
              rw [hp] at hle ⊢
              have : (2 * ((mw * 2 ^ k : Nat) : Rat)) * p2 pl < (2 * (Q : Rat) + 2) * p2 pl := by
                rw [Rat.natCast_mul]; grind
              have hlt := Rat.lt_of_mul_lt_mul_right this (Rat.le_of_lt hpn)
              have hlt' : 2 * (mw * 2 ^ k) < 2 * Q + 2 := by exact_mod_cast hlt
              have hge : 2 * (mw * 2 ^ k) ≤ 2 * Q := by omega
              have hge' : 2 * ((mw * 2 ^ k : Nat) : Rat) ≤ 2 * (Q : Rat) := by exact_mod_cast hge
              have := Rat.mul_le_mul_of_nonneg_right hge' (Rat.le_of_lt hpn)
              rw [hyc, e1]
              rw [Rat.natCast_mul] at this
              simp; grind
            · have h2 : p2 (iw + 53) ≤ p2 (53 + pl) := p2_mono (by omega)
              have e53' : p2 (iw + 53) = ((2 ^ 53 : Nat) : Rat) * p2 iw := by rw [p2_add, Rat.mul_comm]; exact congrArg (· * p2 iw) (p2_nat 53)
              have e53'' : p2 (53 + pl) = ((2 ^ 53 : Nat) : Rat) * p2 pl := by rw [p2_add]; exact congrArg (· * p2 pl) (p2_nat 53)
              have hM' : (mw : Rat) < ((2 ^ 53 : Nat) : Rat) := by exact_mod_cast hmw
              have h3 := Rat.mul_lt_mul_of_pos_right hM' (p2_pos iw)
              have h4 := Rat.mul_le_mul_of_nonneg_right hQr (Rat.le_of_lt hpn)
              have h5 : (0 : Rat) ≤ (st : Rat) := Rat.natCast_nonneg
              have h6 := Rat.mul_nonneg h5 (Rat.le_of_lt hpn)
              have h7 := Rat.mul_nonneg (Rat.natCast_nonneg (a := Q)) (Rat.le_of_lt hpn)
              rw [hyc]; grind
        · rw [ew]; grind

/-- the order of two finite words is the order of what they stand for -/
theorem order_fin {a b : Nat} (ha : Fin a) (hb : Fin b) :
    double.order a b = some (if val a < val b then .lt else if val a = val b then .eq else .gt) := by
  obtain ⟨s, m, i, h1⟩ := ha
  obtain ⟨t, n, j, h2⟩ := hb
  unfold Format.order
  rw [val_of h1, val_of h2, h1, h2]
  show some (compare (signed s m (i - min i j).toNat) (signed t n (j - min i j).toNat)) = _
  have e1 := signed_val s m i _ (Int.min_le_left i j)
  have e2 := signed_val t n j _ (Int.min_le_right i j)
  have hp := p2_pos (min i j)
  generalize signed s m (i - min i j).toNat = A at *
  generalize signed t n (j - min i j).toNat = B at *
  rw [← e1, ← e2]
  congr 1
  by_cases h : A < B
  · have h' : (A : Rat) < (B : Rat) := by exact_mod_cast h
    rw [if_pos (Rat.mul_lt_mul_of_pos_right h' hp)]
    exact Int.compare_eq_lt.2 h
  · have h' : ¬ (A : Rat) * p2 (min i j) < (B : Rat) * p2 (min i j) := by
      intro hc; exact h (by exact_mod_cast Rat.lt_of_mul_lt_mul_right hc (Rat.le_of_lt hp))
    rw [if_neg h']
    by_cases he : A = B
    · subst he; rw [if_pos rfl]; exact Int.compare_eq_eq.2 rfl
    · have h'' : ¬ (A : Rat) * p2 (min i j) = (B : Rat) * p2 (min i j) := by
        intro hc
        have q1 : (A : Rat) ≤ B := le_of_mul_p2 (e := min i j) (by rw [hc]; exact Rat.le_refl)
        have q2 : (B : Rat) ≤ A := le_of_mul_p2 (e := min i j) (by rw [hc]; exact Rat.le_refl)
        have q1' : A ≤ B := by exact_mod_cast q1
        have q2' : B ≤ A := by exact_mod_cast q2
        omega
      rw [if_neg h'']
      exact Int.compare_eq_gt.2 (by omega)
end Go.Proofs.Qxb6619244a.Fl
