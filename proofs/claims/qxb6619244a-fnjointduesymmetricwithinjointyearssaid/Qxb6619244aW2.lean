import Derived.Test.Qxb6619244aW1
namespace Go.Proofs.Qxb6619244a
open Go.RowKit
open Fl

/-- what zzSurvivors asks of the first c entries -/
def Good (L : Nat → Nat) (c : Nat) : Prop :=
  (∀ k, k < c → Fl.Fin (L k) ∧ 0 ≤ val (L k) ∧ val (L k) ≤ 1 ∧ (val (L k) = 0 ∨ p2 (-500) ≤ val (L k))) ∧ ∀ k, k + 1 < c → val (L (k + 1)) ≤ val (L k)

def tinyW : Nat := 2355382605114769408
theorem tiny_read : Ieee.double.read tinyW = .number false (2 ^ 52) (-552) := by decide +kernel
theorem tiny_fin : Fl.Fin tinyW := ⟨_, _, _, tiny_read⟩
theorem tiny_val : val tinyW = p2 (-500) := by
  rw [val_of tiny_read]; simp only [dval]
  rw [← p2_nat, ← p2_add]; exact congrArg p2 (by omega)

abbrev ord (a b : Nat) : Option Ordering := FloatKind.f64.format.order a b

/-- between 0 and 1: a finite word -/
theorem unit_fin (a : Nat) (h1 : (ord a 0 == some .gt || ord a 0 == some .eq) = true) (h2 : (ord a oneW == some .lt || ord a oneW == some .eq) = true) :
    Fl.Fin a ∧ 0 ≤ val a ∧ val a ≤ 1 := by
  have hf : Fl.Fin a := by
    cases hr : Ieee.double.read a with
    | number s m i => exact ⟨s, m, i, hr⟩
    | infinity s =>
      exfalso
      have e1 : ord a 0 = some (if s then .lt else .gt) := by
        show (Ieee.double.read a).order (Ieee.double.read 0) = _
        rw [hr, zero_read]; rfl
      have e2 : ord a oneW = some (if s then .lt else .gt) := by
        show (Ieee.double.read a).order (Ieee.double.read oneW) = _
        rw [hr, one_read]; rfl
      rw [e1] at h1; rw [e2] at h2
      cases s
      · exact absurd h2 (by decide)
      · exact absurd h1 (by decide)
    | nan s f =>
      exfalso
      have e1 : ord a 0 = none := by
        show (Ieee.double.read a).order (Ieee.double.read 0) = _
        rw [hr, zero_read]; rfl
      rw [e1] at h1
      exact absurd h1 (by decide)
  have o1 : ord a 0 = _ := order_fin hf zero_fin
  have o2 : ord a oneW = _ := order_fin hf one_fin
  rw [zero_val] at o1; rw [one_val] at o2
  rw [o1] at h1; rw [o2] at h2
  refine ⟨hf, ?_, ?_⟩
  · by_cases h : val a < 0
    · rw [if_pos h] at h1; exact absurd h1 (by decide)
    · grind
  · by_cases h : val a < 1
    · grind
    · rw [if_neg h] at h2
      by_cases h' : val a = 1
      · grind
      · rw [if_neg h'] at h2; exact absurd h2 (by decide)

theorem good_zero (L : Nat → Nat) : Good L 0 := ⟨fun k h => absurd h (by omega), fun k h => absurd h (by omega)⟩

theorem good_step (L : Nat → Nat) (c : Nat) (g : Good L c) (h1 : (ord (L c) 0 == some .gt || ord (L c) 0 == some .eq) = true) (h2 : (ord (L c) oneW == some .lt || ord (L c) oneW == some .eq) = true)
    (h3 : (ord (L c) 0 != some .eq) = false ∨ (ord (L c) tinyW == some .lt) = false) (h4 : c = 0 ∨ (ord (L c) (L (c - 1)) == some .gt) = false) : Good L (c + 1) := by
  obtain ⟨f, a0, a1⟩ := unit_fin _ h1 h2
  refine ⟨fun k hk => ?_, fun k hk => ?_⟩
  · by_cases e : k = c
    · subst e
      refine ⟨f, a0, a1, ?_⟩
      rcases h3 with h | h
      · left
        have o : ord (L k) 0 = _ := order_fin f zero_fin
        rw [o, zero_val] at h
        by_cases q : val (L k) < 0
        · grind
        · rw [if_neg q] at h
          by_cases q' : val (L k) = 0
          · exact q'
          · rw [if_neg q'] at h; exact absurd h (by decide)
      · right
        have o : ord (L k) tinyW = _ := order_fin f tiny_fin
        rw [o, tiny_val] at h
        by_cases q : val (L k) < p2 (-500)
        · rw [if_pos q] at h; exact absurd h (by decide)
        · grind
    · exact g.1 k (by omega)
  · by_cases e : k + 1 = c
    · subst e
      rcases h4 with h | h
      · omega
      · rw [Nat.add_sub_cancel] at h
        have o : ord (L (k + 1)) (L k) = _ := order_fin f (g.1 k (by omega)).1
        rw [o] at h
        by_cases q : val (L (k + 1)) < val (L k)
        · grind
        · rw [if_neg q] at h
          by_cases q' : val (L (k + 1)) = val (L k)
          · grind
          · rw [if_neg q'] at h; exact absurd h (by decide)
    · exact g.2 k (by omega)

set_option maxRecDepth 100000 in
set_option maxHeartbeats 400000 in
theorem surv_short (a : Option Addr) (n cap : Nat) (w : World) (hn : n < 2) :
    Calls Try.prog 6 #[.slice a n cap] w fun e w' => e = .returned (.bool false) ∧ w' = w := by
  have h : (n : Int) < 2 := by omega
  go_enter Try.func6, Try.ntmps6
  go_wp2
  go_ret
  exact ⟨rfl, rfl⟩

set_option maxRecDepth 100000 in
set_option maxHeartbeats 1000000 in
theorem surv_any (L : Nat → Nat) (n cap lb lo : Nat) (w : World) (hn2 : 2 ≤ n) (hn : n ≤ 65536)
    (hl : ∀ k, k < n → w.cell? ⟨lb, lo + k, none⟩ = some (.float .f64 (L k))) :
    Calls Try.prog 6 #[.slice (some ⟨lb, lo, none⟩) n cap] w fun e w' => w' = w ∧ (e = .returned (.bool false) ∨ e = .returned (.bool true) ∧ Good L n) := by
  have hq : ¬ (n : Int) < 2 := by omega
  have g0 := hl (n - 1) (by omega)
  have en : ((n : Int) - 1).toNat = n - 1 := by omega
  have bn : (n : Int) - 1 < n := by omega
  have bn0 : (0 : Int) ≤ (n : Int) - 1 := by omega
  by_cases hz : (FloatKind.f64.format.order (L (n - 1)) 0 != some .eq) = true
  · clear hl
    go_enter Try.func6, Try.ntmps6
    go_wp2
    go_ret
    exact ⟨rfl, .inl rfl⟩
  · replace hz : (FloatKind.f64.format.order (L (n - 1)) 0 != some .eq) = false := by simpa using hz
    go_enter Try.func6, Try.ntmps6
    go_wp2
    clear en bn bn0 g0 hz
    go_loop [4] (fun k => ∃ c : Nat, c ≤ n ∧ k = .int .i64 c ∧ Hid (Good L c)) (fun k => n - (intOf k).toNat)
    case atStart => exact ⟨0, Nat.zero_le _, rfl, good_zero L⟩
    case round =>
      obtain ⟨c, hc, rfl, hg⟩ := hrel
      by_cases hlt : c < n
      · have g1 := hl c hlt
        have b1 : (c : Int) < n := by omega
        by_cases t1 : (FloatKind.f64.format.order (L c) 0 == some .gt || FloatKind.f64.format.order (L c) 0 == some .eq) = true
        · by_cases t2 : (FloatKind.f64.format.order (L c) 4607182418800017408 == some .lt || FloatKind.f64.format.order (L c) 4607182418800017408 == some .eq) = true
          · by_cases t3 : (FloatKind.f64.format.order (L c) 0 != some .eq) = true
            · by_cases t4 : (FloatKind.f64.format.order (L c) 2355382605114769408 == some .lt) = true
              · clear hl
                go_wp2
                go_ret
                exact ⟨rfl, .inl rfl⟩
              · replace t4 : (FloatKind.f64.format.order (L c) 2355382605114769408 == some .lt) = false := by simpa using t4
                by_cases h0 : c = 0
                · have hg' : Hid (Good L (c + 1)) := good_step L c hg.out t1 t2 (.inr t4) (.inl h0)
                  have p1 : ¬ (0 : Int) < c := by omega
                  clear hl h0
                  go_wp2
                  go_round
                  case rel => exact ⟨c + 1, by omega, by go_num, hg'⟩
                  case measure => simp [intOf]; omega
                · have g2 := hl (c - 1) (by omega)
                  have p1 : (0 : Int) < c := by omega
                  have p2 : ((c : Int) - 1).toNat = c - 1 := by omega
                  have p3 : (c : Int) - 1 < n := by omega
                  have p4 : (0 : Int) ≤ (c : Int) - 1 := by omega
                  by_cases t5 : (FloatKind.f64.format.order (L c) (L (c - 1)) == some .gt) = true
                  · clear hl
                    go_wp2
                    go_ret
                    exact ⟨rfl, .inl rfl⟩
                  · replace t5 : (FloatKind.f64.format.order (L c) (L (c - 1)) == some .gt) = false := by simpa using t5
                    have hg' : Hid (Good L (c + 1)) := good_step L c hg.out t1 t2 (.inr t4) (.inr t5)
                    clear hl
                    go_wp2
                    go_round
                    case rel => exact ⟨c + 1, by omega, by go_num, hg'⟩
                    case measure => simp [intOf]; omega
            · replace t3 : (FloatKind.f64.format.order (L c) 0 != some .eq) = false := by simpa using t3
              by_cases h0 : c = 0
              · have hg' : Hid (Good L (c + 1)) := good_step L c hg.out t1 t2 (.inl t3) (.inl h0)
                have p1 : ¬ (0 : Int) < c := by omega
                clear hl h0
                go_wp2
                go_round
                case rel => exact ⟨c + 1, by omega, by go_num, hg'⟩
                case measure => simp [intOf]; omega
              · have g2 := hl (c - 1) (by omega)
                have p1 : (0 : Int) < c := by omega
                have p2 : ((c : Int) - 1).toNat = c - 1 := by omega
                have p3 : (c : Int) - 1 < n := by omega
                have p4 : (0 : Int) ≤ (c : Int) - 1 := by omega
                by_cases t5 : (FloatKind.f64.format.order (L c) (L (c - 1)) == some .gt) = true
                · clear hl
                  go_wp2
                  go_ret
                  exact ⟨rfl, .inl rfl⟩
                · replace t5 : (FloatKind.f64.format.order (L c) (L (c - 1)) == some .gt) = false := by simpa using t5
                  have hg' : Hid (Good L (c + 1)) := good_step L c hg.out t1 t2 (.inl t3) (.inr t5)
                  clear hl
                  go_wp2
                  go_round
                  case rel => exact ⟨c + 1, by omega, by go_num, hg'⟩
                  case measure => simp [intOf]; omega
          · replace t2 : (FloatKind.f64.format.order (L c) 4607182418800017408 == some .lt || FloatKind.f64.format.order (L c) 4607182418800017408 == some .eq) = false := by simpa using t2
            clear hl
            go_wp2
            go_ret
            exact ⟨rfl, .inl rfl⟩
        · replace t1 : (FloatKind.f64.format.order (L c) 0 == some .gt || FloatKind.f64.format.order (L c) 0 == some .eq) = false := by simpa using t1
          clear hl
          go_wp2
          go_ret
          exact ⟨rfl, .inl rfl⟩
      · have ec : c = n := by omega
        subst ec
        clear hl
        go_wp2
        go_ret
        exact ⟨rfl, .inr ⟨rfl, hg.out⟩⟩
end Go.Proofs.Qxb6619244a
