import Derived.Test.Qxb6619244aRows
import Derived.Test.Qxb6619244aFl5
import Derived.WalkKit
import Derived.WalkSpells
import Derived.WalkLawsBesides
import Derived.Deep.QuietTactic
import Derived.BigQuiet
import Derived.LoopTactic
namespace Go.Proofs.Qxb6619244a
open Go.RowKit
open Fl

theorem ret_float {k : FloatKind} {a b : Nat} (h : a = b) : Ending.returned (.float k a) = .returned (.float k b) := by rw [h]
theorem ret_bool {a b : Bool} (h : a = b) : Ending.returned (.bool a) = .returned (.bool b) := by rw [h]

set_option maxRecDepth 100000 in
set_option maxHeartbeats 400000 in
theorem jointDue_any (L : Nat → Nat) (v n i j cap : Nat) (x y mA : Int) (b t lb lo : Nat) (w : World) (D : Dom L v n i j)
    (hi : IntKind.i64.wrap (x - mA) = (i : Int)) (hj : IntKind.i64.wrap (y - mA) = (j : Int))
    (c0 : w.cell? ⟨b, 0, none⟩ = some (.pointer (some ⟨t, 0, none⟩))) (c1 : w.cell? ⟨b, 1, none⟩ = some (.float .f64 v))
    (c3 : w.cell? ⟨b, 3, none⟩ = some (.slice (some ⟨lb, lo, none⟩) n cap))
    (t2 : w.cell? ⟨t, 2, none⟩ = some (.int .i64 mA)) (hl : ∀ k, k < n → w.cell? ⟨lb, lo + k, none⟩ = some (.float .f64 (L k))) :
    Calls Try.prog 11 #[.pointer (some ⟨b, 0, none⟩), .int .i64 x, .int .i64 y] w fun e w' => e = .returned (.float .f64 (smW L v i j (n - max i j))) ∧ ∃ q, w' = w.drewN q := by
  go_enter Try.func11, Try.ntmps11
  go_wp2
  go_quiet (fail)
  go_wp2
  go_loopw [9, 10, 11] (fun sm vk k wr => ∃ (c q : Nat), c ≤ n - max i j ∧ k = .int .i64 c ∧ vk = .float .f64 (vkW v c) ∧ sm = .float .f64 (smW L v i j c) ∧ wr = w.drewN q) (fun _ _ k _ => n - (intOf k).toNat)
  case atStart => exact ⟨0, nq, Nat.zero_le _, rfl, rfl, rfl, rfl⟩
  case round =>
    obtain ⟨c, q, hc, rfl, rfl, rfl, rfl⟩ := hrel
    by_cases hlt : c < n - max i j
    · have k1 : i + c < n := by omega
      have k2 : j + c < n := by omega
      have g1 := hl (i + c) k1
      have g2 := hl i D.ni
      have g3 := hl (j + c) k2
      have g4 := hl j D.nj
      obtain ⟨e1, e2, e3, e4, -⟩ := tm_ok D k1 k2
      have e5 := (sm_step D c k1 k2).1
      have e6 := vk_mul D.vf D.v0 D.v1 c
      have m1 := fun wx => run_float_arith (P := Try.prog) wx .mul 22 .f64 _ _ _ e1
      have m2 := fun wx => run_float_arith (P := Try.prog) wx .quo 22 .f64 _ _ _ e2
      have m3 := fun wx => run_float_arith (P := Try.prog) wx .mul 22 .f64 _ _ _ e3
      have m4 := fun wx => run_float_arith (P := Try.prog) wx .quo 22 .f64 _ _ _ e4
      have m5 := fun wx => run_float_arith (P := Try.prog) wx .add 22 .f64 _ _ _ e5
      have m6 := fun wx => run_float_arith (P := Try.prog) wx .mul 22 .f64 _ _ _ e6
      have hn : n ≤ 65536 := D.nn
      have b1 : (i : Int) + c < n := by omega
      have b2 : (j : Int) + c < n := by omega
      have b3 : (i : Int) < n := by omega
      have b4 : (j : Int) < n := by omega
      clear hl e1 e2 e3 e4 e5 e6 D hi hj
      go_wp2
      go_quiet (fail)
      go_wp2
      go_roundw
      case rel => exact ⟨c + 1, _, by omega, by go_num, rfl, rfl, rfl⟩
      case measure => simp [intOf]; omega
    · have hn : n ≤ 65536 := D.nn
      have hni := D.ni
      have hnj := D.nj
      have ec : c = n - max i j := by omega
      by_cases k1 : i + c < n
      · have b1 : (i : Int) + c < n := by omega
        have b2 : ¬ (j : Int) + c < n := by omega
        have ec' : Hid (c = n - max i j) := ec
        clear hl D hi hj ec hlt
        go_wp2
        go_ret
        exact ⟨ret_float (congrArg _ ec'.out), _, rfl⟩
      · have b1 : ¬ (i : Int) + c < n := by omega
        have ec' : Hid (c = n - max i j) := ec
        clear hl D hi hj ec hlt
        go_wp2
        go_ret
        exact ⟨ret_float (congrArg _ ec'.out), _, rfl⟩

theorem wrap_diff (mA : Int) (i : Nat) (h : i < 18446744073709551616) : IntKind.u64.wrap (IntKind.u64.wrap (mA + i) - IntKind.u64.wrap mA) = i := by
  rw [IntKind.wrap_u64, IntKind.wrap_u64, IntKind.wrap_u64]; omega
theorem wf_range {x : Int} (h : (Lit.int .i64 x).wf = true) : -9223372036854775808 ≤ x ∧ x ≤ 9223372036854775807 := by
  simp [Lit.wf, IntKind.min, IntKind.max, IntKind.signed, IntKind.bits] at h; omega

/-- zzAge: the place of an age, if the table has it -/
theorem age_any (mA x : Int) (n : Nat) (w : World) (hn2 : 2 ≤ n) (hn : n ≤ 65536) (wm : (Lit.int .i64 mA).wf = true) (wx : (Lit.int .i64 x).wf = true) :
    Calls Try.prog 7 #[.int .i64 mA, .int .i64 x, .int .i64 n] w fun e w' => w' = w ∧ (e = .returned (.tuple #[.int .i64 0, .bool false]) ∨ ∃ i : Nat, i + 1 < n ∧ x = mA + i ∧ e = .returned (.tuple #[.int .i64 i, .bool true])) := by
  have bm := wf_range wm
  have bx := wf_range wx
  by_cases h1 : x < mA
  · clear wm wx bm bx
    go_enter Try.func7, Try.ntmps7
    go_wp2
    go_ret2
    exact ⟨rfl, .inl rfl⟩
  · obtain ⟨i, rfl⟩ : ∃ i : Nat, x = mA + i := ⟨(x - mA).toNat, by omega⟩
    have hw := wrap_diff mA i (by omega)
    clear wm wx bm bx
    by_cases h2 : i + 1 < n
    · have h3 : ¬ (n : Int) - 2 < i := by omega
      go_enter Try.func7, Try.ntmps7
      go_wp2
      go_ret2
      exact ⟨rfl, .inr ⟨i, h2, rfl, rfl⟩⟩
    · have h3 : (n : Int) - 2 < i := by omega
      go_enter Try.func7, Try.ntmps7
      go_wp2
      go_ret2
      exact ⟨rfl, .inl rfl⟩

theorem read_neg (a : Nat) : Ieee.double.read (Op.negFloat .f64 a) = (Ieee.double.read a).opposite := by
  have e : Op.negFloat .f64 a = a ^^^ 2 ^ 63 := rfl
  have d : (a ^^^ 2 ^ 63) / 2 ^ 63 % 2 = (a / 2 ^ 63 + 1) % 2 := by
    rw [Nat.xor_div_two_pow, Nat.div_self (by omega)]
    have h1 : (a / 2 ^ 63 ^^^ 1) % 2 ^ 1 = (a / 2 ^ 63) % 2 ^ 1 ^^^ 1 % 2 ^ 1 := Nat.xor_mod_two_pow
    rcases Nat.mod_two_eq_zero_or_one (a / 2 ^ 63) with h | h
    · have h2 : (a / 2 ^ 63 ^^^ 1) % 2 = 1 := by rw [show (2 : Nat) = 2 ^ 1 from rfl, h1, show (2 : Nat) ^ 1 = 2 from rfl, h]; rfl
      omega
    · have h2 : (a / 2 ^ 63 ^^^ 1) % 2 = 0 := by rw [show (2 : Nat) = 2 ^ 1 from rfl, h1, show (2 : Nat) ^ 1 = 2 from rfl, h]; rfl
      omega
  have m : (a ^^^ 2 ^ 63) % 2 ^ 63 = a % 2 ^ 63 := by
    rw [Nat.xor_mod_two_pow, Nat.mod_self, Nat.xor_zero]
  have hb : ((a / 2 ^ 63 + 1) % 2 == 1) = !(a / 2 ^ 63 % 2 == 1) := by
    rcases Nat.mod_two_eq_zero_or_one (a / 2 ^ 63) with h | h
    · have : (a / 2 ^ 63 + 1) % 2 = 1 := by omega
      rw [h, this]; rfl
    · have : (a / 2 ^ 63 + 1) % 2 = 0 := by omega
      rw [h, this]; rfl
  rw [e]
  unfold Ieee.Format.read
  rw [signWeight_eq]
  simp only [d, m, hb]
  split
  · rfl
  · split
    · rfl
    · split <;> rfl

/-- zzAbs of a finite word -/
theorem abs_any (a : Nat) (w : World) (fa : Fl.Fin a) :
    Calls Try.prog 9 #[.float .f64 a] w fun e w' => w' = w ∧ ∃ r, e = .returned (.float .f64 r) ∧ Abs a r := by
  have ho := order_fin fa zero_fin
  rw [zero_val] at ho
  by_cases h : val a < 0
  · have ht : (FloatKind.f64.format.order a 0 == some .lt) = true := by
      show (Ieee.double.order a 0 == some .lt) = true
      rw [ho, if_pos h]; rfl
    have hneg : ∀ wx, Sem.run Try.prog (Op.unary .neg (.float .f64 a)) wx = .ok (.float .f64 (Op.negFloat .f64 a)) wx := fun _ => rfl
    have hq : Hid (Abs a (Op.negFloat .f64 a)) := by
      obtain ⟨f, e⟩ := fin_opp fa _ (read_neg a)
      exact ⟨f, fun h0 => absurd h (by grind), fun _ => e⟩
    generalize Op.negFloat .f64 a = r at *
    clear ho h
    go_enter Try.func9, Try.ntmps9
    go_wp2
    go_ret
    exact ⟨rfl, r, rfl, hq.out⟩
  · have ht : (FloatKind.f64.format.order a 0 == some .lt) = false := by
      show (Ieee.double.order a 0 == some .lt) = false
      rw [ho, if_neg h]; split <;> rfl
    have hq : Hid (Abs a a) := ⟨fa, fun _ => rfl, fun hh => absurd hh h⟩
    clear ho h
    go_enter Try.func9, Try.ntmps9
    go_wp2
    go_ret
    exact ⟨rfl, a, rfl, hq.out⟩
end Go.Proofs.Qxb6619244a
