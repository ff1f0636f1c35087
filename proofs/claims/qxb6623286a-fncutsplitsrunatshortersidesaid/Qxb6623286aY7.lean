import Derived.Test.Qxb6623286aY1
namespace Go.Proofs.Qxb6623286a
open Go.RowKit

set_option maxRecDepth 100000 in
set_option maxHeartbeats 4000000 in
/-- zzBytes answers -/
theorem bytes_any (w : World) (a0 a1 a2 a3 a4 a5 a6 a7 : Option Addr) (l0 l1 l2 l3 l4 l5 l6 l7 c0 c1 c2 c3 c4 c5 c6 c7 : Nat) (cl v : Int) (ra : Nat → Option Addr) (ln rc : Nat → Nat)
    (h0 : (l0 : Int) ≤ 9223372036854775807) (h1 : (l1 : Int) ≤ 9223372036854775807) (h2 : (l2 : Int) ≤ 9223372036854775807) (h3 : (l3 : Int) ≤ 9223372036854775807) (h4 : (l4 : Int) ≤ 9223372036854775807) (h5 : (l5 : Int) ≤ 9223372036854775807) (h6 : (l6 : Int) ≤ 9223372036854775807) (h7 : (l7 : Int) ≤ 9223372036854775807)
    (hr : 0 < l6 → ∃ b o, a6 = some ⟨b, o, none⟩ ∧ ∀ k, k < l6 → w.cell? ⟨b, o + k, none⟩ = some (.slice (ra k) (ln k) (rc k)) ∧ (ln k : Int) ≤ 9223372036854775807) :
    Calls Try.prog 4 #[.slice a0 l0 c0, .slice a1 l1 c1, .slice a2 l2 c2, .slice a3 l3 c3, .slice a4 l4 c4, .slice a5 l5 c5, .slice a6 l6 c6, .slice a7 l7 c7, .int .i64 cl, .int .i32 v] w fun e w' => w' = w ∧ (e = .returned (.bool false) ∨ e = .returned (.bool true)) := by
  have HR := Lib.hid hr
  clear hr
  go_enter Try.func4, Try.ntmps4
  go_wp2
  all_goals first
    | (go_ret; exact ⟨rfl, .inl rfl⟩)
    | skip
  go_loop [21, 22] (fun z i => ∃ (c s : Nat), (c : Int) ≤ l6 ∧ (s : Int) ≤ 1048576 ∧ i = .int .i64 c ∧ z = .int .i64 s) (fun _ i => l6 - (intOf i).toNat)
  case atStart => exact ⟨0, l0 + l1 + l2 + l3 + l4 + l5 + l6, by omega, by omega, rfl, by simp⟩
  case round =>
    obtain ⟨c, s, hcl, hs, rfl, rfl⟩ := hrel
    by_cases hlt : c < l6
    · obtain ⟨b, o, rfl, hcell⟩ := HR.out (by omega)
      obtain ⟨g1, g2⟩ := hcell c hlt
      have b2 : (c : Int) < l6 := by omega
      clear hcell
      by_cases t1 : (1048576 : Int) < ln c
      · go_wp2
        go_ret
        exact ⟨rfl, .inl rfl⟩
      · by_cases t2 : (1048576 : Int) < (s : Int) + ln c
        · go_wp2
          go_ret
          exact ⟨rfl, .inl rfl⟩
        · go_wp2
          go_round
          case rel => exact ⟨c + 1, s + ln c, by omega, by omega, by go_num, by go_num⟩
          case measure => simp [intOf]; omega
    · have b2 : ¬ (c : Int) < l6 := by omega
      by_cases t1 : (1048576 : Int) < l7
      · go_wp2
        go_ret
        exact ⟨rfl, .inl rfl⟩
      · by_cases t2 : (1048576 : Int) < (s : Int) + l7
        · go_wp2
          go_ret
          exact ⟨rfl, .inl rfl⟩
        · go_wp2
          go_ret
          exact ⟨rfl, .inr rfl⟩
end Go.Proofs.Qxb6623286a
