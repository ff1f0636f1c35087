import Derived.Test.Qxb6623375aA1
namespace Go.Proofs.Qxb6623375a
open Go.RowKit

/-- the tags that came in -/
structure TagsIn (w : World) (a : Option Addr) (n : Nat) (nm dg : Nat → ByteArray) (mv : Nat → Value) (ml : Nat → Nat) (mf : Nat → Nat → ByteArray) : Prop where
  cells : 0 < n → ∃ b o, a = some ⟨b, o, none⟩ ∧ b < w.heap.size ∧ ∀ k, k < n → w.cell? ⟨b, o + k * 3, none⟩ = some (.string (nm k)) ∧ w.cell? ⟨b, o + k * 3 + 1, none⟩ = some (.string (dg k)) ∧ w.cell? ⟨b, o + k * 3 + 2, none⟩ = some (mv k)
  mans : ∀ k, k < n → StrsIn w (mv k) (ml k) (mf k)
  big : ∀ k, k < n → ((nm k).size : Int) ≤ 9223372036854775807 ∧ ((dg k).size : Int) ≤ 9223372036854775807 ∧ (ml k : Int) ≤ 9223372036854775807
  bigm : ∀ k j, k < n → j < ml k → ((mf k j).size : Int) ≤ 9223372036854775807
/-- the decisions that came in -/
structure DecsIn (w : World) (a : Option Addr) (n : Nat) (ac im : Nat → ByteArray) (ru : Nat → Int) (un : Nat → Bool) : Prop where
  cells : 0 < n → ∃ b o, a = some ⟨b, o, none⟩ ∧ b < w.heap.size ∧ ∀ k, k < n → w.cell? ⟨b, o + k * 4, none⟩ = some (.string (ac k)) ∧ w.cell? ⟨b, o + k * 4 + 1, none⟩ = some (.int .i64 (ru k)) ∧ w.cell? ⟨b, o + k * 4 + 2, none⟩ = some (.string (im k)) ∧ w.cell? ⟨b, o + k * 4 + 3, none⟩ = some (.bool (un k))
  big : ∀ k, k < n → ((ac k).size : Int) ≤ 9223372036854775807 ∧ ((im k).size : Int) ≤ 9223372036854775807

theorem TagsIn.after {w w' : World} {a : Option Addr} {n : Nat} {nm dg : Nat → ByteArray} {mv : Nat → Value} {ml : Nat → Nat} {mf : Nat → Nat → ByteArray} (h : TagsIn w a n nm dg mv ml mf) (hb : Below w.heap.size w w') : TagsIn w' a n nm dg mv ml mf := by
  refine ⟨fun h0 => ?_, fun k hk => (h.mans k hk).after hb, h.big, h.bigm⟩
  obtain ⟨b, o, e, hlt, hc⟩ := h.cells h0
  refine ⟨b, o, e, Nat.lt_of_lt_of_le hlt hb.size, fun k hk => ?_⟩
  rw [hb.cell (p := ⟨b, o + k * 3, none⟩) hlt, hb.cell (p := ⟨b, o + k * 3 + 1, none⟩) hlt, hb.cell (p := ⟨b, o + k * 3 + 2, none⟩) hlt]
  exact hc k hk
theorem DecsIn.after {w w' : World} {a : Option Addr} {n : Nat} {ac im : Nat → ByteArray} {ru : Nat → Int} {un : Nat → Bool} (h : DecsIn w a n ac im ru un) (hb : Below w.heap.size w w') : DecsIn w' a n ac im ru un := by
  refine ⟨fun h0 => ?_, h.big⟩
  obtain ⟨b, o, e, hlt, hc⟩ := h.cells h0
  refine ⟨b, o, e, Nat.lt_of_lt_of_le hlt hb.size, fun k hk => ?_⟩
  rw [hb.cell (p := ⟨b, o + k * 4, none⟩) hlt, hb.cell (p := ⟨b, o + k * 4 + 1, none⟩) hlt, hb.cell (p := ⟨b, o + k * 4 + 2, none⟩) hlt, hb.cell (p := ⟨b, o + k * 4 + 3, none⟩) hlt]
  exact hc k hk

set_option maxRecDepth 100000 in
set_option maxHeartbeats 4000000 in
/-- zzBytes answers; nothing turns -/
theorem bytes_any (w : World) (a0 a1 : Option Addr) (n m c0 c1 : Nat) (nm dg ac im : Nat → ByteArray) (mv : Nat → Value) (ml : Nat → Nat) (mf : Nat → Nat → ByteArray) (ru : Nat → Int) (un : Nat → Bool)
    (hT : TagsIn w a0 n nm dg mv ml mf) (hD : DecsIn w a1 m ac im ru un) (hm : (m : Int) ≤ 9223372036854775807) :
    Calls Try.prog 4 #[.slice a0 n c0, .slice a1 m c1] w fun e w' => w' = w ∧ (e = .returned (.bool false) ∨ e = .returned (.bool true)) := by
  have HT := Lib.hid hT
  have HD := Lib.hid hD
  clear hT hD
  by_cases n1 : 1048576 < (n : Int)
  · go_enter Try.func4, Try.ntmps4
    go_wp2
    go_ret
    exact ⟨rfl, .inl rfl⟩
  have hn : (n : Int) ≤ 1048576 := by omega
  go_enter Try.func4, Try.ntmps4
  go_wp2
  go_loopw [5, 6] (fun zt zi wr => ∃ (t : Int) (i : Nat), zt = .int .i64 t ∧ zi = .int .i64 i ∧ (i : Int) ≤ n ∧ 0 ≤ t ∧ t ≤ 1048576 ∧ w = wr) (fun _ zi _ => n - (intOf zi).toNat)
  case atStart => exact ⟨n, 0, by simp, rfl, by omega, by omega, by omega, rfl⟩
  case round =>
    obtain ⟨t, i, rfl, rfl, hi, ht0, ht1, hw⟩ := hrel
    subst hw
    by_cases hlt : i < n
    · have b0 : (i : Int) < n := by omega
      obtain ⟨tb, to, rfl, htb, hc⟩ := HT.out.cells (by omega)
      obtain ⟨g1, g2, g3⟩ := hc i hlt
      obtain ⟨z1, z2, z3⟩ := HT.out.big i hlt
      obtain ⟨xa, xc, hx, hxc⟩ := (HT.out.mans i hlt).strs
      rw [hx] at g3
      clear hc hx
      by_cases s1 : 1048576 < ((nm i).size : Int)
      · go_wp2
        go_ret
        exact ⟨rfl, .inl rfl⟩
      by_cases s2 : 1048576 < t + (nm i).size
      · go_wp2
        go_ret
        exact ⟨rfl, .inl rfl⟩
      by_cases s3 : 1048576 < ((dg i).size : Int)
      · go_wp2
        go_ret
        exact ⟨rfl, .inl rfl⟩
      by_cases s4 : 1048576 < t + (nm i).size + (dg i).size
      · go_wp2
        go_ret
        exact ⟨rfl, .inl rfl⟩
      by_cases s5 : 1048576 < (ml i : Int)
      · go_wp2
        go_ret
        exact ⟨rfl, .inl rfl⟩
      by_cases s6 : 1048576 < t + (nm i).size + (dg i).size + ml i
      · go_wp2
        go_ret
        exact ⟨rfl, .inl rfl⟩
      have HX := Lib.hid hxc
      clear hxc
      go_wp2
      go_loopw [5, 7] (fun zt zk wr => ∃ (s : Int) (k : Nat), zt = .int .i64 s ∧ zk = .int .i64 k ∧ (k : Int) ≤ ml i ∧ 0 ≤ s ∧ s ≤ 1048576 ∧ w = wr) (fun _ zk _ => ml i - (intOf zk).toNat)
      case atStart => exact ⟨t + (nm i).size + (dg i).size + ml i, 0, by go_num, rfl, by omega, by omega, by omega, rfl⟩
      case round =>
        obtain ⟨s, k, rfl, rfl, hk, hs0, hs1, hw⟩ := hrel
        subst hw
        clear s1 s2 s3 s4 s6 z1 z2 g1 g2
        by_cases hkl : k < ml i
        · have b1 : (k : Int) < ml i := by omega
          obtain ⟨xb, xo, rfl, hxb, hxcell⟩ := HX.out (by omega)
          have g4 := hxcell k hkl
          have z4 := HT.out.bigm i k hlt hkl
          clear hxcell
          by_cases u1 : 1048576 < ((mf i k).size : Int)
          · go_wp2
            go_ret
            exact ⟨rfl, .inl rfl⟩
          by_cases u2 : 1048576 < s + (mf i k).size
          · go_wp2
            go_ret
            exact ⟨rfl, .inl rfl⟩
          go_wp2
          go_roundw
          case rel => exact ⟨s + (mf i k).size, k + 1, by go_num, by go_num, by omega, by omega, by omega, trivial⟩
          case measure => simp [intOf]; omega
        · have e0 : k = ml i := by omega
          subst e0
          go_wp2
          go_roundw
          case rel => exact ⟨s, i + 1, by go_num, by go_num, by omega, by omega, by omega, trivial⟩
          case measure => simp [intOf]; omega
    · have e0 : i = n := by omega
      subst e0
      by_cases n2 : 1048576 < (m : Int)
      · go_wp2
        go_ret
        exact ⟨rfl, .inl rfl⟩
      by_cases n3 : 1048576 < t + m
      · go_wp2
        go_ret
        exact ⟨rfl, .inl rfl⟩
      clear hm
      have hm : (m : Int) ≤ 1048576 := by omega
      clear HT hi hlt n1
      go_wp2
      go_loopw [5, 8] (fun zt zi wr => ∃ (s : Int) (k : Nat), zt = .int .i64 s ∧ zi = .int .i64 k ∧ (k : Int) ≤ m ∧ 0 ≤ s ∧ s ≤ 1048576 ∧ w = wr) (fun _ zi _ => m - (intOf zi).toNat)
      case atStart => exact ⟨t + m, 0, by go_num, rfl, by omega, by omega, by omega, rfl⟩
      case round =>
        obtain ⟨s, k, rfl, rfl, hk, hs0, hs1, hw⟩ := hrel
        subst hw
        by_cases hkl : k < m
        · have b1 : (k : Int) < m := by omega
          obtain ⟨db, dq, rfl, hdb, hc⟩ := HD.out.cells (by omega)
          obtain ⟨g1, g2, g3, g4⟩ := hc k hkl
          obtain ⟨z1, z2⟩ := HD.out.big k hkl
          clear hc
          by_cases u1 : 1048576 < ((ac k).size : Int)
          · go_wp2
            go_ret
            exact ⟨rfl, .inl rfl⟩
          by_cases u2 : 1048576 < s + (ac k).size
          · go_wp2
            go_ret
            exact ⟨rfl, .inl rfl⟩
          by_cases u3 : 1048576 < ((im k).size : Int)
          · go_wp2
            go_ret
            exact ⟨rfl, .inl rfl⟩
          by_cases u4 : 1048576 < s + (ac k).size + (im k).size
          · go_wp2
            go_ret
            exact ⟨rfl, .inl rfl⟩
          go_wp2
          go_roundw
          case rel => exact ⟨s + (ac k).size + (im k).size, k + 1, by go_num, by go_num, by omega, by omega, by omega, trivial⟩
          case measure => simp [intOf]; omega
        · have e0 : k = m := by omega
          subst e0
          go_wp2
          go_ret
          exact ⟨rfl, .inr rfl⟩
end Go.Proofs.Qxb6623375a
