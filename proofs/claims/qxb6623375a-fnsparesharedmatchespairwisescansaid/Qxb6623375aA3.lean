import Derived.Test.Qxb6623375aA2
namespace Go.Proofs.Qxb6623375a
open Go.RowKit

theorem cell_new3 (w : World) (x y z : Value) (t : TypeId) : (w.alloc (.cells #[x, y, z] t)).cell? ⟨w.heap.size, 0, none⟩ = some x ∧ (w.alloc (.cells #[x, y, z] t)).cell? ⟨w.heap.size, 1, none⟩ = some y ∧ (w.alloc (.cells #[x, y, z] t)).cell? ⟨w.heap.size, 2, none⟩ = some z := by
  unfold World.cell?
  rw [show (w.alloc (.cells #[x, y, z] t)).heap[(⟨w.heap.size, 0, none⟩ : Addr).block]? = some _ from heap_alloc_new w _]
  exact ⟨rfl, rfl, rfl⟩
theorem cell_new4 (w : World) (x y z u : Value) (t : TypeId) : (w.alloc (.cells #[x, y, z, u] t)).cell? ⟨w.heap.size, 0, none⟩ = some x ∧ (w.alloc (.cells #[x, y, z, u] t)).cell? ⟨w.heap.size, 2, none⟩ = some z := by
  unfold World.cell?
  rw [show (w.alloc (.cells #[x, y, z, u] t)).heap[(⟨w.heap.size, 0, none⟩ : Addr).block]? = some _ from heap_alloc_new w _]
  exact ⟨rfl, rfl⟩

/-- what zzSpareTooBig's 'false' says -/
structure Modest (n m : Nat) (nm dg ac im : Nat → ByteArray) (ml : Nat → Nat) (mf : Nat → Nat → ByteArray) : Prop where
  tag : ∀ k, k < n → (nm k).size ≤ 1048576 ∧ (dg k).size ≤ 1048576 ∧ ml k ≤ 1048576
  man : ∀ k j, k < n → j < ml k → (mf k j).size ≤ 1048576
  dec : ∀ k, k < m → (ac k).size ≤ 1048576 ∧ (im k).size ≤ 1048576

set_option maxRecDepth 100000 in
set_option maxHeartbeats 4000000 in
theorem big_any (w : World) (a0 a1 : Option Addr) (n m c0 c1 : Nat) (nm dg ac im : Nat → ByteArray) (mv : Nat → Value) (ml : Nat → Nat) (mf : Nat → Nat → ByteArray) (ru : Nat → Int) (un : Nat → Bool)
    (hT : TagsIn w a0 n nm dg mv ml mf) (hD : DecsIn w a1 m ac im ru un) (hn : (n : Int) ≤ 256) (hm : (m : Int) ≤ 256) :
    Calls Try.prog 5 #[.slice a0 n c0, .slice a1 m c1] w fun e w' => Below w.heap.size w w' ∧ (e = .returned (.bool true) ∨ e = .returned (.bool false) ∧ Modest n m nm dg ac im ml mf) := by
  have HT := Lib.hid hT
  have HD := Lib.hid hD
  clear hT hD
  go_enter Try.func5, Try.ntmps5
  go_wp2
  go_loopw [5, 6] (fun zt zi wr => ∃ (t : Int) (i : Nat), zt = .int .i64 t ∧ zi = .int .i64 i ∧ (i : Int) ≤ n ∧ 0 ≤ t ∧ t ≤ 1048576 ∧ Hid (Below w.heap.size w wr ∧ (∀ k, k < i → (nm k).size ≤ 1048576 ∧ (dg k).size ≤ 1048576 ∧ ml k ≤ 1048576) ∧ (∀ k j, k < i → j < ml k → (mf k j).size ≤ 1048576))) (fun _ zi _ => n - (intOf zi).toNat)
  case atStart => exact ⟨0, 0, rfl, rfl, by omega, by omega, by omega, Below.refl _ _, fun k hk => absurd hk (by omega), fun k j hk => absurd hk (by omega)⟩
  case round =>
    obtain ⟨t, i, rfl, rfl, hi, ht0, ht1, HK⟩ := hrel
    by_cases hlt : i < n
    · have b0 : (i : Int) < n := by omega
      obtain ⟨tb, to, rfl, htb, hc⟩ := HT.out.cells (by omega)
      obtain ⟨g1, g2, g3⟩ := hc i hlt
      obtain ⟨z1, z2, z3⟩ := HT.out.big i hlt
      obtain ⟨xa, xc, hx, hxc⟩ := (HT.out.mans i hlt).strs
      rw [hx] at g3
      rw [← HK.out.1.cell (p := ⟨tb, to + i * 3, none⟩) htb] at g1
      rw [← HK.out.1.cell (p := ⟨tb, to + i * 3 + 1, none⟩) htb] at g2
      rw [← HK.out.1.cell (p := ⟨tb, to + i * 3 + 2, none⟩) htb] at g3
      have HX := Lib.hid hxc
      obtain ⟨w0, hw0⟩ : ∃ w0, w0 = wr := ⟨_, rfl⟩
      subst hw0
      obtain ⟨p1, p2, p3⟩ := cell_new3 w0 (.string (nm i)) (.string (dg i)) (.slice xa (ml i) xc) 28
      have HBn : Hid (Below w.heap.size w (w0.alloc (.cells #[.string (nm i), .string (dg i), .slice xa (ml i) xc] 28))) := HK.out.1.alloc HK.out.1.size _
      clear hc hx hxc
      obtain ⟨w1, hw1⟩ : ∃ w1, w1 = w0.alloc (.cells #[.string (nm i), .string (dg i), .slice xa (ml i) xc] 28) := ⟨_, rfl⟩
      by_cases s1 : 1048576 < ((nm i).size : Int)
      · go_wp2
        go_ret
        exact ⟨HBn.out, .inl rfl⟩
      by_cases s2 : 1048576 < ((dg i).size : Int)
      · go_wp2
        go_ret
        exact ⟨HBn.out, .inl rfl⟩
      by_cases s3 : 1048576 < (ml i : Int)
      · go_wp2
        go_ret
        exact ⟨HBn.out, .inl rfl⟩
      by_cases s4 : 1048576 < t + (32 + (nm i).size + (dg i).size + 8 * ml i)
      · go_wp2
        go_ret
        exact ⟨HBn.out, .inl rfl⟩
      rw [← hw1] at p3 HBn
      go_wp2
      rw [← hw1]
      clear hw1 p1 p2 g1 g2 g3 z1 z2
      go_loopw [5, 8] (fun zt zk wr => ∃ (s : Int) (k : Nat), zt = .int .i64 s ∧ zk = .int .i64 k ∧ (k : Int) ≤ ml i ∧ 0 ≤ s ∧ s ≤ 1048576 ∧ w1 = wr ∧ Hid (∀ j, j < k → (mf i j).size ≤ 1048576)) (fun _ zk _ => ml i - (intOf zk).toNat)
      case atStart => exact ⟨t + (32 + (nm i).size + (dg i).size + 8 * ml i), 0, by go_num, rfl, by omega, by omega, by omega, rfl, fun j hj => absurd hj (by omega)⟩
      case round =>
        obtain ⟨s, k, rfl, rfl, hk, hs0, hs1, hw, HJ⟩ := hrel
        subst hw
        by_cases hkl : k < ml i
        · have b1 : (k : Int) < ml i := by omega
          obtain ⟨xb, xo, rfl, hxb, hxcell⟩ := HX.out (by omega)
          have g4 : w1.cell? ⟨xb, xo + k, none⟩ = some (.string (mf i k)) := by rw [HBn.out.cell (p := ⟨xb, xo + k, none⟩) hxb]; exact hxcell k hkl
          have z4 := HT.out.bigm i k hlt hkl
          clear hxcell
          by_cases u1 : 1048576 < ((mf i k).size : Int)
          · go_wp2
            go_ret
            exact ⟨HBn.out, .inl rfl⟩
          by_cases u2 : 1048576 < s + (mf i k).size
          · go_wp2
            go_ret
            exact ⟨HBn.out, .inl rfl⟩
          have HF2 : Hid (∀ j, j < k + 1 → (mf i j).size ≤ 1048576) := fun j hj => by
            by_cases e : j = k
            · subst e; omega
            · exact HJ.out j (by omega)
          go_wp2
          go_roundw
          case rel => exact ⟨s + (mf i k).size, k + 1, by go_num, by go_num, by omega, by omega, by omega, trivial, HF2⟩
          case measure => simp [intOf]; omega
        · have e0 : k = ml i := by omega
          subst e0
          have HF3 : Hid (Below w.heap.size w w1 ∧ (∀ k, k < i + 1 → (nm k).size ≤ 1048576 ∧ (dg k).size ≤ 1048576 ∧ ml k ≤ 1048576) ∧ (∀ k j, k < i + 1 → j < ml k → (mf k j).size ≤ 1048576)) := by
            refine ⟨HBn.out, fun k hk => ?_, fun k j hk hj => ?_⟩
            · by_cases e : k = i
              · subst e; omega
              · exact HK.out.2.1 k (by omega)
            · by_cases e : k = i
              · subst e; exact HJ.out j hj
              · exact HK.out.2.2 k j (by omega) hj
          go_wp2
          go_roundw
          case rel => exact ⟨s, i + 1, by go_num, by go_num, by omega, by omega, by omega, HF3⟩
          case measure => simp [intOf]; omega
    · have e0 : i = n := by omega
      subst e0
      obtain ⟨w0, hw0⟩ : ∃ w0, w0 = wr := ⟨_, rfl⟩
      subst hw0
      clear hlt hi
      go_wp2
      go_loopw [5, 9] (fun zt zi wr => ∃ (s : Int) (k : Nat), zt = .int .i64 s ∧ zi = .int .i64 k ∧ (k : Int) ≤ m ∧ 0 ≤ s ∧ s ≤ 1048576 ∧ Hid (Below w.heap.size w wr ∧ ∀ j, j < k → (ac j).size ≤ 1048576 ∧ (im j).size ≤ 1048576)) (fun _ zi _ => m - (intOf zi).toNat)
      case atStart => exact ⟨t, 0, rfl, rfl, by omega, by omega, by omega, HK.out.1, fun j hj => absurd hj (by omega)⟩
      case round =>
        obtain ⟨s, k, rfl, rfl, hk, hs0, hs1, HJ⟩ := hrel
        by_cases hkl : k < m
        · have b1 : (k : Int) < m := by omega
          obtain ⟨db, dq, rfl, hdb, hc⟩ := HD.out.cells (by omega)
          obtain ⟨g1, g2, g3, g4⟩ := hc k hkl
          obtain ⟨z1, z2⟩ := HD.out.big k hkl
          rw [← HJ.out.1.cell (p := ⟨db, dq + k * 4, none⟩) hdb] at g1
          rw [← HJ.out.1.cell (p := ⟨db, dq + k * 4 + 1, none⟩) hdb] at g2
          rw [← HJ.out.1.cell (p := ⟨db, dq + k * 4 + 2, none⟩) hdb] at g3
          rw [← HJ.out.1.cell (p := ⟨db, dq + k * 4 + 3, none⟩) hdb] at g4
          obtain ⟨p1, p2⟩ := cell_new4 wr (.string (ac k)) (.int .i64 (ru k)) (.string (im k)) (.bool (un k)) 38
          have HBn : Hid (Below w.heap.size w (wr.alloc (.cells #[.string (ac k), .int .i64 (ru k), .string (im k), .bool (un k)] 38))) := HJ.out.1.alloc HJ.out.1.size _
          clear hc
          by_cases u1 : 1048576 < ((ac k).size : Int)
          · go_wp2
            go_ret
            exact ⟨HBn.out, .inl rfl⟩
          by_cases u3 : 1048576 < ((im k).size : Int)
          · go_wp2
            go_ret
            exact ⟨HBn.out, .inl rfl⟩
          by_cases u4 : 1048576 < s + (32 + (ac k).size + (im k).size)
          · go_wp2
            go_ret
            exact ⟨HBn.out, .inl rfl⟩
          have HF2 : Hid (∀ j, j < k + 1 → (ac j).size ≤ 1048576 ∧ (im j).size ≤ 1048576) := fun j hj => by
            by_cases e : j = k
            · subst e; omega
            · exact HJ.out.2 j (by omega)
          go_wp2
          go_roundw
          case rel => exact ⟨s + (32 + (ac k).size + (im k).size), k + 1, by go_num, by go_num, by omega, by omega, by omega, HBn.out, HF2.out⟩
          case measure => simp [intOf]; omega
        · have e0 : k = m := by omega
          subst e0
          go_wp2
          go_ret
          exact ⟨HJ.out.1, .inr ⟨rfl, HK.out.2.1, HK.out.2.2, HJ.out.2⟩⟩
end Go.Proofs.Qxb6623375a
