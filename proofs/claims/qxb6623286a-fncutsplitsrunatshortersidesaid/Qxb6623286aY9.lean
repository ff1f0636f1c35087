import Derived.Test.Qxb6623286aY8a
import Derived.Test.Qxb6623286aY8b
import Derived.Test.Qxb6623286aY8c
import Derived.Test.Qxb6623286aY8d
namespace Go.Proofs.Qxb6623286a
open Go.RowKit

theorem Try.info4 : (Try.prog.info? 4).map (fun i => (i.zero, i.size, i.bytes)) = some (some (.bool false), 1, 1) := by kernel_rfl
/-- all that cutWellFormed is handed -/
structure WPre (w : World) (n nc ns : Nat) (tv rv mv sv fv lv nv pv : Value) (thr rev mc ms F L sp : Nat → Int) (r : Nat → Value) (ln : Nat → Nat) (nd : Nat → Nat → Int) : Prop where
  t : I32 w tv n thr
  rr : I32 w rv n rev
  m : I32 w mv n mc
  s : I32 w sv n ms
  f : I32 w fv nc F
  l : I32 w lv nc L
  nds : RwS w nv nc r
  rows : ∀ k, k < nc → RowIn w (r k) (ln k) (nd k) ∧ ln k ≤ 1048576
  p : I32 w pv ns sp
  small : n ≤ 65536 ∧ nc ≤ 65536 ∧ ns ≤ 65536
  rt : ∀ k, k < n → -2147483648 ≤ thr k ∧ thr k ≤ 2147483647
  rm : ∀ k, k < n → -2147483648 ≤ mc k ∧ mc k ≤ 2147483647
  rs : ∀ k, k < n → -2147483648 ≤ ms k ∧ ms k ≤ 2147483647
  rf : ∀ k, k < nc → -2147483648 ≤ F k ∧ F k ≤ 2147483647
  rl : ∀ k, k < nc → -2147483648 ≤ L k ∧ L k ≤ 2147483647
  rp : ∀ k, k < ns → -2147483648 ≤ sp k ∧ sp k ≤ 2147483647
  rn : ∀ k j, k < nc → j < ln k → -2147483648 ≤ nd k j ∧ nd k j ≤ 2147483647

theorem hret5 (w : World) (S : Prop) {a' : Act} {w' : World} (h1 : Below w.heap.size w w') (h2 : a'.defers = []) (h3 : a'.tmps[18]? = some (.bool false)) :
    bodyPost Try.prog Try.f5 (fun e w' => Below w.heap.size w w' ∧ (e = .returned (.bool false) ∨ e = .returned (.bool true) ∧ S)) .ret a' w' := by
  refine ⟨h2, .bool false, ?_, h1, .inl rfl⟩
  rw [results_tmp (t := 18) rfl]
  simp [h3]

set_option maxRecDepth 1000000 in
set_option maxHeartbeats 4000000 in
theorem wf_any (w : World) (n nc ns : Nat) (tv rv mv sv fv lv nv pv : Value) (thr rev mc ms F L sp : Nat → Int) (r : Nat → Value) (ln : Nat → Nat) (nd : Nat → Nat → Int) (v : Int)
    (h : WPre w n nc ns tv rv mv sv fv lv nv pv thr rev mc ms F L sp r ln nd) (hv0 : -2147483648 ≤ v) (hv1 : v ≤ 2147483647) :
    Calls Try.prog 5 #[tv, rv, mv, sv, fv, lv, nv, pv, .int .i32 v] w fun e w' => Below w.heap.size w w' ∧ (e = .returned (.bool false) ∨ e = .returned (.bool true) ∧ ∃ v' c0 : Nat, v = v' ∧ WF n nc ns thr rev mc ms F L sp ln nd v' c0) := by
  obtain ⟨ta, tc, rfl, ht⟩ := h.t
  obtain ⟨ra, rc, rfl, hr⟩ := h.rr
  obtain ⟨ma, mcp, rfl, hm⟩ := h.m
  obtain ⟨sa, sc, rfl, hs⟩ := h.s
  obtain ⟨fa, fc, rfl, hf⟩ := h.f
  obtain ⟨la, lc, rfl, hl⟩ := h.l
  obtain ⟨na, ncp, rfl, hnd⟩ := h.nds
  obtain ⟨pa, pc, rfl, hp⟩ := h.p
  have hn : (n : Int) ≤ 65536 := by have := h.small; omega
  have hnc : (nc : Int) ≤ 65536 := by have := h.small; omega
  have hns : (ns : Int) ≤ 65536 := by have := h.small; omega
  have HT := Lib.hid ht
  have HR := Lib.hid hr
  have HM := Lib.hid hm
  have HS := Lib.hid hs
  have HF := Lib.hid hf
  have HL := Lib.hid hl
  have HN := Lib.hid hnd
  have HP := Lib.hid hp
  have HRO := Lib.hid h.rows
  have HRT := Lib.hid h.rt
  have HRM := Lib.hid h.rm
  have HRS := Lib.hid h.rs
  have HRF := Lib.hid h.rf
  have HRL := Lib.hid h.rl
  have HRP := Lib.hid h.rp
  have HRN := Lib.hid h.rn
  have mk1 := run_make_row' (P := Try.prog) 31 4 (.bool false) 1 Try.underlying31 Try.info4 rfl .i64 .i64 nc (by omega) (by omega) w
  clear h ht hr hm hs hf hl hnd hp
  by_cases hn0 : n = 0
  · subst hn0
    go_enter Try.func5, Try.ntmps5
    go_wp2
    go_ret
    exact ⟨Below.refl _ _, .inl rfl⟩
  have hn0' : ((n : Int) == 0) = false := by simp; omega
  by_cases hvl : v < 0
  · go_enter Try.func5, Try.ntmps5
    go_wp2
    go_ret
    exact ⟨Below.refl _ _, .inl rfl⟩
  by_cases hvn : (n : Int) ≤ v
  · go_enter Try.func5, Try.ntmps5
    go_wp2
    go_ret
    exact ⟨Below.refl _ _, .inl rfl⟩
  obtain ⟨v', rfl⟩ : ∃ v' : Nat, v = v' := ⟨v.toNat, by omega⟩
  obtain ⟨tb, to, rfl, htb, htc⟩ := HT.out (by omega)
  obtain ⟨rb, ro, rfl, hrb, hrc⟩ := HR.out (by omega)
  obtain ⟨mb, mo, rfl, hmb, hmc⟩ := HM.out (by omega)
  obtain ⟨sb, so, rfl, hsb, hsc⟩ := HS.out (by omega)
  have HTC := Lib.hid htc
  have HRC := Lib.hid hrc
  have HMC := Lib.hid hmc
  have HSC := Lib.hid hsc
  clear htc hrc hmc hsc HT HR HM HS
  have hret : Hid (∀ (a' : Act) (w' : World), Below w.heap.size w w' → a'.defers = [] → a'.tmps[18]? = some (.bool false) → bodyPost Try.prog Try.f5 (fun e w' => Below w.heap.size w w' ∧ (e = .returned (.bool false) ∨ e = .returned (.bool true) ∧ ∃ v'' c0 : Nat, (v' : Int) = v'' ∧ WF n nc ns thr rev mc ms F L sp ln nd v'' c0)) .ret a' w') := fun a' w' h1 h2 h3 => hret5 w _ h1 h2 h3
  go_enter Try.func5, Try.ntmps5
  go_wp2
  refine wf_loop1 w n tc rc tb to rb ro thr rev _ HTC HRC HRT hn ?_ ?_
  · exact Lib.hid (fun a' w' h1 h2 h3 => hret.out a' w' h1 h2 h3)
  refine Lib.hid ?_
  intros
  rename_i hthr
  have HThr := Lib.hid hthr
  clear hthr
  go_wp2
  refine wf_loop2 w _ nc ns pc _ pa sp _ HP HRP hnc hns ?_ ((Below.refl _ _).alloc (Nat.le_refl _) _) (World.rowIs_made w (.bool false) nc 4) ?_ ?_
  · exact Nat.le_refl _
  · exact Lib.hid (fun a' w' h1 h2 h3 => hret.out a' w' h1 h2 h3)
  refine Lib.hid ?_
  intros
  rename_i w1 hB1 hI1 hSp
  have HB1 := Lib.hid hB1
  have HI1 := Lib.hid hI1
  have HSp := Lib.hid hSp
  clear hB1 hI1 hSp mk1
  go_wp2
  refine wf_loop3 w w1 n nc mcp sc ncp mb mo sb so w.heap.size na mc ms (isS sp ns) r ln nd _ HMC HSC HN HRO hmb hsb HRM HRS HRN hn hnc HB1.out HI1.out ?_ ?_
  · exact Lib.hid (fun a' w' h1 h2 h3 => hret.out a' w' h1 h2 h3)
  refine Lib.hid ?_
  intros
  rename_i hU
  have HU := Lib.hid hU
  clear hU
  have mk2 := run_make_row' (P := Try.prog) 31 4 (.bool false) 1 Try.underlying31 Try.info4 rfl .i64 .i64 n (by omega) (by omega) w1
  go_wp2
  have hlt1 := HI1.out.lt
  refine wf_loop4 w _ n nc tc mcp sc fc lc ncp tb to mb mo sb so w.heap.size w1.heap.size fa la na thr mc ms F L (isS sp ns) r ln nd _ HTC HMC HSC HF HL HN HRO htb hmb hsb (Lib.hid fun k hk => by obtain ⟨t, a, b, _⟩ := HThr.out k hk; exact ⟨t, a, b⟩) HRM HRS HRN HRF HRL hn hnc (HB1.out.alloc (by omega) _) (HI1.out.alloc _) (fun _ => false) (World.rowIs_made w1 (.bool false) n 4) (by omega) (by omega) ?_ ?_
  · exact Lib.hid (fun a' w' h1 h2 h3 => hret.out a' w' h1 h2 h3)
  refine Lib.hid ?_
  intros
  rename_i w3 hB3 hck
  have HB3 := Lib.hid hB3
  have HCK := Lib.hid hck
  clear hB3 hck mk2 hlt1
  go_wp2
  go_ret
  refine ⟨HB3.out, .inr ⟨rfl, v', ?_⟩⟩
  have hvn' : v' < n := by omega
  obtain ⟨c0, s0, u1, u2, u3, u4, u5, u6⟩ := HU.out v' hvn'
  have hok := HCK.out c0 u1 u3
  obtain ⟨f0, q1, q2, q3, q4⟩ := hok.run
  refine ⟨c0, rfl, hvn', HThr.out, fun k hk => ?_, fun x hx => ?_, u2, hok.list, ⟨runOf thr f0, q1, q2, fun j hj => ?_, q3, q4⟩, hok.pos⟩
  · obtain ⟨d, d1, d2⟩ := HSp.out k hk
    refine ⟨d, d1, fun e => ?_, d2⟩
    subst e
    rw [(isS_iff sp ns d).2 ⟨k, hk, d2⟩] at u3
    exact absurd u3 (by simp)
  · obtain ⟨c, s, x1, x2, x3, x4, x5, x6⟩ := HU.out x hx
    exact ⟨c, s, x1, x2, x4, x5, x6⟩
  · obtain ⟨t, t1, t2, t3⟩ := HThr.out (runOf thr f0 j) (q2 j (by omega)).1
    show thr (runOf thr f0 j) = ((thr (runOf thr f0 j)).toNat : Int)
    omega

set_option maxRecDepth 100000 in
set_option maxHeartbeats 4000000 in
/-- lengths that do not fit: false -/
theorem wf_neq (w : World) (n n1 n2 n3 nc n5 n6 : Nat) (a0 a1 a2 a3 a4 a5 a6 : Option Addr) (c0 c1 c2 c3 c4 c5 c6 : Nat) (pv v : Value) (h : n = 0 ∨ n1 ≠ n ∨ n2 ≠ n ∨ n3 ≠ n ∨ n5 ≠ nc ∨ n6 ≠ nc) :
    Calls Try.prog 5 #[.slice a0 n c0, .slice a1 n1 c1, .slice a2 n2 c2, .slice a3 n3 c3, .slice a4 nc c4, .slice a5 n5 c5, .slice a6 n6 c6, pv, v] w fun e w' => w' = w ∧ e = .returned (.bool false) := by
  by_cases h0 : n = 0
  · subst h0
    clear h
    go_enter Try.func5, Try.ntmps5
    go_wp2
    go_ret
    exact ⟨rfl, rfl⟩
  have h0' : ((n : Int) == 0) = false := by simp; omega
  by_cases h1 : n1 = n
  · subst h1
    by_cases h2 : n2 = n1
    · subst h2
      by_cases h3 : n3 = n2
      · subst h3
        by_cases h5 : n5 = nc
        · subst h5
          have h6 : n6 ≠ n5 := by omega
          have h6' : ((n6 : Int) != (n5 : Int)) = true := by simp; omega
          clear h h6
          go_enter Try.func5, Try.ntmps5
          go_wp2
          go_ret
          exact ⟨rfl, rfl⟩
        · have h5' : ((n5 : Int) != (nc : Int)) = true := by simp; omega
          clear h
          go_enter Try.func5, Try.ntmps5
          go_wp2
          go_ret
          exact ⟨rfl, rfl⟩
      · have h3' : ((n3 : Int) != (n2 : Int)) = true := by simp; omega
        clear h
        go_enter Try.func5, Try.ntmps5
        go_wp2
        go_ret
        exact ⟨rfl, rfl⟩
    · have h2' : ((n2 : Int) != (n1 : Int)) = true := by simp; omega
      clear h
      go_enter Try.func5, Try.ntmps5
      go_wp2
      go_ret
      exact ⟨rfl, rfl⟩
  · have h1' : ((n1 : Int) != (n : Int)) = true := by simp; omega
    clear h
    go_enter Try.func5, Try.ntmps5
    go_wp2
    go_ret
    exact ⟨rfl, rfl⟩
end Go.Proofs.Qxb6623286a
