import Derived.Test.Qxb6623286aZ2
namespace Go.Proofs.Qxb6623286a
open Go.RowKit

/-- the simplex, its members and its chunks -/
structure St (w : World) (S M C n nc cap : Nat) (tv rv sv : Value) (cl : Int) (mc ms F L : Nat → Int) (N : Nat → Value) : Prop where
  s : Sx w S tv rv (.slice (some ⟨M, 0, none⟩) n n) (.slice (some ⟨C, 0, none⟩) nc cap) sv cl
  m : MRow w M n mc ms
  ch : CRow w C cap nc F L N

theorem St.ne {w : World} {S M C n nc cap : Nat} {tv rv sv : Value} {cl : Int} {mc ms F L : Nat → Int} {N : Nat → Value} (h : St w S M C n nc cap tv rv sv cl mc ms F L N) : S ≠ M ∧ S ≠ C ∧ M ≠ C := by
  obtain ⟨f, hr⟩ := h.s.row
  exact ⟨row_ne hr h.m (by decide), h.ch.ne hr (by decide), h.ch.ne h.m (by decide)⟩
theorem St.row21 {w : World} {S M C n nc cap : Nat} {tv rv sv : Value} {cl : Int} {mc ms F L : Nat → Int} {N : Nat → Value} (h : St w S M C n nc cap tv rv sv cl mc ms F L N) {g k : Nat} {f : Nat → Value} (hr : w.rowIs g 21 k f) : S ≠ g ∧ M ≠ g ∧ C ≠ g := by
  obtain ⟨fs, hs⟩ := h.s.row
  exact ⟨row_ne hs hr (by decide), row_ne h.m hr (by decide), Ne.symm (h.ch.ne hr (by decide))⟩
theorem St.other {w : World} {S M C n nc cap : Nat} {tv rv sv : Value} {cl : Int} {mc ms F L : Nat → Int} {N : Nat → Value} (h : St w S M C n nc cap tv rv sv cl mc ms F L N) {a : Addr} (ha : S ≠ a.block ∧ M ≠ a.block ∧ C ≠ a.block) (u : Value) :
    St (w.setCell a u) S M C n nc cap tv rv sv cl mc ms F L N := ⟨h.s.other ha.1 u, World.rowIs.setOther h.m ha.2.1 u, h.ch.other ha.2.2 u⟩
theorem St.drewN {w : World} {S M C n nc cap : Nat} {tv rv sv : Value} {cl : Int} {mc ms F L : Nat → Int} {N : Nat → Value} (h : St w S M C n nc cap tv rv sv cl mc ms F L N) (q : Nat) : St (w.drewN q) S M C n nc cap tv rv sv cl mc ms F L N := ⟨h.s, h.m, h.ch⟩
theorem St.drew {w : World} {S M C n nc cap : Nat} {tv rv sv : Value} {cl : Int} {mc ms F L : Nat → Int} {N : Nat → Value} (h : St w S M C n nc cap tv rv sv cl mc ms F L N) : St w.drew S M C n nc cap tv rv sv cl mc ms F L N := ⟨h.s, h.m, h.ch⟩
theorem St.setS {w : World} {S M C n nc cap : Nat} {tv rv sv : Value} {cl : Int} {mc ms F L : Nat → Int} {N : Nat → Value} (h : St w S M C n nc cap tv rv sv cl mc ms F L N) (u : Nat) (x : Int) :
    St (w.setCell ⟨M, u * 2 + 1, none⟩ (.int .i32 x)) S M C n nc cap tv rv sv cl mc (upd ms u x) F L N := ⟨h.s.other h.ne.1 _, h.m.setS u x, h.ch.other (a := ⟨M, u * 2 + 1, none⟩) (Ne.symm h.ne.2.2) _⟩
theorem St.setN {w : World} {S M C n nc cap : Nat} {tv rv sv : Value} {cl : Int} {mc ms F L : Nat → Int} {N : Nat → Value} (h : St w S M C n nc cap tv rv sv cl mc ms F L N) (c : Nat) (x : Value) :
    St (w.setCell ⟨C, c * 3 + 2, none⟩ x) S M C n nc cap tv rv sv cl mc ms F L (upd N c x) := ⟨h.s.other h.ne.2.1 _, World.rowIs.setOther h.m (a := ⟨C, c * 3 + 2, none⟩) h.ne.2.2 _, h.ch.setN c x⟩
theorem St.setF {w : World} {S M C n nc cap : Nat} {tv rv sv : Value} {cl : Int} {mc ms F L : Nat → Int} {N : Nat → Value} (h : St w S M C n nc cap tv rv sv cl mc ms F L N) (c : Nat) (x : Int) :
    St (w.setCell ⟨C, c * 3, none⟩ (.int .i32 x)) S M C n nc cap tv rv sv cl mc ms (upd F c x) L N := ⟨h.s.other h.ne.2.1 _, World.rowIs.setOther h.m (a := ⟨C, c * 3, none⟩) h.ne.2.2 _, h.ch.setF c x⟩
theorem St.setL {w : World} {S M C n nc cap : Nat} {tv rv sv : Value} {cl : Int} {mc ms F L : Nat → Int} {N : Nat → Value} (h : St w S M C n nc cap tv rv sv cl mc ms F L N) (c : Nat) (x : Int) :
    St (w.setCell ⟨C, c * 3 + 1, none⟩ (.int .i32 x)) S M C n nc cap tv rv sv cl mc ms F (upd L c x) N := ⟨h.s.other h.ne.2.1 _, World.rowIs.setOther h.m (a := ⟨C, c * 3 + 1, none⟩) h.ne.2.2 _, h.ch.setL c x⟩
theorem own_set {w : World} {B k : Nat} {v : Value} {xs : List Value} (h : w.ownsRow B 21 1 v k xs) {a : Addr} (ha : v.ownBlock ≠ some a.block) (u : Value) : (w.setCell a u).ownsRow B 21 1 v k xs :=
  h.kept (row := some a.block) ⟨rfl, rfl, rfl, by simp [World.setCell], fun b _ hne => Below.heap_setCell _ _ _ _ (fun e => hne (by rw [e]))⟩ (.inr ha)

/-- what move leaves -/
structure Moved (w w' : World) (S M C n nc cap : Nat) (tv rv sv : Value) (cl : Int) (mc ms F L : Nat → Int) (N : Nat → Value) (v c k B : Nat) (xs : List Value) (c0 sl k0 cp0 g0 u : Nat) (lst : Nat → Int) (Nv : Value) : Prop where
  st : St w' S M C n nc cap tv rv sv cl (upd mc v c) (upd (upd ms u sl) v k) F L (upd (upd N c0 (.slice (some ⟨g0, 0, none⟩) k0 cp0)) c Nv)
  row : w'.rowIs g0 21 cp0 (fun j => .int .i32 (upd lst sl u j))
  own : w'.ownsRow B 21 1 Nv (k + 1) (xs ++ [.int .i32 v])
  at' : Nv.ownBlock = (N c).ownBlock ∨ ∃ g, Nv.ownBlock = some g ∧ w.heap.size ≤ g
  chg : Chg (fun b => b = M ∨ b = C ∨ b = g0 ∨ some b = (N c).ownBlock) w w'

set_option maxRecDepth 100000 in
set_option maxHeartbeats 2000000 in
theorem move_any (w : World) (S M C n nc cap : Nat) (tv rv sv : Value) (cl : Int) (mc ms F L : Nat → Int) (N : Nat → Value) (v c k B : Nat) (xs : List Value) (c0 sl k0 cp0 g0 u : Nat) (lst : Nat → Int)
    (hS : Sx w S tv rv (.slice (some ⟨M, 0, none⟩) n n) (.slice (some ⟨C, 0, none⟩) nc cap) sv cl) (hM : MRow w M n mc ms) (hC : CRow w C cap nc F L N)
    (hv : (v : Int) < n) (hc : (c : Int) < nc) (hown : w.ownsRow B 21 1 (N c) k xs) (hB : B ≤ w.heap.size) (hk : (k : Int) ≤ 1048576)
    (emc : mc v = c0) (ems : ms v = sl) (hc0 : (c0 : Int) < nc) (hne : c ≠ c0) (hN0 : N c0 = .slice (some ⟨g0, 0, none⟩) (k0 + 1) cp0) (hr0 : w.rowIs g0 21 cp0 (fun j => .int .i32 (lst j)))
    (hk0 : (k0 : Int) + 1 ≤ cp0) (hcp : (cp0 : Int) ≤ 1048576) (hsl : (sl : Int) ≤ k0) (hu : lst k0 = u) (hun : (u : Int) < n) (hng : (N c).ownBlock ≠ some g0) :
    Calls Try.prog 12 #[.pointer (some ⟨S, 0, none⟩), .int .i32 v, .int .i32 c] w fun e w' => e = .returned (.int .i32 c0) ∧ ∃ Nv, Moved w w' S M C n nc cap tv rv sv cl mc ms F L N v c k B xs c0 sl k0 cp0 g0 u lst Nv := by
  obtain ⟨s8, s9, s11, s12, s13, s14⟩ := hS.cell
  obtain ⟨m0, m1⟩ := hM.cell (v := v) (by omega)
  rw [emc] at m0
  rw [ems] at m1
  have HS := Lib.hid hS
  have HM := Lib.hid hM
  have HC := Lib.hid hC
  have HO := Lib.hid hown
  have HR := Lib.hid hr0
  have H0 := Lib.hid hN0
  have HU := Lib.hid hu
  have HE := Lib.hid (And.intro emc ems)
  have HG := Lib.hid hng
  have HNE := Lib.hid hne
  clear hS hM hC hown hr0 hN0 hu emc ems hng hne
  have lw : ∀ o : Obj, w.heap.size < (w.alloc o).heap.size := fun o => by simp
  have lw : ∀ o : Obj, w.heap.size < (w.alloc o).heap.size := fun o => by simp
  go_enter Try.func12, Try.ntmps12
  go_wp2_with fail
  obtain ⟨w1, hw1⟩ : ∃ w1, w1 = w.alloc (.cells #[.int .i32 (c0 : Int), .int .i32 (sl : Int)] 42) := ⟨_, rfl⟩
  obtain ⟨P, hP⟩ : ∃ P, P = w.heap.size := ⟨_, rfl⟩
  have HP1 : Hid (w1.rowIs P 42 2 (fun j => if j = 0 then .int .i32 c0 else .int .i32 sl)) := by
    rw [hw1, hP]
    exact World.rowIs_alloc w _ 42 _ (fun j hj => by
      match j, hj with
      | 0, _ => rfl
      | 1, _ => rfl)
  have HT1 : Hid (St w1 S M C n nc cap tv rv sv cl mc ms F L N) := by
    rw [hw1]; obtain ⟨f, hr, hf⟩ := HS.out; exact ⟨⟨f, hr.alloc _, hf⟩, World.rowIs.alloc HM.out _, HC.out.alloc _⟩
  have HR1 : Hid (w1.rowIs g0 21 cp0 (fun j => .int .i32 (lst j))) := by rw [hw1]; exact HR.out.alloc _
  have HO1 : Hid (w1.ownsRow B 21 1 (N c) k xs) := by rw [hw1]; exact HO.out.alloc _
  have HG1 : Hid (Chg (fun b => b = M ∨ b = C ∨ b = g0 ∨ some b = (N c).ownBlock) w w1) := by rw [hw1]; exact (Chg.refl _ w).alloc _
  have HPM : Hid (P ≠ M ∧ P ≠ g0 ∧ (N c).ownBlock ≠ some P ∧ P ≠ C) := by
    rw [hP]
    have l1 := World.rowIs.lt HM.out
    have l2 := HR.out.lt
    have l3 := HC.out.lt
    exact ⟨by omega, by omega, fun e => by have := (HO.out.lt _ e).2; omega, by omega⟩
  have HPs : Hid (w.heap.size ≤ P ∧ P < w1.heap.size) := by rw [hP, hw1]; exact ⟨Nat.le_refl _, by simp⟩
  rw [← hw1, ← hP]
  clear hw1 hP s8 s9 s11 s12 s13 s14 m0 m1 HS HM HC HO HR lw
  obtain ⟨-, -, s11, s12, -, -⟩ := HT1.out.s.cell
  have p0 := HP1.out.cell (i := 0) (by omega)
  have p1 := HP1.out.cell (i := 1) (by omega)
  simp only [if_true] at p0
  simp only [Nat.one_ne_zero, if_false] at p1
  obtain ⟨-, -, c2⟩ := HT1.out.ch.cell (c := c0) (by omega)
  rw [H0.out] at c2
  have r0 := HR1.out.cell (i := k0) (by omega)
  rw [HU.out] at r0
  have rs := HR1.out.cell (i := sl) (by omega)
  have fr := HR1.out.frozen sl
  go_quiet (fail)
  go_wp2
  go_region
  obtain ⟨w3, hw3⟩ : ∃ w3, w3 = (w1.drewN (nq + 1)).setCell ⟨g0, sl, none⟩ (.int .i32 u) := ⟨_, rfl⟩
  have HT3 : Hid (St w3 S M C n nc cap tv rv sv cl mc ms F L N) := by rw [hw3]; exact (HT1.out.drewN _).other (a := ⟨g0, sl, none⟩) (HT1.out.row21 HR1.out) _
  have HR3 : Hid (w3.rowIs g0 21 cp0 (fun j => .int .i32 (upd lst sl u j))) := by
    rw [hw3]
    refine (World.rowIs.set (w := w1.drewN (nq + 1)) HR1.out sl (.int .i32 u)).congr (fun j _ => ?_)
    unfold upd; split <;> rfl
  have HO3 : Hid (w3.ownsRow B 21 1 (N c) k xs) := by rw [hw3]; exact own_set (w := w1.drewN (nq + 1)) HO1.out (a := ⟨g0, sl, none⟩) HG.out _
  have HP3 : Hid (w3.rowIs P 42 2 (fun j => if j = 0 then .int .i32 c0 else .int .i32 sl)) := by rw [hw3]; exact World.rowIs.setOther (w := w1.drewN (nq + 1)) HP1.out (a := ⟨g0, sl, none⟩) HPM.out.2.1 _
  have HG3 : Hid (Chg (fun b => b = M ∨ b = C ∨ b = g0 ∨ some b = (N c).ownBlock) w w3) := by rw [hw3]; exact (HG1.out.drewN _).setCell ⟨g0, sl, none⟩ (.inr (.inr (.inl rfl))) _
  rw [← hw3]
  clear hw3 s11 s12 p0 p1 c2 r0 rs fr HT1 HR1 HO1 HP1 HG1
  obtain ⟨-, -, s11, s12, -, -⟩ := HT3.out.s.cell
  have p1 := HP3.out.cell (i := 1) (by omega)
  simp only [Nat.one_ne_zero, if_false] at p1
  obtain ⟨-, -, c2⟩ := HT3.out.ch.cell (c := c0) (by omega)
  rw [H0.out] at c2
  obtain ⟨-, mu⟩ := HT3.out.m.cell (v := u) (by omega)
  have fm := World.rowIs.frozen HT3.out.m (u * 2 + 1)
  go_wp2
  go_region
  obtain ⟨w4, hw4⟩ : ∃ w4, w4 = (w3.setCell ⟨M, u * 2 + 1, none⟩ (.int .i32 sl)).drew := ⟨_, rfl⟩
  have HT4 : Hid (St w4 S M C n nc cap tv rv sv cl mc (upd ms u sl) F L N) := by rw [hw4]; exact (HT3.out.setS u sl).drew
  have HR4 : Hid (w4.rowIs g0 21 cp0 (fun j => .int .i32 (upd lst sl u j))) := by rw [hw4]; exact World.rowIs.setOther HR3.out (a := ⟨M, u * 2 + 1, none⟩) (Ne.symm (HT3.out.row21 HR3.out).2.1) _
  have HO4 : Hid (w4.ownsRow B 21 1 (N c) k xs) := by rw [hw4]; exact own_set HO3.out (a := ⟨M, u * 2 + 1, none⟩) (own_ne HO3.out HT3.out.m (by decide)) _
  have HP4 : Hid (w4.rowIs P 42 2 (fun j => if j = 0 then .int .i32 c0 else .int .i32 sl)) := by rw [hw4]; exact World.rowIs.setOther HP3.out (a := ⟨M, u * 2 + 1, none⟩) HPM.out.1 _
  have HG4 : Hid (Chg (fun b => b = M ∨ b = C ∨ b = g0 ∨ some b = (N c).ownBlock) w w4) := by rw [hw4]; exact (HG3.out.setCell ⟨M, u * 2 + 1, none⟩ (.inl rfl) _).drewN 1
  rw [← hw4]
  clear hw4 s11 s12 p1 c2 mu fm HT3 HR3 HO3 HP3 HG3
  obtain ⟨-, -, c2⟩ := HT4.out.ch.cell (c := c0) (by omega)
  rw [H0.out] at c2
  have fc := HT4.out.ch.frozen (c0 * 3 + 2)
  go_wp2_with fail
  obtain ⟨w5, hw5⟩ : ∃ w5, w5 = w4.setCell ⟨C, c0 * 3 + 2, none⟩ (.slice (some ⟨g0, 0, none⟩) k0 cp0) := ⟨_, rfl⟩
  have HT5 : Hid (St w5 S M C n nc cap tv rv sv cl mc (upd ms u sl) F L (upd N c0 (.slice (some ⟨g0, 0, none⟩) k0 cp0))) := by rw [hw5]; exact HT4.out.setN c0 _
  have HR5 : Hid (w5.rowIs g0 21 cp0 (fun j => .int .i32 (upd lst sl u j))) := by rw [hw5]; exact World.rowIs.setOther HR4.out (a := ⟨C, c0 * 3 + 2, none⟩) (Ne.symm (HT4.out.row21 HR4.out).2.2) _
  have HO5 : Hid (w5.ownsRow B 21 1 (N c) k xs) := by rw [hw5]; exact own_set HO4.out (a := ⟨C, c0 * 3 + 2, none⟩) (HT4.out.ch.own HO4.out) _
  have HP5 : Hid (w5.rowIs P 42 2 (fun j => if j = 0 then .int .i32 c0 else .int .i32 sl)) := by rw [hw5]; exact World.rowIs.setOther HP4.out (a := ⟨C, c0 * 3 + 2, none⟩) HPM.out.2.2.2 _
  have HG5 : Hid (Chg (fun b => b = M ∨ b = C ∨ b = g0 ∨ some b = (N c).ownBlock) w w5) := by rw [hw5]; exact (HG4.out.setCell ⟨C, c0 * 3 + 2, none⟩ (.inr (.inl rfl)) _)
  rw [← hw5]
  clear hw5 c2 fc HT4 HR4 HO4 HP4 HG4
  have HNc : Hid (upd N c0 (.slice (some ⟨g0, 0, none⟩) k0 cp0) c = N c) := by show upd N c0 _ c = N c; unfold upd; rw [if_neg HNE.out]
  refine (join_any w5 S M C n nc cap tv rv sv cl mc (upd ms u sl) F L (upd N c0 (.slice (some ⟨g0, 0, none⟩) k0 cp0)) v c k B xs HT5.out.s HT5.out.m HT5.out.ch hv hc (by rw [HNc.out]; exact HO5.out) (Nat.le_trans hB HG5.out.size) hk).mono ?_
  rintro e w6 ⟨rfl, Nv, hJ⟩
  have HJ := Lib.hid hJ
  clear hJ
  have HB6 : Hid (∀ b, b < w5.heap.size → b ≠ M → b ≠ C → (N c).ownBlock ≠ some b → w6.heap[b]? = w5.heap[b]?) := fun b hb h1 h2 h3 =>
    HJ.out.chg.block b hb (fun h => by
      rw [HNc.out] at h
      rcases h with h | h | h
      · exact h1 h
      · exact h2 h
      · exact h3 h.symm)
  have HP6 : Hid (w6.rowIs P 42 2 (fun j => if j = 0 then .int .i32 c0 else .int .i32 sl)) :=
    HP5.out.of_block (HB6.out P HP5.out.lt HPM.out.1 HPM.out.2.2.2 HPM.out.2.2.1)
  have p0 := HP6.out.cell (i := 0) (by omega)
  simp only [if_true] at p0
  have HFin : Hid (Moved w w6 S M C n nc cap tv rv sv cl mc ms F L N v c k B xs c0 sl k0 cp0 g0 u lst Nv) := by
    have h21 := HT5.out.row21 HR5.out
    refine ⟨⟨HJ.out.s, HJ.out.m, HJ.out.ch⟩, HR5.out.of_block (HB6.out g0 HR5.out.lt (Ne.symm h21.2.1) (Ne.symm h21.2.2) HG.out), HJ.out.own, ?_, ?_⟩
    · have := HJ.out.at'
      rw [HNc.out] at this
      rcases this with h | ⟨g, h1, h2⟩
      · exact .inl h
      · exact .inr ⟨g, h1, Nat.le_trans HG5.out.size h2⟩
    · refine HG5.out.trans (HJ.out.chg.mono (fun b _ h => ?_))
      rw [HNc.out] at h
      rcases h with h | h | h
      · exact .inl h
      · exact .inr (.inl h)
      · exact .inr (.inr (.inr h))
  clear HJ HB6 HP6
  go_wp2
  go_ret
  exact ⟨rfl, Nv, HFin.out⟩
end Go.Proofs.Qxb6623286a
