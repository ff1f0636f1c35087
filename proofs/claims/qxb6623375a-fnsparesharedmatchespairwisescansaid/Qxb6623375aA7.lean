import Derived.Test.Qxb6623375aA6
import Derived.Carry
namespace Go.Proofs.Qxb6623375a
open Go.RowKit

/-- the decisions that SpareShared leaves, for the first k -/
def acE (V : ByteArray → Option ByteArray) (dg ac : Nat → ByteArray) (k : Nat) : Nat → ByteArray := fun i => if i < k ∧ ac i = delS ∧ (V (dg i)).isSome then spareS else ac i
def imE (V : ByteArray → Option ByteArray) (dg ac im : Nat → ByteArray) (k : Nat) : Nat → ByteArray := fun i => if i < k ∧ ac i = delS then (V (dg i)).getD (im i) else im i

theorem cell_new6 (w : World) (x0 x1 x2 x3 x4 x5 : Value) (t : TypeId) : (w.alloc (.cells #[x0, x1, x2, x3, x4, x5] t)).cell? ⟨w.heap.size, 0, none⟩ = some x0 ∧ (w.alloc (.cells #[x0, x1, x2, x3, x4, x5] t)).cell? ⟨w.heap.size, 4, none⟩ = some x4 ∧ (w.alloc (.cells #[x0, x1, x2, x3, x4, x5] t)).cell? ⟨w.heap.size, 5, none⟩ = some x5 := by
  unfold World.cell?
  rw [show (w.alloc (.cells #[x0, x1, x2, x3, x4, x5] t)).heap[(⟨w.heap.size, 0, none⟩ : Addr).block]? = some _ from heap_alloc_new w _]
  exact ⟨rfl, rfl, rfl⟩

theorem size_alloc2 (w : World) (a b : Obj) : ((w.alloc a).alloc b).heap.size = w.heap.size + 2 := by simp
theorem keepS_list : keepS.toList = [107, 101, 101, 112] := by decide +kernel
theorem delS_list : delS.toList = [100, 101, 108, 101, 116, 101] := by decide +kernel
theorem spareS_list : spareS.toList = [115, 112, 97, 114, 101] := by decide +kernel
theorem bst_keep {nm dg ac : Nat → ByteArray} {ml : Nat → Nat} {mf : Nat → Nat → ByteArray} {i : Nat} (h : ac i = keepS) (x : ByteArray) : bst nm dg ac ml mf (i + 1) x = if needs (dg i) (ml i) (mf i) x then up1 (bst nm dg ac ml mf i x) (nm i) else bst nm dg ac ml mf i x := by
  simp [bst, h]
theorem bst_skip {nm dg ac : Nat → ByteArray} {ml : Nat → Nat} {mf : Nat → Nat → ByteArray} {i : Nat} (h : ac i ≠ keepS) (x : ByteArray) : bst nm dg ac ml mf (i + 1) x = bst nm dg ac ml mf i x := by
  simp [bst, beq_false h]
theorem own_built (w : World) (x : Value) (t : TypeId) (B : Nat) (hB : B ≤ w.heap.size) : (w.alloc (.cells #[x] t)).ownsRow B t 1 (.slice (some ⟨w.heap.size, 0, none⟩) 1 1) 1 [x] :=
  ⟨rfl, .inr ⟨w.heap.size, 1, #[x], rfl, hB, heap_alloc_new _ _, Nat.le_refl _, by decide, rfl, rfl⟩⟩
theorem own_cell {w : World} {B t n g cap : Nat} {xs : List Value} (h : w.ownsRow B t 1 (.slice (some ⟨g, 0, none⟩) n cap) n xs) {k : Nat} (hk : k < n) : w.cell? ⟨g, k, none⟩ = xs[k]? := by
  obtain ⟨_, ⟨e, _⟩ | ⟨g', cap', cur, e, _, hc, _, _, hs, ht⟩⟩ := h
  · cases e
  · cases e
    unfold World.cell?
    rw [hc]
    have h2 : (cur.toList.take (n * 1))[k]? = cur.toList[k]? := by rw [List.getElem?_take]; simp [hk]
    rw [← ht, h2]; simp

theorem wpList_append_zero {w : World} {ops : Array Oper} {rest : List Oper} {o : Oper} {a : Act} {Q : Exit → Act → World → Prop} (hgd : o.guard = none) (s x : Operand)
    (ho : o.op = .call { callee := .builtin .append, args := #[s, x], argTypes := #[26, 26] }) (ad : Addr) (b : Option Addr) (n c c' : Nat) (hs : a.eval s = .slice (some ad) n c) (hx : a.eval x = .slice b 0 c') (hn : n ≤ c)
    (h : wpList Try.prog ops Q rest (a.put o.dst (.slice (some ad) n c)) w) : wpList Try.prog ops Q (o :: rest) a w := by
  refine wpList_plain hgd fun K hK => ?_
  have hr := append_zero w ad b n c c' hn o.type
  unfold Oper.wp execOp
  simp only [ho, resolve, invoke, builtin, Sem.run_bind, Sem.run_pure, Result.andThen_ok, List.map_toArray, List.map_cons, List.map_nil, hs, hx, hr]
  exact hK _ _ h

theorem acE_zero (V : ByteArray → Option ByteArray) (dg ac : Nat → ByteArray) : acE V dg ac 0 = ac := by funext i; simp [acE]
theorem imE_zero (V : ByteArray → Option ByteArray) (dg ac im : Nat → ByteArray) : imE V dg ac im 0 = im := by funext i; simp [imE]
theorem acE_at (V : ByteArray → Option ByteArray) (dg ac : Nat → ByteArray) (k : Nat) : acE V dg ac k k = ac k := by simp [acE]
theorem acE_stay {V : ByteArray → Option ByteArray} {dg ac : Nat → ByteArray} {k : Nat} (h : V (dg k) = none ∨ ac k ≠ delS) : acE V dg ac (k + 1) = acE V dg ac k := by
  funext i
  by_cases e : i = k
  · subst e
    rcases h with h | h <;> simp [acE, h]
  · have : (i < k + 1) = (i < k) := by simp; omega
    simp [acE, this]
theorem imE_stay {V : ByteArray → Option ByteArray} {dg ac im : Nat → ByteArray} {k : Nat} (h : V (dg k) = none ∨ ac k ≠ delS) : imE V dg ac im (k + 1) = imE V dg ac im k := by
  funext i
  by_cases e : i = k
  · subst e
    rcases h with h | h <;> simp [imE, h]
  · have : (i < k + 1) = (i < k) := by simp; omega
    simp [imE, this]
theorem acE_put {V : ByteArray → Option ByteArray} {dg ac : Nat → ByteArray} {k : Nat} {b : ByteArray} (h : V (dg k) = some b) (hd : ac k = delS) : acE V dg ac (k + 1) = updB (acE V dg ac k) k spareS := by
  funext i
  by_cases e : i = k
  · subst e; simp [acE, updB, h, hd]
  · have : (i < k + 1) = (i < k) := by simp; omega
    simp [acE, updB, e, this]
theorem imE_put {V : ByteArray → Option ByteArray} {dg ac im : Nat → ByteArray} {k : Nat} {b : ByteArray} (h : V (dg k) = some b) (hd : ac k = delS) : imE V dg ac im (k + 1) = updB (imE V dg ac im k) k b := by
  funext i
  by_cases e : i = k
  · subst e; simp [imE, updB, h, hd]
  · have : (i < k + 1) = (i < k) := by simp; omega
    simp [imE, updB, e, this]
theorem row_other {w : World} {b t n : Nat} {f : Nat → Value} {b' t' n' : Nat} {g : Nat → Value} (h : w.rowIs b t n f) (k : w.rowIs b' t' n' g) (hne : t ≠ t') : b ≠ b' := by
  intro e; subst e
  obtain ⟨c, hc, _⟩ := h
  obtain ⟨c', hc', _⟩ := k
  rw [hc] at hc'; cases hc'; exact hne rfl

/-- what SpareShared is handed -/
structure SPre (w : World) (PT PD n : Nat) (nm dg ac im : Nat → ByteArray) (ru : Nat → Int) (un : Nat → Bool) (pv : Nat → Value) (ml : Nat → Nat) (mf : Nat → Nat → ByteArray) : Prop where
  pt : w.rowIs PT 34 (n * 6) (ptF nm dg pv)
  pd : w.rowIs PD 40 (n * 4) (pdF ac im ru un)
  man : ∀ k, k < n → Strs w (pv k) (ml k) (mf k)
  tag : ∀ k, k < n → (nm k).size ≤ 1048576 ∧ (dg k).size ≤ 1048576 ∧ ml k ≤ 1048576
  mans : ∀ k j, k < n → j < ml k → (mf k j).size ≤ 1048576
  small : n ≤ 256

set_option maxRecDepth 100000 in
set_option maxHeartbeats 4000000 in
theorem spare_any (w : World) (PT PD n : Nat) (nm dg ac im : Nat → ByteArray) (ru : Nat → Int) (un : Nat → Bool) (pv : Nat → Value) (ml : Nat → Nat) (mf : Nat → Nat → ByteArray) (h : SPre w PT PD n nm dg ac im ru un pv ml mf) :
    Calls Try.prog 6 #[.slice (some ⟨PT, 0, none⟩) n n, .slice (some ⟨PD, 0, none⟩) n n] w fun e w' => e = .returned (.tuple #[]) ∧ Chg (fun b => b = PD) w w' ∧ w'.rowIs PD 40 (n * 4) (pdF (acE (bst nm dg ac ml mf n) dg ac n) (imE (bst nm dg ac ml mf n) dg ac im n) ru un) := by
  have HH := Lib.hid h
  have hn : (n : Int) ≤ 256 := by have := h.small; omega
  have hPT := h.pt.lt
  have hPD := h.pd.lt
  obtain ⟨i0, hi0, hzz⟩ := Option.map_eq_some_iff.1 Try.info9
  simp only [Prod.mk.injEq] at hzz
  obtain ⟨hz0, hz1, hz2⟩ := hzz
  have hmm := @run_makeMap Try.prog
  clear h
  go_enter Try.func6, Try.ntmps6
  go_wp2
  clear hmm
  go_loopw [18] (fun zi wr => ∃ i : Nat, zi = .int .i64 i ∧ (i : Int) ≤ n ∧ Hid (Below w.heap.size w wr ∧ MapIs wr w.heap.size (i * 1048577) (bst nm dg ac ml mf i))) (fun zi _ => n - (intOf zi).toNat)
  case atStart => exact ⟨0, rfl, by omega, (Below.refl _ _).alloc (Nat.le_refl _) _, mapIs_made w⟩
  case round =>
    obtain ⟨i, rfl, hi, HK⟩ := hrel
    by_cases hlt : i < n
    · have b0 : (i : Int) < n := by omega
      obtain ⟨g0, g1, g2, g3, g4, g5⟩ := pt_cells (HH.out.pt.of_block (HK.out.1.block _ hPT)) hlt
      obtain ⟨d0, d1, d2, d3⟩ := pd_cells (HH.out.pd.of_block (HK.out.1.block _ hPD)) hlt
      obtain ⟨xa, xc, hx, hxc⟩ := HH.out.man i hlt
      rw [hx] at g5
      obtain ⟨w0, hw0⟩ : ∃ w0, w0 = wr := ⟨_, rfl⟩
      subst hw0
      obtain ⟨o1, ho1⟩ : ∃ o1, o1 = Obj.cells #[.string (nm i), .int .u64 0, .int .i64 0, .pointer none, .string (dg i), .slice xa (ml i) xc] 34 := ⟨_, rfl⟩
      have q0 : (w0.alloc (.cells #[.string (nm i), .int .u64 0, .int .i64 0, .pointer none, .string (dg i), .slice xa (ml i) xc] 34)).cell? ⟨PD, i * 4, none⟩ = some (.string (ac i)) := by
        rw [World.cell?_alloc_past _ _ _ (Nat.lt_of_lt_of_le hPD HK.out.1.size)]; exact d0
      have HX := Lib.hid hxc
      have HBn : Hid (Below w.heap.size w (w0.alloc o1)) := HK.out.1.alloc HK.out.1.size _
      have HMn : Hid (MapIs (w0.alloc o1) w.heap.size (i * 1048577) (bst nm dg ac ml mf i)) := HK.out.2.kept (by rw [heap_alloc_old _ _ HK.out.2.lt])
      clear hx hxc d0 d1 d2 d3
      by_cases t1 : ac i = keepS
      · have kk : ((ac i).toList == [107, 101, 101, 112]) = true := by rw [t1]; decide +kernel
        have HT1 := Lib.hid t1
        have hsz0 : w.heap.size < w0.heap.size := HK.out.2.lt
        clear t1
        by_cases t2 : ml i = 0
        · rw [t2] at g5 q0
          rw [t2] at ho1
          go_wp2_with (at_builtin; refine wpList_append_zero rfl _ _ rfl ⟨w0.heap.size + 1, 0, none⟩ xa 1 1 xc rfl rfl (Nat.le_refl _) ?_)
          rw [← ho1]
          have hB2 : Below w.heap.size w ((w0.alloc o1).alloc (.cells #[.string (dg i)] 9)) := HBn.out.alloc HBn.out.size _
          refine spare_loop2 ((w0.alloc o1).alloc (.cells #[.string (dg i)] 9)) w.heap.size w0.heap.size (w0.heap.size + 1) 1 1 (i * 1048577) (bst nm dg ac ml mf i) (nm i) (dg i) (mf i) _ (HMn.out.kept (by rw [heap_alloc_old _ _ HMn.out.lt])) ?_ ?_ (by rw [size_alloc2]; omega) (by rw [size_alloc2]; omega) (by omega) (by omega) (by omega) (by omega) (HH.out.tag i hlt).1 ?_ ?_
          · rw [World.cell?_alloc_past _ _ _ (by simp), ho1]; exact (cell_new6 w0 _ _ _ _ _ _ _).1
          · intro k hk
            have : k = 0 := by omega
            subst this
            have e : (w0.alloc o1).heap.size = w0.heap.size + 1 := by simp
            rw [← e]
            unfold World.cell?
            rw [show ((w0.alloc o1).alloc (.cells #[.string (dg i)] 9)).heap[(⟨(w0.alloc o1).heap.size, 0, none⟩ : Addr).block]? = some _ from heap_alloc_new _ _]
            rfl
          · intro k hk
            have : k = 0 := by omega
            subst this
            exact (HH.out.tag i hlt).2.1
          · refine Lib.hid ?_
            intros
            rename_i w3 hg3 hM3
            have HR : Hid (Below w.heap.size w w3 ∧ MapIs w3 w.heap.size ((i + 1) * 1048577) (bst nm dg ac ml mf (i + 1))) := by
              refine ⟨hB2.grown hg3 hB2.size (fun k e => by cases e; exact Nat.le_refl _), (hM3.congr (fun x => ?_)).mono (by omega)⟩
              rw [bst_keep HT1.out, t2, ← mid_all]
            clear hg3 hM3
            go_wp2
            go_roundw
            case rel => exact ⟨i + 1, by go_num, by omega, HR⟩
            case measure => simp [intOf]; omega
        · obtain ⟨xb, xo, e, hxb, hxcell⟩ := HX.out (by omega)
          subst e
          have hml := (HH.out.tag i hlt).2.2
          have hB2 : Below w.heap.size w ((w0.alloc o1).alloc (.cells #[.string (dg i)] 9)) := HBn.out.alloc HBn.out.size _
          have HNEWS : Hid (∀ j u, ((List.range (ml i)).map (fun k => Value.string (mf i k)))[j]? = some u → ((w0.alloc (.cells #[.string (nm i), .int .u64 0, .int .i64 0, .pointer none, .string (dg i), .slice (some ⟨xb, xo, none⟩) (ml i) xc] 34)).alloc (.cells #[.string (dg i)] 9)).cell? ((⟨xb, xo, none⟩ : Addr).add j) = some u) := fun j u hj => by
            rw [WideShapes.add_plain, ← ho1, hB2.cell (p := ⟨xb, xo + j, none⟩) hxb]
            have hjl : j < ml i := by
              have := (List.getElem?_eq_some_iff.1 hj).1
              simpa using this
            simp [hjl] at hj
            rw [← hj]; exact hxcell j hjl
          have HOWN : Hid (((w0.alloc (.cells #[.string (nm i), .int .u64 0, .int .i64 0, .pointer none, .string (dg i), .slice (some ⟨xb, xo, none⟩) (ml i) xc] 34)).alloc (.cells #[.string (dg i)] 9)).ownsRow w.heap.size 9 1 (.slice (some ⟨w0.heap.size + 1, 0, none⟩) 1 1) 1 [.string (dg i)]) := by
            have := own_built (w0.alloc (.cells #[.string (nm i), .int .u64 0, .int .i64 0, .pointer none, .string (dg i), .slice (some ⟨xb, xo, none⟩) (ml i) xc] 34)) (.string (dg i)) 9 w.heap.size (by simp; omega)
            refine Lib.hid ?_
            simpa using this
          clear hxcell
          go_wp2_with (at_builtin; refine wpList_append_lies _ rfl _ _ 26 rfl w.heap.size 9 i0 _ 1 16 Try.underlying26 hi0 hz0 hz1 hz2 rfl (by omega) (.slice (some ⟨w0.heap.size + 1, 0, none⟩) 1 1) 1 [.string (dg i)] rfl (by exact HOWN.out) ⟨xb, xo, none⟩ (ml i) xc ((List.range (ml i)).map (fun k => Value.string (mf i k))) rfl (by simp) HNEWS.out (by simp [Value.oneCell']) (by omega) (by unfold maxLen; omega) (by omega) (by rw [size_alloc2]; omega) (w0.heap.size + 2) (by rw [size_alloc2]) ?_; intro gg cap1 w2 hown1 hgrow hat hlt2; refine Hid.out ?_)
          rw [← ho1] at hgrow
          have ob : ∀ k, Value.ownBlock (.slice (some ⟨w0.heap.size + 1, 0, none⟩) 1 1) = some k → k = w0.heap.size + 1 := fun k e => by
            have : w0.heap.size + 1 = k := by simpa [Value.ownBlock] using e
            omega
          have hg1 : gg = w0.heap.size + 1 ∨ gg = w0.heap.size + 2 := by
            rcases hat with e | e
            · exact .inl (ob gg e)
            · exact .inr e
          have HB3 : Hid (Below w.heap.size w w2) := hB2.grown hgrow hB2.size (fun k e => by have := ob k e; omega)
          have HM3 : Hid (MapIs w2 w.heap.size (i * 1048577) (bst nm dg ac ml mf i)) := (HMn.out.kept (w' := (w0.alloc o1).alloc (.cells #[.string (dg i)] 9)) (by rw [heap_alloc_old _ _ HMn.out.lt])).kept (hgrow.block _ (by rw [size_alloc2]; omega) (fun e => by have := ob _ e.symm; omega))
          have HP0 : Hid (w2.cell? ⟨w0.heap.size, 0, none⟩ = some (.string (nm i))) := by
            rw [hgrow.cell_far ⟨w0.heap.size, 0, none⟩ (by rw [size_alloc2]; simp) (by simp [Value.ownBlock]), World.cell?_alloc_past _ _ _ (by simp), ho1]; exact (cell_new6 w0 _ _ _ _ _ _ _).1
          have HDG : Hid (∀ k, k < 1 + ml i → w2.cell? ⟨gg, k, none⟩ = some (.string (dgl (dg i) (mf i) k))) := fun k hk => by
            rw [own_cell hown1 hk]
            cases k with
            | zero => rfl
            | succ k =>
              have hk' : k < ml i := by omega
              simp [dgl, hk']
          have HDS : Hid (∀ k, k < 1 + ml i → (dgl (dg i) (mf i) k).size ≤ 1048576) := fun k hk => by
            cases k with
            | zero => exact (HH.out.tag i hlt).2.1
            | succ k => exact HH.out.mans i k hlt (by omega)
          have hw2 : w0.heap.size + 2 ≤ w2.heap.size := by have := hgrow.size; rw [size_alloc2] at this; exact this
          clear hown1 hgrow hat ob HNEWS HOWN ho1 q0 g5
          refine Lib.hid ?_
          go_wp2
          refine spare_loop2 w2 w.heap.size w0.heap.size gg (1 + ml i) cap1 (i * 1048577) (bst nm dg ac ml mf i) (nm i) (dg i) (mf i) _ HM3.out HP0.out HDG.out (by omega) hlt2 (by omega) (by omega) (by omega) (by omega) (HH.out.tag i hlt).1 HDS.out ?_
          refine Lib.hid ?_
          intros
          rename_i w3 hg3 hM3
          have HR : Hid (Below w.heap.size w w3 ∧ MapIs w3 w.heap.size ((i + 1) * 1048577) (bst nm dg ac ml mf (i + 1))) := by
            refine ⟨HB3.out.grown hg3 HB3.out.size (fun k e => by cases e; exact Nat.le_refl _), (hM3.congr (fun x => ?_)).mono (by omega)⟩
            rw [bst_keep HT1.out, Nat.add_comm 1 (ml i), mid_all]
          clear hg3 hM3
          go_wp2
          go_roundw
          case rel => exact ⟨i + 1, by go_num, by omega, HR⟩
          case measure => simp [intOf]; omega
      · have kk : ((ac i).toList == [107, 101, 101, 112]) = false := by rw [← keepS_list]; exact beq_false t1
        have HR : Hid (Below w.heap.size w (w0.alloc o1) ∧ MapIs (w0.alloc o1) w.heap.size ((i + 1) * 1048577) (bst nm dg ac ml mf (i + 1))) := ⟨HBn.out, (HMn.out.congr (fun x => (bst_skip t1 x).symm)).mono (by omega)⟩
        clear t1
        go_wp2
        rw [← ho1]
        go_roundw
        case rel => exact ⟨i + 1, by go_num, by omega, HR⟩
        case measure => simp [intOf]; omega
    · have e0 : i = n := by omega
      subst e0
      obtain ⟨w0, hw0⟩ : ∃ w0, w0 = wr := ⟨_, rfl⟩
      subst hw0
      clear hlt hi
      have hPTD : PT ≠ PD := row_other HH.out.pt HH.out.pd (by decide)
      go_wp2
      go_loopw [62] (fun zi wr => ∃ k : Nat, zi = .int .i64 k ∧ (k : Int) ≤ i ∧ Hid (Chg (fun b => b = PD) w wr ∧ MapIs wr w.heap.size (i * 1048577) (bst nm dg ac ml mf i) ∧ wr.rowIs PD 40 (i * 4) (pdF (acE (bst nm dg ac ml mf i) dg ac k) (imE (bst nm dg ac ml mf i) dg ac im k) ru un))) (fun zi _ => i - (intOf zi).toNat)
      case atStart =>
        refine ⟨0, rfl, by omega, Below.chg (Chg.refl _ _) HK.out.1, HK.out.2, ?_⟩
        rw [acE_zero, imE_zero]; exact HH.out.pd.of_block (HK.out.1.block _ hPD)
      case round =>
        obtain ⟨k, rfl, hk, HL⟩ := hrel
        by_cases hlt : k < i
        · have b0 : (k : Int) < i := by omega
          obtain ⟨g0, g1, g2, g3, g4, g5⟩ := pt_cells (HH.out.pt.of_block (HL.out.1.block _ hPT hPTD)) hlt
          obtain ⟨xa, xc, hx, -⟩ := HH.out.man k hlt
          rw [hx] at g5
          obtain ⟨o1, ho1⟩ : ∃ o1, o1 = Obj.cells #[.string (nm k), .int .u64 0, .int .i64 0, .pointer none, .string (dg k), .slice xa (ml k) xc] 34 := ⟨_, rfl⟩
          have hszw : w.heap.size < wr.heap.size := HL.out.2.1.lt
          have HCn : Hid (Chg (fun b => b = PD) w (wr.alloc o1)) := Below.chg HL.out.1 ((Below.refl _ _).alloc (by omega) _)
          have HMn : Hid (MapIs (wr.alloc o1) w.heap.size (i * 1048577) (bst nm dg ac ml mf i)) := HL.out.2.1.kept (by rw [heap_alloc_old _ _ HL.out.2.1.lt])
          have HRn : Hid ((wr.alloc o1).rowIs PD 40 (i * 4) (pdF (acE (bst nm dg ac ml mf i) dg ac k) (imE (bst nm dg ac ml mf i) dg ac im k) ru un)) := HL.out.2.2.of_block (by rw [heap_alloc_old _ _ HL.out.2.2.lt])
          have hdsz := (HH.out.tag k hlt).2.1
          have d0 := (pd_cells HRn.out hlt).1
          rw [acE_at, ho1] at d0
          clear hx
          cases hV : bst nm dg ac ml mf i (dg k) with
          | none =>
            obtain ⟨v, hlook⟩ := look_none HMn.out (dg k) (by unfold maxLen; omega) hV
            rw [ho1] at hlook
            have HR : Hid (Chg (fun b => b = PD) w (wr.alloc o1) ∧ MapIs (wr.alloc o1) w.heap.size (i * 1048577) (bst nm dg ac ml mf i) ∧ (wr.alloc o1).rowIs PD 40 (i * 4) (pdF (acE (bst nm dg ac ml mf i) dg ac (k + 1)) (imE (bst nm dg ac ml mf i) dg ac im (k + 1)) ru un)) := by
              refine ⟨HCn.out, HMn.out, ?_⟩
              rw [acE_stay (.inl hV), imE_stay (.inl hV)]; exact HRn.out
            clear hV
            go_wp2
            rw [← ho1]
            go_roundw
            case rel => exact ⟨k + 1, by go_num, by omega, HR⟩
            case measure => simp [intOf]; omega
          | some b =>
            have hlook := look_some HMn.out (dg k) b (by unfold maxLen; omega) hV
            rw [ho1] at hlook
            by_cases t1 : ac k = delS
            · have kk : ((ac k).toList == [100, 101, 108, 101, 116, 101]) = true := by rw [t1]; decide +kernel
              have hs1 := pd_setA HRn.out k spareS
              have hs2 := pd_setI hs1 k b
              have c1 := (pd_cells HRn.out hlt).1
              have c2 := (pd_cells hs1 hlt).2.2.1
              have f1 := HRn.out.frozen (k * 4)
              have f2 := hs1.frozen (k * 4 + 2)
              have HR : Hid (Chg (fun b => b = PD) w (((wr.alloc o1).setCell ⟨PD, k * 4, none⟩ (.string spareS)).setCell ⟨PD, k * 4 + 2, none⟩ (.string b)) ∧ MapIs (((wr.alloc o1).setCell ⟨PD, k * 4, none⟩ (.string spareS)).setCell ⟨PD, k * 4 + 2, none⟩ (.string b)) w.heap.size (i * 1048577) (bst nm dg ac ml mf i) ∧ (((wr.alloc o1).setCell ⟨PD, k * 4, none⟩ (.string spareS)).setCell ⟨PD, k * 4 + 2, none⟩ (.string b)).rowIs PD 40 (i * 4) (pdF (acE (bst nm dg ac ml mf i) dg ac (k + 1)) (imE (bst nm dg ac ml mf i) dg ac im (k + 1)) ru un)) := by
                have hne : w.heap.size ≠ PD := by omega
                refine ⟨(HCn.out.setCell ⟨PD, k * 4, none⟩ rfl _).setCell ⟨PD, k * 4 + 2, none⟩ rfl _, HMn.out.kept ?_, ?_⟩
                · rw [Below.heap_setCell _ _ _ _ hne, Below.heap_setCell _ _ _ _ hne]
                · rw [acE_put hV t1, imE_put hV t1]; exact hs2
              rw [acE_at] at c1
              rw [ho1] at c1 c2 f1 f2 HR
              clear hV t1 hs1 hs2
              unfold spareS at c2 f2 HR
              go_wp2
              go_roundw
              case rel => exact ⟨k + 1, by go_num, by omega, HR⟩
              case measure => simp [intOf]; omega
            · have kk : ((ac k).toList == [100, 101, 108, 101, 116, 101]) = false := by rw [← delS_list]; exact beq_false t1
              have HR : Hid (Chg (fun b => b = PD) w (wr.alloc o1) ∧ MapIs (wr.alloc o1) w.heap.size (i * 1048577) (bst nm dg ac ml mf i) ∧ (wr.alloc o1).rowIs PD 40 (i * 4) (pdF (acE (bst nm dg ac ml mf i) dg ac (k + 1)) (imE (bst nm dg ac ml mf i) dg ac im (k + 1)) ru un)) := by
                refine ⟨HCn.out, HMn.out, ?_⟩
                rw [acE_stay (.inr t1), imE_stay (.inr t1)]; exact HRn.out
              clear hV t1
              go_wp2
              rw [← ho1]
              go_roundw
              case rel => exact ⟨k + 1, by go_num, by omega, HR⟩
              case measure => simp [intOf]; omega
        · have e0 : k = i := by omega
          subst e0
          go_wp2
          go_end0
          exact ⟨rfl, HL.out.1, HL.out.2.2⟩
end Go.Proofs.Qxb6623375a
