import Derived.Test.Qxb6619248aDoorD2
namespace Go.Proofs.Qxb6619248aDoor
open Go.RowKit

theorem decDigits_big {u : Nat} (h : ¬ u < 10) : Lib.decDigits u = Lib.decDigits (u / 10) ++ [UInt8.ofNat (48 + u % 10)] := by rw [Lib.decDigits, dif_neg h]

/-- it fits a uint64 (a structure: the bare inequality, even hidden, sends the walk into the numeral) -/
structure Small (u : Nat) : Prop where
  h : u < 18446744073709551616

/-- the digits that are laid so far -/
structure Laying (w : World) (U u i : Nat) (wr : World) : Prop where
  ex : ∃ (ds : List UInt8) (f : Nat → Value), ds.length + i = 20 ∧ Lib.decDigits u ++ ds = Lib.decDigits U ∧ wr.rowIs w.heap.size 49 20 f ∧ ∀ j c, ds[j]? = some c → f (i + j) = .int .u8 c.toNat
  below : Below w.heap.size w wr
theorem Laying.pos {w : World} {U u i : Nat} {wr : World} (h : Laying w U u i wr) (hU : U < 18446744073709551616) : 1 ≤ i := by
  obtain ⟨ds, f, h1, h2, _⟩ := h.ex
  have e := congrArg List.length h2
  rw [List.length_append, Lib.decDigits_length, Lib.decDigits_length] at e
  have := Lib.nDigits_le20 U hU
  have := Lib.nDigits_pos u
  omega
theorem Laying.row {w : World} {U u i : Nat} {wr : World} (h : Laying w U u i wr) : ∃ f, wr.rowIs w.heap.size 49 20 f := by
  obtain ⟨ds, f, h1, h2, h3, _⟩ := h.ex
  exact ⟨f, h3⟩
theorem dig8 (r : Nat) (h : r < 10) : (((UInt8.ofNat (48 + r)).toNat : Nat) : Int) = 48 + (r : Int) := by
  have : (UInt8.ofNat (48 + r)).toNat = 48 + r := by simp; omega
  rw [this]; omega
/-- one digit more -/
theorem Laying.step {w : World} {U u i : Nat} {wr : World} (h : Laying w U u (i + 1) wr) (hu : ¬ u < 10) : Laying w U (u / 10) i (wr.setCell ⟨w.heap.size, i, none⟩ (.int .u8 (48 + (u : Int) % 10))) := by
  obtain ⟨ds, f, h1, h2, h3, h4⟩ := h.ex
  refine ⟨⟨UInt8.ofNat (48 + u % 10) :: ds, _, by simp; omega, ?_, h3.set i _, fun j c hj => ?_⟩, h.below.setCell (Nat.le_refl _) _⟩
  · rw [← h2, decDigits_big hu]; simp
  · cases j with
    | zero =>
      rw [List.getElem?_cons_zero] at hj
      cases hj
      have := dig8 (u % 10) (by omega)
      show (if i + 0 = i then Value.int .u8 (48 + (u : Int) % 10) else f (i + 0)) = _
      rw [if_pos (by omega), this]
      congr 1
    | succ j =>
      simp at hj
      rw [if_neg (by omega), show i + (j + 1) = i + 1 + j by omega]
      exact h4 j c hj
/-- the last digit -/
theorem Laying.last {w : World} {U u i : Nat} {wr : World} (h : Laying w U u (i + 1) wr) (hu : u < 10) : ∃ w2 f, w2 = wr.setCell ⟨w.heap.size, i, none⟩ (.int .u8 (48 + (u : Int) % 10)) ∧ Below w.heap.size w w2 ∧ w.heap.size < w2.heap.size ∧
    (Lib.decDigits U).length + i = 20 ∧ w2.rowIs w.heap.size 49 20 f ∧ ∀ j c, (Lib.decDigits U)[j]? = some c → f (i + j) = .int .u8 c.toNat := by
  obtain ⟨ds, f, h1, h2, h3, h4⟩ := h.ex
  have hd : Lib.decDigits U = UInt8.ofNat (48 + u) :: ds := by rw [← h2, Lib.decDigits_one hu]; rfl
  refine ⟨_, _, rfl, h.below.setCell (Nat.le_refl _) _, (h3.set i _).lt, by rw [hd]; simp; omega, h3.set i _, fun j c hj => ?_⟩
  rw [hd] at hj
  cases j with
  | zero =>
    rw [List.getElem?_cons_zero] at hj
    cases hj
    have := dig8 u hu
    show (if i + 0 = i then Value.int .u8 (48 + (u : Int) % 10) else f (i + 0)) = _
    rw [if_pos (by omega), this]
    congr 1; omega
  | succ j =>
    simp at hj
    rw [if_neg (by omega), show i + (j + 1) = i + 1 + j by omega]
    exact h4 j c hj

theorem laying_start (w : World) (U : Nat) (c : Array Value) (hc : c.size = 20) : Laying w U U 20 (w.alloc (.cells c 49)) :=
  ⟨⟨[], _, rfl, by simp, by have := rowIs_new w c 49; rw [hc] at this; exact this, fun j c hj => by simp at hj⟩, (Below.refl _ _).alloc (Nat.le_refl _) _⟩

def mI (v : Value) : Nat := (intOf v).toNat
/-- 'make([]byte, 0, 21)', and the array of digits beside it -/
theorem made21 (w w2 : World) (hbel : Below w.heap.size w w2) {g : Nat → Value} (hrow : w2.rowIs w.heap.size 49 20 g) :
    ∃ w3, (Instr.makeSlice 22 (.int .i64 0) (.int .i64 21)).run Tryd.prog w2 = .ok (.slice (some ⟨w2.heap.size, 0, none⟩) 0 21) w3 ∧ Buf w.heap.size w3 (.slice (some ⟨w2.heap.size, 0, none⟩) 0 21) [] w3 ∧ w3.rowIs w.heap.size 49 20 g ∧ Keeps w.heap.size w w3 := by
  obtain ⟨i0, hi, hz0, hz1, hz2⟩ := info_parts Tryd.info5
  have h := run_make (P := Tryd.prog) w2 22 5 i0 _ Tryd.underlying22 hi hz0 .i64 .i64 0 21 (by decide) (by decide) (by rw [hz2]; decide) (by decide)
  refine ⟨_, h, ⟨World.ownsRow_made _ _ _ hbel.size (by decide) (by rw [hz1]; exact size_madeCells _ _), Keeps.refl _ _, Nat.le_trans hbel.size (by simp)⟩, hrow.alloc _, (keeps_below hbel (Nat.le_refl _)).alloc hbel.size _⟩
theorem row_keeps {B : Nat} {w w' : World} {b n : Nat} {g : Nat → Value} (h : w.rowIs b 49 n g) (k : Keeps B w w') : w'.rowIs b 49 n g := by
  obtain ⟨c, hb, hn, hc⟩ := h
  exact ⟨c, k.others b _ hb (by simp) (by intro c fz; simp), hn, hc⟩
theorem Tryd.elem49 : Tryd.prog.elem 49 = 5 := by kernel_rfl
theorem Tryd.len49 : Tryd.prog.arrayLen 49 = 20 := by kernel_rfl
theorem Tryd.und49 : Tryd.prog.underlying 49 = some (.array (Tryd.prog.arrayLen 49) (Tryd.prog.elem 49)) := by kernel_rfl
theorem sl20 (wx : World) (b k i n : Nat) (hi : i = k + 1) (hk : n + k = 20) (hn : 0 < n) :
    (Instr.sliceAt 49 (.pointer (some ⟨b, 0, none⟩)) (some (.int .i64 ((i : Int) - 1))) none none).run Tryd.prog wx = .ok (.slice (some ⟨b, k, none⟩) n n) wx := by
  subst hi
  rw [run_sliceAt_array_l (P := Tryd.prog) wx 49 ⟨b, 0, none⟩ Tryd.und49 .i64 _ (by omega) (by rw [Tryd.len49]; omega), Tryd.elem49, Tryd.sizeOf5, Tryd.len49]
  have e : (((k + 1 : Nat) : Int) - 1).toNat = k := by omega
  simp only [Result.andThen, e, slicedAt]
  rw [if_neg (by omega), show 20 - k = n by omega]
  simp [Addr.add]
  omega
theorem row_bytes {w : World} {b k : Nat} {g : Nat → Value} {l : List UInt8} (h : w.rowIs b 49 20 g) (hl : l.length + k = 20) (hg : ∀ j c, l[j]? = some c → g (k + j) = .int .u8 c.toNat) :
    ∀ j u, (Lib.byteCells l)[j]? = some u → w.cell? ((⟨b, k, none⟩ : Addr).add j) = some u := by
  intro j u hj
  simp only [Lib.byteCells, List.getElem?_map, Option.map_eq_some_iff] at hj
  obtain ⟨c, hc, rfl⟩ := hj
  have hjl : j < l.length := (List.getElem?_eq_some_iff.1 hc).1
  rw [WideShapes.add_plain, h.cell (by omega), hg j c hc]
theorem decDigits_pos (U : Nat) : 0 < (Lib.decDigits U).length := by rw [Lib.decDigits_length]; exact Lib.nDigits_pos U
theorem neg_u64 (v : Int) (h0 : -9223372036854775808 ≤ v) (hv : v < 0) : IntKind.u64.wrap (-IntKind.u64.wrap v) = (v.natAbs : Int) := by
  rw [IntKind.wrap_u64, IntKind.wrap_u64]
  omega

set_option maxRecDepth 100000 in
set_option maxHeartbeats 2000000 in
theorem itoa_any (w : World) (v : Int) (h0 : -9223372036854775808 ≤ v) (h1 : v ≤ 9223372036854775807) :
    Calls Tryd.prog 9 #[.int .i64 v] w fun e w' => ∃ v', e = .returned v' ∧ Buf w.heap.size w v' (Lib.itoa v) w' := by
  by_cases hv : v < 0
  · have hneg := neg_u64 v h0 hv
    obtain ⟨U, hU⟩ : ∃ U, U = v.natAbs := ⟨_, rfl⟩
    have hUl : U < 18446744073709551616 := by omega
    rw [← hU] at hneg
    have HU := Lib.hid hU
    have HUl : Small U := ⟨hUl⟩
    clear hU hUl
    go_enter Tryd.func9, Tryd.ntmps9
    go_wp2
    go_loopw [3, 5] (fun uu ii wr => ∃ (x y : Int), uu = .int .u64 x ∧ ii = .int .i64 y ∧ Hid (∃ u i : Nat, x = u ∧ y = i ∧ Small u ∧ (i : Int) ≤ 20 ∧ Laying w U u i wr)) (fun _ i _ => mI i)
    case atStart => exact ⟨_, _, rfl, rfl, U, 20, (by first | rfl | rw [hneg]), rfl, HUl, (by omega), laying_start w U _ rfl⟩
    case round =>
      obtain ⟨x, y, rfl, rfl, HA⟩ := hrel
      obtain ⟨u, i, rfl, rfl, hul, hil, HL0⟩ := HA.out
      have HL : Hid (Laying w U u i wr) := HL0
      clear HL0 HA
      have hpos := HL.out.pos HUl.h
      obtain ⟨k, hk⟩ : ∃ k, i = k + 1 := ⟨i - 1, by omega⟩
      have HL' : Hid (Laying w U u (k + 1) wr) := by rw [← hk]; exact HL.out
      have hi1 : (1 : Int) ≤ i := by omega
      have hto : ((i : Int) - 1).toNat = k := by omega
      obtain ⟨f, hrow⟩ := HL.out.row
      have hcell := hrow.cell (i := k) (by omega)
      have hfz := hrow.frozen k
      have HK := Lib.hid hk
      clear hrow HL hk hpos h0 h1
      by_cases hu : u < 10
      · have hw : IntKind.u64.wrap ((u : Int) / 10) = 0 := by rw [IntKind.wrap_u64]; omega
        have hu' : (u : Int) < 10 := by omega
        obtain ⟨w2, g, hw2, hbel, hsz, hlen, hrow2, hds⟩ := HL'.out.last hu
        have HW : Hid (Below w.heap.size w w2 ∧ w.heap.size < w2.heap.size ∧ (Lib.decDigits U).length + k = 20 ∧ w2.rowIs w.heap.size 49 20 g ∧ ∀ j c, (Lib.decDigits U)[j]? = some c → g (k + j) = .int .u8 c.toNat) := ⟨hbel, hsz, hlen, hrow2, hds⟩
        clear hbel hsz hlen hrow2 hds
        have hw2' := hw2.symm
        clear hw2
        obtain ⟨w3, hmk, hb3, hrow3, hk3⟩ := made21 w w2 HW.out.1 HW.out.2.2.2.1
        have HB3 : Hid (Buf w.heap.size w3 (.slice (some ⟨w2.heap.size, 0, none⟩) 0 21) [] w3) := hb3
        have HR3 := Lib.hid hrow3
        have HK3 := Lib.hid hk3
        clear hb3 hrow3 hk3
        go_wp2_with (at_builtin; refine wpList_buf_nilslice rfl _ _ rfl rfl 45 45 rfl HB3.out rfl rfl (by simp) ?_; intro v4 w4 hb4; refine Hid.out ?_)
        refine Lib.hid ?_
        have HR4 := Lib.hid (row_keeps HR3.out hb4.keeps)
        have HB4 := Lib.hid hb4
        clear hb4
        have hsl := fun wx => sl20 wx w.heap.size k i (Lib.decDigits U).length HK.out HW.out.2.2.1 (decDigits_pos U)
        have hdl : (Lib.decDigits U).length ≤ 20 := by have := HW.out.2.2.1; omega
        go_wp2_with (at_builtin; refine wpList_buf_slice rfl _ _ rfl rfl HB4.out (Lib.decDigits U) ⟨w.heap.size, k, none⟩ _ rfl (row_bytes HR4.out HW.out.2.2.1 HW.out.2.2.2.2) (by simp; omega) ?_; intro v5 w5 hb5 hg5; refine Hid.out ?_)
        refine Lib.hid ?_
        have HB5 : Hid (Buf w.heap.size w v5 (Lib.itoa v) w5) := by
          have e : Lib.itoa v = [] ++ [45] ++ Lib.decDigits U := by unfold Lib.itoa; rw [if_pos hv, HU.out]; rfl
          rw [e]; exact hb5.back HK3.out
        clear hb5 hg5
        go_wp2
        go_ret
        exact ⟨_, rfl, HB5.out⟩
      · obtain ⟨q, hq⟩ : ∃ q, q = u / 10 := ⟨_, rfl⟩
        have hw : IntKind.u64.wrap ((u : Int) / 10) = (q : Int) := by rw [IntKind.wrap_u64]; have := hul.h; omega
        have hq0 : (0 : Int) < q := by omega
        have HQ : Hid ((Small q ∧ (k : Int) ≤ 20 ∧ Laying w U q k (wr.setCell ⟨w.heap.size, k, none⟩ (.int .u8 (48 + (u : Int) % 10))))) := ⟨⟨by have := hul.h; omega⟩, by have := HK.out; omega, by rw [hq]; exact HL'.out.step hu⟩
        have HN := Lib.hid hu
        clear hq hu
        go_wp2
        go_roundw
        case rel => exact ⟨_, _, rfl, rfl, q, k, rfl, by have := HK.out; omega, HQ.out⟩
        case measure => simp [mI, intOf]; omega
  · obtain ⟨U, rfl⟩ : ∃ U : Nat, v = U := ⟨v.toNat, by omega⟩
    have HUl : Small U := ⟨by omega⟩
    have hv0 : (0 : Int) ≤ (U : Int) := by omega
    go_enter Tryd.func9, Tryd.ntmps9
    go_wp2
    go_loopw [3, 5] (fun uu ii wr => ∃ (x y : Int), uu = .int .u64 x ∧ ii = .int .i64 y ∧ Hid (∃ u i : Nat, x = u ∧ y = i ∧ Small u ∧ (i : Int) ≤ 20 ∧ Laying w U u i wr)) (fun _ i _ => mI i)
    case atStart => exact ⟨_, _, rfl, rfl, U, 20, rfl, rfl, HUl, (by omega), laying_start w U _ rfl⟩
    case round =>
      obtain ⟨x, y, rfl, rfl, HA⟩ := hrel
      obtain ⟨u, i, rfl, rfl, hul, hil, HL0⟩ := HA.out
      have HL : Hid (Laying w U u i wr) := HL0
      clear HL0 HA
      have hpos := HL.out.pos HUl.h
      obtain ⟨k, hk⟩ : ∃ k, i = k + 1 := ⟨i - 1, by omega⟩
      have HL' : Hid (Laying w U u (k + 1) wr) := by rw [← hk]; exact HL.out
      have hi1 : (1 : Int) ≤ i := by omega
      have hto : ((i : Int) - 1).toNat = k := by omega
      obtain ⟨f, hrow⟩ := HL.out.row
      have hcell := hrow.cell (i := k) (by omega)
      have hfz := hrow.frozen k
      have HK := Lib.hid hk
      clear hrow HL hk hpos h0 h1
      by_cases hu : u < 10
      · have hw : IntKind.u64.wrap ((u : Int) / 10) = 0 := by rw [IntKind.wrap_u64]; omega
        have hu' : (u : Int) < 10 := by omega
        obtain ⟨w2, g, hw2, hbel, hsz, hlen, hrow2, hds⟩ := HL'.out.last hu
        have HW : Hid (Below w.heap.size w w2 ∧ w.heap.size < w2.heap.size ∧ (Lib.decDigits U).length + k = 20 ∧ w2.rowIs w.heap.size 49 20 g ∧ ∀ j c, (Lib.decDigits U)[j]? = some c → g (k + j) = .int .u8 c.toNat) := ⟨hbel, hsz, hlen, hrow2, hds⟩
        clear hbel hsz hlen hrow2 hds
        have hw2' := hw2.symm
        clear hw2
        obtain ⟨w3, hmk, hb3, hrow3, hk3⟩ := made21 w w2 HW.out.1 HW.out.2.2.2.1
        have HB3 : Hid (Buf w.heap.size w3 (.slice (some ⟨w2.heap.size, 0, none⟩) 0 21) [] w3) := hb3
        have HR3 := Lib.hid hrow3
        have HK3 := Lib.hid hk3
        clear hb3 hrow3 hk3
        have hsl := fun wx => sl20 wx w.heap.size k i (Lib.decDigits U).length HK.out HW.out.2.2.1 (decDigits_pos U)
        have hdl : (Lib.decDigits U).length ≤ 20 := by have := HW.out.2.2.1; omega
        go_wp2_with (at_builtin; refine wpList_buf_slice rfl _ _ rfl rfl HB3.out (Lib.decDigits U) ⟨w.heap.size, k, none⟩ _ rfl (row_bytes HR3.out HW.out.2.2.1 HW.out.2.2.2.2) (by simp; omega) ?_; intro v5 w5 hb5 hg5; refine Hid.out ?_)
        refine Lib.hid ?_
        have HB5 : Hid (Buf w.heap.size w v5 (Lib.itoa (U : Int)) w5) := by
          have e : Lib.itoa (U : Int) = [] ++ Lib.decDigits U := by unfold Lib.itoa; rw [if_neg (by omega)]; rfl
          rw [e]; exact hb5.back HK3.out
        clear hb5 hg5
        go_wp2
        go_ret
        exact ⟨_, rfl, HB5.out⟩
      · obtain ⟨q, hq⟩ : ∃ q, q = u / 10 := ⟨_, rfl⟩
        have hw : IntKind.u64.wrap ((u : Int) / 10) = (q : Int) := by rw [IntKind.wrap_u64]; have := hul.h; omega
        have hq0 : (0 : Int) < q := by omega
        have HQ : Hid ((Small q ∧ (k : Int) ≤ 20 ∧ Laying w U q k (wr.setCell ⟨w.heap.size, k, none⟩ (.int .u8 (48 + (u : Int) % 10))))) := ⟨⟨by have := hul.h; omega⟩, by have := HK.out; omega, by rw [hq]; exact HL'.out.step hu⟩
        have HN := Lib.hid hu
        clear hq hu
        go_wp2
        go_roundw
        case rel => exact ⟨_, _, rfl, rfl, q, k, rfl, by have := HK.out; omega, HQ.out⟩
        case measure => simp [mI, intOf]; omega
end Go.Proofs.Qxb6619248aDoor
