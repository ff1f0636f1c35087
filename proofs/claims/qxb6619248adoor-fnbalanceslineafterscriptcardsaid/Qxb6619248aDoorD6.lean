import Derived.Test.Qxb6619248aDoorDX
namespace Go.Proofs.Qxb6619248aDoor
open Go.RowKit

theorem IsBytes.after {w w' : World} {a : Option Addr} {l : List UInt8} (h : IsBytes w a l) (hb : Below w.heap.size w w') : IsBytes w' a l := by
  rcases h with h | ⟨ad, rfl, hc⟩
  · exact .inl h
  · exact .inr ⟨ad, rfl, fun j u hj => by rw [hb.cell (block_lt_of_cell (hc j u hj))]; exact hc j u hj⟩

theorem clone_d (w : World) (a : Option Addr) (cap d : Nat) (l : List UInt8) (hd : d = l.length) (h : IsBytes w a l) (hlen : l.length ≤ 1048576) :
    Calls Tryd.prog 6 #[.slice a d cap] w fun e w' => ∃ v', e = .returned v' ∧ Buf w.heap.size w v' l w' := by
  subst hd; exact clone_any w a cap l h hlen

theorem Buf.low {B B' : Nat} {W0 : World} {v : Value} {l : List UInt8} {w : World} (h : Buf B W0 v l w) (hB : B' ≤ B) : Buf B' W0 v l w :=
  ⟨⟨h.own.1, by
    rcases h.own.2 with h1 | ⟨g, c, cur, h1, h2, h3⟩
    · exact .inl h1
    · exact .inr ⟨g, c, cur, h1, by omega, h3⟩⟩, ⟨h.keeps.below.mono hB, h.keeps.others⟩, Nat.le_trans hB h.base⟩

/-- the line of a ledger that was just made, onto nil -/
theorem line_new {w wA : World} {m : Option Nat} {cnt : Nat} {bal : ByteArray → Int} {b : Option Addr} {n cap : Nat} {names : Nat → ByteArray}
    (hm : MapIs w m cnt bal) (hs : StrsIs w b n cap names) (hA : Below w.heap.size w wA) (hn : (n : Int) ≤ 4096) (hsz : sizes names n ≤ 1048576)
    (ht : Lib.TabBelow Tryd.prog w.heap.size w "internal/strconv.uint64pow10" .u64 Lib.pow10Tab) :
    Calls Tryd.prog 8 #[.pointer (some ⟨wA.heap.size, 0, none⟩), .slice none 0 0] (wA.alloc (.cells #[.map m, .slice b n cap] 46)) fun e w' => ∃ v', e = .returned v' ∧
      Buf wA.heap.size wA v' (lineOf (fun i => entry (names i) (bal (names i))) n) w' := by
  have hz : wA.heap.size ≤ (wA.alloc (.cells #[.map m, .slice b n cap] 46)).heap.size := by simp
  refine (line_mk (B := (wA.alloc (.cells #[.map m, .slice b n cap] 46)).heap.size) (l := []) hm hs hA (Nat.le_trans hA.size hz) hn hsz (by simp) ht (Buf.nil (Keeps.refl _ _) (Nat.le_refl _))).mono ?_
  rintro e w' ⟨v', rfl, hb⟩
  exact ⟨v', rfl, (hb.low hz).back ((Keeps.refl _ _).alloc (Nat.le_refl _) _)⟩

/-- where a buffer lies, its length a number -/
theorem Buf.at' {B : Nat} {W0 : World} {v : Value} {l : List UInt8} {w : World} (h : Buf B W0 v l w) (hl : 0 < l.length) :
    ∃ g cap n, v = .slice (some ⟨g, 0, none⟩) n cap ∧ Hid (n = l.length) ∧ Hid (B ≤ g ∧ g < w.heap.size) ∧ (n : Int) ≤ cap ∧ (cap : Int) ≤ 9223372036854775807 ∧ Hid (∀ j u, (Lib.byteCells l)[j]? = some u → w.cell? ⟨g, 0 + j, none⟩ = some u) := by
  obtain ⟨g, cap, h1, h2, h3, h4, h5, h6⟩ := h.at hl
  exact ⟨g, cap, l.length, h1, rfl, ⟨h2, h3⟩, by omega, h5, h6⟩

theorem slice22_to (wx : World) (g n c j : Nat) (x : Int) (hx : x = j) (hj : j ≤ n) (hn : n ≤ c) (h0 : 0 < c) :
    (Instr.slice 22 (.slice (some ⟨g, 0, none⟩) n c) none (some (.int .i64 x)) none).run Tryd.prog wx = .ok (.slice (some ⟨g, 0, none⟩) j c) wx := by
  subst hx
  rw [run_slice_h (P := Tryd.prog) wx 22 _ n c Tryd.und22 .i64 _ (by omega) (by omega), Tryd.elem22, Tryd.sizeOf5]
  simp only [Result.andThen, sliced, Int.toNat_natCast, Nat.sub_zero, Nat.zero_mul]
  rw [if_neg (by omega)]
  simp [Addr.add]
theorem slice22_from (wx : World) (g n c j r : Nat) (x : Int) (hx : x = j) (hr : j + r = n) (hn : n ≤ c) (h0 : 0 < r) :
    ∃ c', (Instr.slice 22 (.slice (some ⟨g, 0, none⟩) n c) (some (.int .i64 x)) none none).run Tryd.prog wx = .ok (.slice (some ⟨g, j, none⟩) r c') wx := by
  subst hx
  rw [run_slice_l (P := Tryd.prog) wx 22 _ n c Tryd.und22 .i64 _ (by omega) (by omega), Tryd.elem22, Tryd.sizeOf5]
  refine ⟨c - j, ?_⟩
  simp only [Result.andThen, sliced, Int.toNat_natCast]
  rw [if_neg (by omega), show n - j = r by omega]
  simp [Addr.add]
  omega
theorem own_str {B : Nat} {v : Value} {l : List UInt8} {w : World} (h : w.ownsRow B 5 1 v l.length (Lib.byteCells l)) (hB : B ≤ w.heap.size) : (convert 22 9 v).run Tryd.prog w = .ok (.string ⟨l.toArray⟩) w :=
  Buf.str (W0 := w) ⟨h, Keeps.refl _ _, hB⟩
/-- a buffer among the blocks that are kept -/
theorem Buf.mid {lo hi B : Nat} {W0 : World} {v : Value} {l : List UInt8} {w w' : World} (h : Buf B W0 v l w) (hlo : lo ≤ B) (hhi : w.heap.size ≤ hi) (hs : w.heap.size ≤ w'.heap.size) (hm : ∀ k, lo ≤ k → k < hi → w'.heap[k]? = w.heap[k]?) :
    (convert 22 9 v).run Tryd.prog w' = .ok (.string ⟨l.toArray⟩) w' := by
  refine own_str (B := B) ⟨h.own.1, ?_⟩ (Nat.le_trans h.base hs)
  rcases h.own.2 with h1 | ⟨g, c, cur, h1, h2, h3, h4⟩
  · exact .inl h1
  · have hlt : g < w.heap.size := (Array.getElem?_eq_some_iff.1 h3).1
    exact .inr ⟨g, c, cur, h1, h2, by rw [hm g (by omega) (by omega)]; exact h3, h4⟩
theorem cells_to {w : World} {g o : Nat} {l l' : List UInt8} (h : ∀ j u, (Lib.byteCells (l ++ l'))[j]? = some u → w.cell? ⟨g, o + j, none⟩ = some u) : ∀ j u, (Lib.byteCells l)[j]? = some u → w.cell? ((⟨g, o, none⟩ : Addr).add j) = some u := by
  intro j u hj
  rw [WideShapes.add_plain]
  refine h j u ?_
  rw [Lib.byteCells_append, List.getElem?_append_left (List.getElem?_eq_some_iff.1 hj).1]
  exact hj
theorem cells_from {w : World} {g : Nat} {l l' : List UInt8} (h : ∀ j u, (Lib.byteCells (l ++ l'))[j]? = some u → w.cell? ⟨g, 0 + j, none⟩ = some u) : ∀ j u, (Lib.byteCells l')[j]? = some u → w.cell? ((⟨g, l.length, none⟩ : Addr).add j) = some u := by
  intro j u hj
  rw [WideShapes.add_plain]
  have := h (l.length + j) u (by
    rw [Lib.byteCells_append, List.getElem?_append_right (by rw [Lib.byteCells_length]; omega), Lib.byteCells_length, Nat.add_sub_cancel_left]
    exact hj)
  rw [Nat.zero_add] at this
  exact this
theorem cells_move {w w' : World} {ad : Addr} {l : List UInt8} (h : ∀ j u, (Lib.byteCells l)[j]? = some u → w.cell? (ad.add j) = some u) (hb : w'.heap[ad.block]? = w.heap[ad.block]?) : ∀ j u, (Lib.byteCells l)[j]? = some u → w'.cell? (ad.add j) = some u := by
  intro j u hj
  have := h j u hj
  unfold World.cell? at this ⊢
  have e : (ad.add j).block = ad.block := by simp [Addr.add]; split <;> rfl
  rw [e] at this ⊢
  rw [hb]; exact this
theorem conv_head {w : World} {g c : Nat} (l' : List UInt8) (h : ∀ j u, (Lib.byteCells (headB ++ l'))[j]? = some u → w.cell? ⟨g, 0 + j, none⟩ = some u) :
    (convert 22 9 (.slice (some ⟨g, 0, none⟩) 8 c)).run Tryd.prog w = .ok (.string ⟨#[66, 65, 76, 65, 78, 67, 69, 83]⟩) w :=
  run_convert_bytes_back (P := Tryd.prog) w 22 9 5 ⟨g, 0, none⟩ c headB Tryd.underlying22 Tryd.underlying5 Tryd.underlying9 (fun j hj => cells_to h j _ (by simp [Lib.byteCells, hj]))

set_option maxRecDepth 100000 in
set_option maxHeartbeats 4000000 in
theorem split_law (w : World) (a0 a1 : Option Addr) (cap0 n cap1 : Nat) (l : List UInt8) (names : Nat → ByteArray) (m : Option Nat) (cnt : Nat) (bal : ByteArray → Int) (kk : Int)
    (hd : IsBytes w a0 l) (hdl : (l.length : Int) ≤ 9223372036854775807) (hs : StrsIs w a1 n cap1 names) (hnc : n ≤ cap1) (hm : MapIs w m cnt bal)
    (hk0 : -9223372036854775808 ≤ kk) (hk1 : kk ≤ 9223372036854775807)
    (ht : Lib.TabBelow Tryd.prog w.heap.size w "internal/strconv.uint64pow10" .u64 Lib.pow10Tab) :
    Calls Tryd.prog 3 #[.slice a0 l.length cap0, .slice a1 n cap1, .map m, .int .i64 kk] w fun e w' => e = .returned (.bool true) ∧ Below w.heap.size w w' := by
  have hlen := hm.len 3
  obtain ⟨d, hd0⟩ : ∃ d, d = l.length := ⟨_, rfl⟩
  have HD := Lib.hid hd0
  rw [← hd0] at hdl ⊢
  clear hd0
  have HM : Hid (MapIs w m cnt bal) := hm
  have HS : Hid (StrsIs w a1 n cap1 names) := hs
  have HY : Hid (IsBytes w a0 l) := hd
  have HT := Lib.hid ht
  clear hm hs hd ht
  by_cases gd : (1048576 : Int) < d
  · go_enter Tryd.func3, Tryd.ntmps3
    go_wp2
    go_ret
    exact ⟨rfl, Below.refl _ _⟩
  by_cases gn : (4096 : Int) < n
  · go_enter Tryd.func3, Tryd.ntmps3
    go_wp2
    go_ret
    exact ⟨rfl, Below.refl _ _⟩
  by_cases gc : (65536 : Int) < cnt
  · go_enter Tryd.func3, Tryd.ntmps3
    go_wp2
    go_ret
    exact ⟨rfl, Below.refl _ _⟩
  go_enter Tryd.func3, Tryd.ntmps3
  go_wp2
  go_loopw [9, 10] (fun tt ii wr => ∃ (t i : Nat), tt = .int .i64 t ∧ ii = .int .i64 i ∧ (i : Int) ≤ n ∧ (t : Int) ≤ 1048576 ∧ wr = w ∧ Hid (t = d + sizes names i)) (fun _ i _ => n - (intOf i).toNat)
  case atStart => exact ⟨d, 0, rfl, rfl, by omega, by omega, rfl, rfl⟩
  case round =>
    obtain ⟨t, i, rfl, rfl, hin, htl, rfl, HI⟩ := hrel
    by_cases hlt : i < n
    · have b0 : (i : Int) < n := by omega
      obtain ⟨hb, ho, rfl, -, hc⟩ := HS.out.cells (by omega)
      have g1 := hc i hlt
      clear hc
      have b1 : ((names i).size : Int) ≤ 140737488355328 := by have := HS.out.sz i hlt; omega
      by_cases hbig : (1048576 : Int) < t + (names i).size
      · go_wp2
        go_ret
        exact ⟨rfl, Below.refl _ _⟩
      · go_wp2
        go_roundw
        case rel => exact ⟨t + (names i).size, i + 1, by simp, by simp, by omega, by omega, trivial, by rw [HI.out, sizes]; exact Nat.add_assoc _ _ _⟩
        case measure => simp [intOf]; omega
    · have e0 : i = n := by omega
      subst e0
      by_cases k0 : kk < 0
      · go_wp2
        go_ret
        exact ⟨rfl, Below.refl _ _⟩
      by_cases k1 : (i : Int) < kk
      · go_wp2
        go_ret
        exact ⟨rfl, Below.refl _ _⟩
      obtain ⟨k, rfl⟩ : ∃ k : Nat, kk = k := ⟨kk.toNat, by omega⟩
      have hkn : k ≤ i := by omega
      have kI : (k : Int) ≤ i := by omega
      have hz : sizes names i ≤ 1048576 ∧ l.length ≤ 1048576 := by have := HI.out; have := HD.out; exact ⟨by omega, by omega⟩
      have HZ := Lib.hid hz
      obtain ⟨E, hE⟩ : ∃ E : Nat → List UInt8, E = fun j => entry (names j) (bal (names j)) := ⟨_, rfl⟩
      have HE := Lib.hid hE
      clear hz hE HI htl
      go_wp2_with (go_at_call 6; refine (clone_d wr a0 cap0 d l HD.out HY.out HZ.out.2).mono ?_; rintro e w1 ⟨v1, rfl, hb1⟩; refine Hid.out ?_)
      refine Lib.hid ?_
      have HB1 := Lib.hid hb1
      have HL1 : Hid (Below wr.heap.size wr w1) := hb1.keeps.below
      clear hb1
      go_wp2_with (go_at_call 6; refine (clone_d w1 a0 cap0 d l HD.out (HY.out.after HL1.out) HZ.out.2).mono ?_; rintro e w2 ⟨v2, rfl, hb2⟩; refine Hid.out ?_)
      refine Lib.hid ?_
      have HB2 := Lib.hid hb2
      have HL2 : Hid (Below wr.heap.size wr w2) := below_to HL1.out HL1.out.size hb2.keeps.below
      clear hb2
      go_wp2_with (go_at_call 7; refine (mk_any w2 m a1 i cap1).mono ?_; rintro e w3 ⟨rfl, rfl⟩; refine Hid.out ?_)
      refine Lib.hid ?_
      go_wp2_with (go_at_call 8; refine (line_mk HM.out HS.out HL2.out HL1.out.size gn HZ.out.1 HZ.out.2 HT.out ((HB2.out.alloc _).since)).mono ?_; rintro e w4 ⟨v3, rfl, hb3⟩; refine Hid.out ?_)
      refine Lib.hid ?_
      have HL4 : Hid (Below w1.heap.size w1 w4) := ((HB2.out.alloc _).keeps.trans hb3.keeps).below
      have HB3 : Hid (Buf w1.heap.size w1 v3 (l ++ lineOf E i) w4) := by rw [HE.out]; exact hb3.back (HB2.out.alloc _).keeps
      clear hb3
      have hs1 := slice_to w4 a1 i cap1 k hkn hnc
      go_wp2_with (go_at_call 7; refine (mk_any w4 m a1 k cap1).mono ?_; rintro e w5 ⟨rfl, rfl⟩; refine Hid.out ?_)
      refine Lib.hid ?_
      clear hs1
      go_wp2_with (go_at_call 8; refine (line_new HM.out (HS.out.to k hkn) (below_to HL1.out HL1.out.size HL4.out) (by omega) (Nat.le_trans (sizes_mono names hkn) HZ.out.1) HT.out).mono ?_; rintro e w6 ⟨v4, rfl, hb4⟩; refine Hid.out ?_)
      refine Lib.hid ?_
      have HL6 : Hid (Below w1.heap.size w1 w6) := HL4.out.trans (hb4.keeps.below.mono HL4.out.size)
      have HB4 : Hid (Buf w4.heap.size w4 v4 (lineOf E k) w6) := by rw [HE.out]; exact hb4
      clear hb4
      obtain ⟨b2, hs2, hb2e⟩ := slice_from w6 a1 i cap1 k hkn hnc
      have HE2 := Lib.hid hb2e
      clear hb2e
      go_wp2_with (go_at_call 7; refine (mk_any w6 m b2 (i - k) (cap1 - k)).mono ?_; rintro e w7 ⟨rfl, rfl⟩; refine Hid.out ?_)
      refine Lib.hid ?_
      clear hs2
      have hS2 : StrsIs wr b2 (i - k) (cap1 - k) (fun j => names (k + j)) := HS.out.from k (i - k) (cap1 - k) (by omega) (fun h => HE2.out (by omega))
      have HS2 := Lib.hid hS2
      clear hS2
      go_wp2_with (go_at_call 8; refine (line_new HM.out HS2.out (below_to HL1.out HL1.out.size HL6.out) (by omega) (by have := HZ.out.1; rw [sizes_from, show k + (i - k) = i by omega]; omega) HT.out).mono ?_; rintro e w8 ⟨v5, rfl, hb5⟩; refine Hid.out ?_)
      refine Lib.hid ?_
      have HL8 : Hid (Below w1.heap.size w1 w8) := HL6.out.trans (hb5.keeps.below.mono HL6.out.size)
      have HB5 : Hid (Buf w6.heap.size w6 v5 (lineOf (fun j => E (k + j)) (i - k)) w8) := by rw [HE.out]; exact hb5
      have HB4' : Hid (Buf w4.heap.size w4 v4 (lineOf E k) w8) := HB4.out.after (hb5.keeps.below)
      have HW48 : Below w4.heap.size w4 w8 := HB4'.out.keeps.below
      have HB3' : Hid (Buf w1.heap.size w1 v3 (l ++ lineOf E i) w8) := HB3.out.after HW48
      clear HW48 HB3
      clear hb5 HB4
      -- what left and right are
      obtain ⟨L4, hL4⟩ : ∃ L, L = headB ++ ents E k := ⟨_, rfl⟩
      obtain ⟨L5, hL5⟩ : ∃ L, L = ents (fun j => E (k + j)) (i - k) ++ [10] := ⟨_, rfl⟩
      have e4 : lineOf E k = L4 ++ [10] := by rw [hL4]; rfl
      have e5 : lineOf (fun j => E (k + j)) (i - k) = headB ++ L5 := by rw [hL5]; simp [lineOf]
      have e6 : lineOf E i = L4 ++ L5 := by
        rw [hL4, hL5]; unfold lineOf
        conv => lhs; rw [show i = k + (i - k) by omega, ents_add]
        simp
      rw [e4] at HB4'
      rw [e5] at HB5
      rw [e6] at HB3'
      have p4 : 8 ≤ L4.length := by rw [hL4, List.length_append]; exact Nat.le_add_right _ _
      have p5 : 1 ≤ L5.length := by rw [hL5, List.length_append]; exact Nat.le_add_left _ _
      have q4 : L4.length ≤ 4194304 := by
        have := ents_len names (fun j => bal (names j)) k (fun j _ => HM.out.rng _)
        have := sizes_mono names hkn
        have := HZ.out.1
        have h8 : headB.length = 8 := rfl
        rw [hL4, List.length_append, HE.out]; omega
      have q5 : L5.length ≤ 4194304 := by
        have := ents_len (fun j => names (k + j)) (fun j => bal (names (k + j))) (i - k) (fun j _ => HM.out.rng _)
        rw [sizes_from, show k + (i - k) = i by omega] at this
        have := HZ.out.1
        rw [hL5, List.length_append, HE.out, List.length_singleton]; simp only []; omega
      have HLL : Hid (L4 = headB ++ ents E k ∧ L5 = ents (fun j => E (k + j)) (i - k) ++ [10] ∧ 8 ≤ L4.length ∧ 1 ≤ L5.length ∧ L4.length ≤ 4194304 ∧ L5.length ≤ 4194304) := ⟨hL4, hL5, p4, p5, q4, q5⟩
      clear hL4 hL5 e4 e5 e6 p4 p5 q4 q5
      obtain ⟨g4, c4, n4, rfl, HN4, HG4, hc4, hc4', HC4⟩ := HB4'.out.at' (by rw [List.length_append, List.length_singleton]; omega)
      obtain ⟨g5, c5, n5, rfl, HN5, HG5, hc5, hc5', HC5⟩ := HB5.out.at' (by rw [List.length_append]; have := HLL.out.2.2.2.1; omega)
      have HN4' : Hid (n4 = L4.length + 1) := by rw [HN4.out, List.length_append, List.length_singleton]; rfl
      have HN5' : Hid (n5 = 8 + L5.length) := by rw [HN5.out, List.length_append]; rfl
      clear HN4 HN5
      have m4 : (9 : Int) ≤ n4 := by have := HN4'.out; have := HLL.out.2.2.1; omega
      have m5 : (9 : Int) ≤ n5 := by have := HN5'.out; have := HLL.out.2.2.2.1; omega
      have hsl8 := slice22_to w8 g4 n4 c4 8 8 rfl (by omega) (by omega) (by omega)
      have hcv8 := conv_head (w := w8) (g := g4) (c := c4) (ents E k ++ [10]) (by have := HC4.out; rw [HLL.out.1] at this; simpa using this)
      have hto4 : ((n4 : Int) - 1).toNat = L4.length := by have := HN4'.out; omega
      have hce4 : w8.cell? ⟨g4, L4.length, none⟩ = some (.int .u8 10) := by
        have := HC4.out L4.length (.int .u8 10) (by rw [Lib.byteCells_append, List.getElem?_append_right (by rw [Lib.byteCells_length]; omega), Lib.byteCells_length, Nat.sub_self]; rfl)
        rw [Nat.zero_add] at this; exact this
      have hsl22 := slice22_to w8 g4 n4 c4 L4.length ((n4 : Int) - 1) (by have := HN4'.out; omega) (by have := HN4'.out; omega) (by omega) (by omega)
      have HBS : Hid (BufS w1.heap.size w8.heap.size wr.heap.size w8 v1 l w8) :=
        ⟨(HB1.out.after HL8.out).since, fun g hg => .inl (HB1.out.own.lt g hg).2, Nat.le_refl _, fun _ _ _ => rfl⟩
      go_wp2_with (at_builtin; refine wpList_sep_slice rfl _ _ rfl rfl HBS.out L4 ⟨g4, 0, none⟩ c4 rfl (cells_to HC4.out) (by have := HLL.out.2.2.2.2.1; have := HZ.out.2; omega) ?_; intro v6 w9 hb6; refine Hid.out ?_)
      refine Lib.hid ?_
      have HB6 := Lib.hid hb6
      clear hb6 hsl8 hcv8 hto4 hce4 hsl22 HBS
      obtain ⟨c5', hsl23⟩ := slice22_from w9 g5 n5 c5 8 L5.length 8 rfl HN5'.out.symm (by omega) HLL.out.2.2.2.1
      have HX5 : Hid (∀ j u, (Lib.byteCells L5)[j]? = some u → w9.cell? ((⟨g5, 8, none⟩ : Addr).add j) = some u) :=
        cells_move (cells_from HC5.out) (HB6.out.mid g5 (Nat.le_trans HL6.out.size HG5.out.1) HG5.out.2)
      go_wp2_with (at_builtin; refine wpList_sep_slice rfl _ _ rfl rfl HB6.out L5 ⟨g5, 8, none⟩ c5' rfl HX5.out (by have := HLL.out.2.2.2.2; have := HZ.out.2; rw [List.length_append]; omega) ?_; intro v7 w10 hb7; refine Hid.out ?_)
      refine Lib.hid ?_
      have HB7 := Lib.hid hb7
      clear hb7 hsl23 HX5 HB6
      have HL10 : Hid (Below wr.heap.size wr w10) := (below_to HL1.out HL1.out.size HL8.out).trans HB7.out.buf.keeps.below
      have hcvW := HB3'.out.mid (w' := w10) (Nat.le_refl w1.heap.size) (Nat.le_refl w8.heap.size) HB7.out.buf.keeps.below.size HB7.out.mid
      have hcvV := HB7.out.buf.str
      rw [List.append_assoc] at hcvV
      by_cases hlast : k = i
      · subst hlast
        go_wp2
        go_ret
        exact ⟨rfl, HL10.out⟩
      have hki : k < i := by omega
      have kI' : (k : Int) < i := by omega
      obtain ⟨hb, ho, rfl, hblt, hcells⟩ := HS.out.cells (by omega)
      have hs3 := slice_one w10 (some ⟨hb, ho, none⟩) i cap1 k hki hnc hb ho rfl
      go_wp2_with (go_at_call 7; refine (mk_any w10 m (some ⟨hb, ho + k, none⟩) 1 (cap1 - k)).mono ?_; rintro e w11 ⟨rfl, rfl⟩; refine Hid.out ?_)
      refine Lib.hid ?_
      clear hs3 hcvW hcvV
      have HS3 : Hid (StrsIs wr (some ⟨hb, ho + k, none⟩) 1 (cap1 - k) (fun j => names (k + j))) := HS.out.from k 1 (cap1 - k) (by omega) (fun _ hb' ho' e => by cases e; rfl)
      go_wp2_with (go_at_call 8; refine (line_new HM.out HS3.out HL10.out (by omega) (by have := HZ.out.1; have := sizes_mono names (show k + 1 ≤ i by omega); rw [sizes_from]; omega) HT.out).mono ?_; rintro e w12 ⟨v8, rfl, hb8⟩; refine Hid.out ?_)
      refine Lib.hid ?_
      have HB8 : Hid (Buf w10.heap.size w10 v8 (headB ++ [32] ++ (names k).data.toList ++ [58] ++ Lib.itoa (bal (names k)) ++ [10]) w12) := by
        have e : lineOf (fun j => entry (names (k + j)) (bal (names (k + j)))) 1 = headB ++ [32] ++ (names k).data.toList ++ [58] ++ Lib.itoa (bal (names k)) ++ [10] := by
          simp [lineOf, ents, entry]
        rw [← e]; exact hb8
      clear hb8
      have HL12 : Hid (Below wr.heap.size wr w12) := below_to HL10.out HL10.out.size HB8.out.keeps.below
      have g1 : w12.cell? ⟨hb, ho + k, none⟩ = some (.string (names k)) := by rw [HL12.out.cell (p := ⟨hb, ho + k, none⟩) hblt]; exact hcells k hki
      clear hcells
      have hnk : (names k).size ≤ 1048576 := by
        have := sizes_mono names (show k + 1 ≤ i by omega)
        have := HZ.out.1
        simp only [sizes] at *
        omega
      have hcc := Lib.run_convert_bytes_const (P := Tryd.prog) w12 22 5 #[.int .u8 66, .int .u8 65, .int .u8 76, .int .u8 65, .int .u8 78, .int .u8 67, .int .u8 69, .int .u8 83, .int .u8 32] 9 9 Tryd.underlying22 Tryd.underlying5
      have HX := Lib.hid (ex_const w12)
      go_wp2_with (at_builtin; refine wpList_ex_text rfl _ _ rfl rfl HX.out (names k) rfl (by have h9 : (headB ++ [32]).length = 9 := rfl; omega) ?_; intro v9 w13 hb9; refine Hid.out ?_)
      refine Lib.hid ?_
      have HX9 := Lib.hid hb9
      clear hb9 hcc HX
      have hdl9 : (headB ++ [32] ++ (names k).data.toList).length = 9 + (names k).size := by rw [List.length_append]; rfl
      have HD9 := Lib.hid hdl9
      clear hdl9
      go_wp2_with (at_builtin; refine wpList_ex_byte rfl _ _ rfl rfl 58 58 rfl HX9.out rfl rfl (by have := HD9.out; omega) ?_; intro v10 w14 hb10; refine Hid.out ?_)
      refine Lib.hid ?_
      have HB10 := Lib.hid hb10
      clear hb10 HX9
      have HL14 : Hid (Below wr.heap.size wr w14) := below_to HL12.out HL12.out.size HB10.out.keeps.below
      have g2 := HM.out.look w14 HL14.out (names k) (by unfold maxLen; omega)
      have hr := HM.out.rng (names k)
      go_wp2_with (go_at_call 9; refine (itoa_any w14 (bal (names k)) hr.1 hr.2).mono ?_; rintro e w15 ⟨v11, rfl, hb11⟩; refine Hid.out ?_)
      refine Lib.hid ?_
      have HB10' : Hid (Buf w12.heap.size w12 v10 (headB ++ [32] ++ (names k).data.toList ++ [58]) w15) := HB10.out.after hb11.keeps.below
      obtain ⟨gi, ci, hvi, -, -, -, -, hci⟩ := hb11.at (itoa_pos _)
      subst hvi
      have HCI : Hid (∀ j u, (Lib.byteCells (Lib.itoa (bal (names k))))[j]? = some u → w15.cell? ((⟨gi, 0, none⟩ : Addr).add j) = some u) := fun j u hj => by rw [WideShapes.add_plain]; exact hci j u hj
      have hil := Lib.itoa_length_le (bal (names k)) hr.1 hr.2
      clear hci hb11 HB10
      go_wp2_with (at_builtin; refine wpList_buf_slice rfl _ _ rfl rfl HB10'.out (Lib.itoa (bal (names k))) ⟨gi, 0, none⟩ ci rfl HCI.out (by have := HD9.out; rw [List.length_append, List.length_singleton]; omega) ?_; intro v12 w16 hb12 hg12; refine Hid.out ?_)
      refine Lib.hid ?_
      have HB12 := Lib.hid hb12
      clear hb12 hg12
      go_wp2_with (at_builtin; refine wpList_buf_nilslice rfl _ _ rfl rfl 10 10 rfl HB12.out rfl rfl (by have := HD9.out; rw [List.length_append, List.length_append, List.length_singleton]; omega) ?_; intro v13 w17 hb13; refine Hid.out ?_)
      refine Lib.hid ?_
      have HL17 : Hid (Below wr.heap.size wr w17) := below_to HL12.out HL12.out.size hb13.keeps.below
      have hcv1 := (HB8.out.after hb13.keeps.below).str
      have hcv2 := hb13.str
      clear hb13 HB12
      go_wp2
      go_ret
      exact ⟨rfl, HL17.out⟩
end Go.Proofs.Qxb6619248aDoor
