import Derived.Test.Qxb6619248aDoorD1
namespace Go.Proofs.Qxb6619248aDoor
open Go.RowKit

theorem eql_nil (w : World) (a : Option Addr) (n c n' c' : Nat) : (binOp .eql 22 (.slice a n c) (.slice none n' c')).run Tryd.prog w = .ok (.bool a.isNone) w := by
  simp only [binOp]
  simp [Op.equal, Op.maxDepth, Lib.run_equalIn_slice_nil w 9999 22 5 a n c n' c' Tryd.underlying22]

set_option maxRecDepth 100000 in
set_option maxHeartbeats 1000000 in
theorem clone_any (w : World) (a : Option Addr) (cap : Nat) (l : List UInt8) (h : IsBytes w a l) (hlen : l.length ≤ 1048576) :
    Calls Tryd.prog 6 #[.slice a l.length cap] w fun e w' => ∃ v', e = .returned v' ∧ Buf w.heap.size w v' l w' := by
  rcases h with ⟨rfl, rfl⟩ | ⟨ad, rfl, hc⟩
  · have hq := eql_nil w none 0 cap 0 0
    go_enter Tryd.func6, Tryd.ntmps6
    go_wp2
    go_ret
    exact ⟨_, rfl, Buf.nil (Keeps.refl _ _) (Nat.le_refl _)⟩
  · obtain ⟨w2, hrun, hbuf⟩ := copy_bytes w l ad cap hc hlen
    have hmk := run_make_row' (P := Tryd.prog) 22 5 (.int .u8 0) 1 Tryd.underlying22 Tryd.info5 rfl .i64 .i64 l.length (by omega) (by omega) w
    clear hc
    obtain ⟨n, hn⟩ : ∃ n, n = l.length := ⟨_, rfl⟩
    have HB : Hid (Buf w.heap.size w (.slice (some ⟨w.heap.size, 0, none⟩) n n) l w2) := by rw [hn]; exact hbuf
    clear hbuf
    rw [← hn] at hrun hmk ⊢
    have hnl : n ≤ 1048576 := by omega
    clear hn
    have hq := eql_nil w (some ad) n cap 0 0
    go_enter Tryd.func6, Tryd.ntmps6
    go_wp2
    go_ret
    exact ⟨_, rfl, HB.out⟩

set_option maxRecDepth 100000 in
set_option maxHeartbeats 1000000 in
theorem mk_any (w : World) (m : Option Nat) (a : Option Addr) (n cap : Nat) :
    Calls Tryd.prog 7 #[.map m, .slice a n cap] w fun e w' => e = .returned (.pointer (some ⟨w.heap.size, 0, none⟩)) ∧ w' = w.alloc (.cells #[.map m, .slice a n cap] 46) := by
  go_enter Tryd.func7, Tryd.ntmps7
  go_wp2
  go_ret
  exact ⟨rfl, rfl⟩

/-- what the line says of one account -/
def entry (x : ByteArray) (v : Int) : List UInt8 := 32 :: x.data.toList ++ 58 :: Lib.itoa v
def ents (E : Nat → List UInt8) (n : Nat) : List UInt8 := (List.range n).flatMap E
def headB : List UInt8 := [66, 65, 76, 65, 78, 67, 69, 83]
def lineOf (E : Nat → List UInt8) (n : Nat) : List UInt8 := headB ++ ents E n ++ [10]
theorem ents_succ (E : Nat → List UInt8) (n : Nat) : ents E (n + 1) = ents E n ++ E n := by simp [ents, List.range_succ]
theorem ents_add (E : Nat → List UInt8) (n m : Nat) : ents E (n + m) = ents E n ++ ents (fun i => E (n + i)) m := by
  induction m with
  | zero => simp [ents]
  | succ m ih => rw [← Nat.add_assoc, ents_succ, ih, ents_succ, List.append_assoc]

/-- what AppendBalances reads -/
structure Reads (B : Nat) (w : World) (p : Nat) (m : Option Nat) (base : Option Addr) (n cap : Nat) (names : Nat → ByteArray) (val : Nat → Int) : Prop where
  box0 : ∀ wx, Keeps B w wx → wx.cell? ⟨p, 0, none⟩ = some (.map m)
  box1 : ∀ wx, Keeps B w wx → wx.cell? ⟨p, 1, none⟩ = some (.slice base n cap)
  held : 0 < n → ∃ hb ho, base = some ⟨hb, ho, none⟩ ∧ ∀ wx, Keeps B w wx → ∀ k, k < n → wx.cell? ⟨hb, ho + k, none⟩ = some (.string (names k))
  look : ∀ wx, Keeps B w wx → ∀ k, k < n → (Instr.lookup 24 (.map m) (.string (names k)) false).run Tryd.prog wx = .ok (.int .i64 (val k)) wx
  v0 : ∀ k, k < n → -9223372036854775808 ≤ val k ∧ val k ≤ 9223372036854775807

set_option maxRecDepth 100000 in
set_option maxHeartbeats 2000000 in
theorem line_any {B : Nat} {w : World} {p : Nat} {m : Option Nat} {base : Option Addr} {n cap : Nat} {names : Nat → ByteArray} {val : Nat → Int} {v : Value} {l : List UInt8}
    (hR : Reads B w p m base n cap names val) (hn : (n : Int) ≤ 4096) (hb : Buf B w v l w) (hl : l.length ≤ 1099511627776) (he : ∀ k, k ≤ n → (ents (fun i => entry (names i) (val i)) k).length ≤ 1099511627776)
    (htab : Lib.TabBelow Tryd.prog B w "internal/strconv.uint64pow10" .u64 Lib.pow10Tab) :
    Calls Tryd.prog 8 #[.pointer (some ⟨p, 0, none⟩), v] w fun e w' => ∃ v', e = .returned v' ∧ Buf B w v' (l ++ lineOf (fun i => entry (names i) (val i)) n) w' := by
  obtain ⟨E, hE⟩ : ∃ E : Nat → List UInt8, E = fun i => entry (names i) (val i) := ⟨_, rfl⟩
  rw [← hE] at he ⊢
  have HE := Lib.hid hE
  clear hE
  go_enter Tryd.func8, Tryd.ntmps8
  go_wp2_with (at_builtin; refine wpList_buf_text rfl _ _ rfl rfl hb ⟨#[66, 65, 76, 65, 78, 67, 69, 83]⟩ rfl (show l.length + 8 ≤ _ by omega) ?_; intro v1 w1 hb1; refine Hid.out ?_)
  refine Lib.hid ?_
  have hb1' : Buf B w v1 (l ++ headB) w1 := hb1
  clear hb1
  have c0 := hR.box0 w1 hb1'.keeps
  have c1 := hR.box1 w1 hb1'.keeps
  have HB1 : Hid (Buf B w v1 (l ++ headB) w1) := hb1'
  clear hb1'
  go_wp2
  go_loopw [1, 14] (fun d i wr => ∃ k : Nat, i = .int .i64 k ∧ (k : Int) ≤ n ∧ Hid (Buf B w d (l ++ headB ++ ents E k) wr)) (fun _ i _ => n - (intOf i).toNat)
  case atStart => exact ⟨0, rfl, by omega, (by simpa [ents] using HB1.out : Buf B w v1 (l ++ headB ++ ents E 0) w1)⟩
  case round =>
    obtain ⟨k, rfl, hk, HB⟩ := hrel
    by_cases hlt : k < n
    · have b0 : (k : Int) < n := by omega
      obtain ⟨hb, ho, rfl, hcell⟩ := hR.held (by omega)
      have g1 := hcell wr HB.out.keeps k hlt
      clear hcell
      obtain ⟨L, hL⟩ : ∃ L, L = l ++ headB ++ ents E k := ⟨_, rfl⟩
      rw [← hL] at HB
      have hE1 : E k = 32 :: (names k).data.toList ++ 58 :: Lib.itoa (val k) := by rw [HE.out]; rfl
      have hfin : L ++ [32] ++ (names k).data.toList ++ [58] ++ Lib.itoa (val k) = l ++ headB ++ ents E (k + 1) := by
        rw [ents_succ, hE1, hL]; simp
      have hLl : L.length ≤ 1099511627776 + 8 + 1099511627776 := by
        have := he k (by omega)
        rw [hL, List.length_append, List.length_append]
        have h8 : headB.length = 8 := rfl
        omega
      have hnk : (names k).size ≤ 1099511627776 := by
        have := he (k + 1) (by omega)
        rw [ents_succ, hE1] at this
        simp only [List.length_append, List.length_cons] at this
        have e : (names k).data.toList.length = (names k).size := rfl
        omega
      have HF := Lib.hid hfin
      clear hfin hE1 hL
      have hdl : (names k).data.toList.length = (names k).size := rfl
      go_wp2_with (at_builtin; refine wpList_buf_nilslice rfl _ _ rfl rfl 32 32 rfl HB.out rfl rfl (by omega) ?_; intro v2 w2 hb2; refine Hid.out ?_)
      refine Lib.hid ?_
      have HB2 : Hid (Buf B w v2 (L ++ [32]) w2) := hb2
      clear hb2
      go_wp2_with (at_builtin; refine wpList_buf_text rfl _ _ rfl rfl HB2.out (names k) rfl (by simp only [List.length_append, List.length_cons, List.length_nil]; omega) ?_; intro v3 w3 hb3; refine Hid.out ?_)
      refine Lib.hid ?_
      have HB3 : Hid (Buf B w v3 (L ++ [32] ++ (names k).data.toList) w3) := hb3
      clear hb3
      go_wp2_with (at_builtin; refine wpList_buf_nilslice rfl _ _ rfl rfl 58 58 rfl HB3.out rfl rfl (by simp only [List.length_append, List.length_cons, List.length_nil]; omega) ?_; intro v4 w4 hb4; refine Hid.out ?_)
      refine Lib.hid ?_
      have HB4 : Hid (Buf B w v4 (L ++ [32] ++ (names k).data.toList ++ [58]) w4) := hb4
      clear hb4
      have g2 := hR.box0 w4 HB4.out.keeps
      have g3 := hR.look w4 HB4.out.keeps k hlt
      have hv := hR.v0 k hlt
      go_wp2_with (go_at_call 18; refine (appendInt_any HB4.out (val k) hv.1 hv.2 (by simp only [List.length_append, List.length_cons, List.length_nil]; omega) htab).mono ?_; rintro e w5 ⟨v5, rfl, hb5⟩; refine Hid.out ?_)
      refine Lib.hid ?_
      rw [HF.out] at hb5
      have HB5 : Hid (Buf B w v5 (l ++ headB ++ ents E (k + 1)) w5) := hb5
      clear hb5
      go_wp2
      go_roundw
      case rel => exact ⟨k + 1, by simp, by omega, HB5⟩
      case measure => simp [intOf]; omega
    · have e0 : k = n := by omega
      subst e0
      have hnl : (l ++ headB ++ ents E k).length + 1 ≤ 140737488355328 := by
        have := he k (by omega)
        have h8 : headB.length = 8 := rfl
        rw [List.length_append, List.length_append]
        omega
      go_wp2_with (at_builtin; refine wpList_buf_nilslice rfl _ _ rfl rfl 10 10 rfl HB.out rfl rfl hnl ?_; intro v2 w2 hb2; refine Hid.out ?_)
      refine Lib.hid ?_
      have HB2 : Hid (Buf B w v2 (l ++ lineOf E k) w2) := by
        have : l ++ lineOf E k = l ++ headB ++ ents E k ++ [10] := by simp [lineOf]
        rw [this]; exact hb2
      clear hb2
      go_wp2
      go_ret
      exact ⟨_, rfl, HB2.out⟩
end Go.Proofs.Qxb6619248aDoor
