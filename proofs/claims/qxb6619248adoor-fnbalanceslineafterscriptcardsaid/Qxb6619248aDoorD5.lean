import Derived.Test.Qxb6619248aDoorD4
namespace Go.Proofs.Qxb6619248aDoor
open Go.RowKit

structure MapIs (w : World) (m : Option Nat) (cnt : Nat) (bal : ByteArray → Int) : Prop where
  len : ∀ ty, (Builtin.len_ #[24] ty #[.map m]).run Tryd.prog w = .ok (.int .i64 cnt) w
  look : ∀ wx, Below w.heap.size w wx → ∀ x : ByteArray, x.size ≤ maxLen → (Instr.lookup 24 (.map m) (.string x) false).run Tryd.prog wx = .ok (.int .i64 (bal x)) wx
  rng : ∀ x, -9223372036854775808 ≤ bal x ∧ bal x ≤ 9223372036854775807
structure StrsIs (w : World) (a : Option Addr) (n cap : Nat) (names : Nat → ByteArray) : Prop where
  cells : 0 < n → ∃ hb ho, a = some ⟨hb, ho, none⟩ ∧ hb < w.heap.size ∧ ∀ k, k < n → w.cell? ⟨hb, ho + k, none⟩ = some (.string (names k))
  sz : ∀ k, k < n → (names k).size ≤ 140737488355328

theorem below_to {B : Nat} {w w1 w2 : World} (h : Below w.heap.size w w1) (hB : w.heap.size ≤ B) (k : Below B w1 w2) : Below w.heap.size w w2 := h.trans (k.mono hB)

/-- the table of powers, seen from a later world -/
theorem tab_on {w w1 : World} {B : Nat} (ht : Lib.TabBelow Tryd.prog w.heap.size w "internal/strconv.uint64pow10" .u64 Lib.pow10Tab) (h : Below w.heap.size w w1) (hB : w.heap.size ≤ B) :
    Lib.TabBelow Tryd.prog B w1 "internal/strconv.uint64pow10" .u64 Lib.pow10Tab := fun w2 h2 => ht w2 (below_to h hB h2)

/-- a ledger that was just made of what came in -/
theorem reads_mk {w wA : World} {m : Option Nat} {cnt : Nat} {bal : ByteArray → Int} {b : Option Addr} {n cap : Nat} {names : Nat → ByteArray} {B : Nat}
    (hm : MapIs w m cnt bal) (hs : StrsIs w b n cap names) (hA : Below w.heap.size w wA) (hB : w.heap.size ≤ B) :
    Reads B (wA.alloc (.cells #[.map m, .slice b n cap] 46)) wA.heap.size m b n cap names (fun k => bal (names k)) := by
  have hnew : (wA.alloc (.cells #[.map m, .slice b n cap] 46)).heap[wA.heap.size]? = some (.cells #[.map m, .slice b n cap] 46 (0, 0)) := Go.Deep.blk_alloc_new _ _
  have hbox : ∀ wx, Keeps B (wA.alloc (.cells #[.map m, .slice b n cap] 46)) wx → wx.heap[wA.heap.size]? = some (.cells #[.map m, .slice b n cap] 46 (0, 0)) := fun wx hk => hk.others _ _ hnew (by simp) (by intro c fz; simp)
  have hbel : ∀ wx, Keeps B (wA.alloc (.cells #[.map m, .slice b n cap] 46)) wx → Below w.heap.size w wx := fun wx hk => below_to (hA.alloc hA.size _) hB hk.below
  refine ⟨fun wx hk => ?_, fun wx hk => ?_, fun h0 => ?_, fun wx hk k hkn => ?_, fun k _ => hm.rng _⟩
  · simp [World.cell?, hbox wx hk]
  · simp [World.cell?, hbox wx hk]
  · obtain ⟨hb, ho, rfl, hlt, hc⟩ := hs.cells h0
    exact ⟨hb, ho, rfl, fun wx hk k hkn => by rw [(hbel wx hk).cell (p := ⟨hb, ho + k, none⟩) hlt]; exact hc k hkn⟩
  · exact hm.look wx (hbel wx hk) _ (by have := hs.sz k hkn; unfold maxLen; omega)

/-! the three slices of held -/
theorem Tryd.elem23 : Tryd.prog.elem 23 = 9 := by kernel_rfl
theorem Tryd.und23 : Tryd.prog.underlying 23 = some (.slice (Tryd.prog.elem 23)) := by kernel_rfl
theorem Tryd.elem22 : Tryd.prog.elem 22 = 5 := by kernel_rfl
theorem Tryd.und22 : Tryd.prog.underlying 22 = some (.slice (Tryd.prog.elem 22)) := by kernel_rfl
theorem slice_to (wx : World) (a : Option Addr) (n cap k : Nat) (hk : k ≤ n) (hn : n ≤ cap) :
    (Instr.slice 23 (.slice a n cap) none (some (.int .i64 (k : Int))) none).run Tryd.prog wx = .ok (.slice a k cap) wx := by
  rw [run_slice_h (P := Tryd.prog) wx 23 a n cap Tryd.und23 .i64 _ (by omega) (by omega), Tryd.elem23, Tryd.sizeOf9]
  simp only [Result.andThen, sliced, Int.toNat_natCast, Nat.sub_zero, Nat.zero_mul]
  congr 2
  split
  · rfl
  · cases a <;> simp [Addr.add]
theorem slice_from (wx : World) (a : Option Addr) (n cap k : Nat) (hk : k ≤ n) (hn : n ≤ cap) :
    ∃ b, (Instr.slice 23 (.slice a n cap) (some (.int .i64 (k : Int))) none none).run Tryd.prog wx = .ok (.slice b (n - k) (cap - k)) wx ∧ (k < n → ∀ hb ho, a = some ⟨hb, ho, none⟩ → b = some ⟨hb, ho + k, none⟩) := by
  rw [run_slice_l (P := Tryd.prog) wx 23 a n cap Tryd.und23 .i64 _ (by omega) (by omega), Tryd.elem23, Tryd.sizeOf9]
  simp only [Result.andThen, sliced, Int.toNat_natCast]
  refine ⟨_, rfl, fun hlt hb ho e => ?_⟩
  rw [if_neg (by omega), e]
  simp [Addr.add]
theorem slice_one (wx : World) (a : Option Addr) (n cap k : Nat) (hk : k < n) (hn : n ≤ cap) (hb ho : Nat) (e : a = some ⟨hb, ho, none⟩) :
    (Instr.slice 23 (.slice a n cap) (some (.int .i64 (k : Int))) (some (.int .i64 ((k : Int) + 1))) none).run Tryd.prog wx = .ok (.slice (some ⟨hb, ho + k, none⟩) 1 (cap - k)) wx := by
  rw [run_slice_lh (P := Tryd.prog) wx 23 a n cap Tryd.und23 .i64 .i64 _ _ (by omega) (by omega) (by omega), Tryd.elem23, Tryd.sizeOf9]
  have e1 : ((k : Int) + 1).toNat = k + 1 := by omega
  simp only [Result.andThen, sliced, Int.toNat_natCast, e1]
  rw [if_neg (by omega), e, show k + 1 - k = 1 by omega]
  simp [Addr.add]
theorem StrsIs.to {w : World} {a : Option Addr} {n cap : Nat} {names : Nat → ByteArray} (h : StrsIs w a n cap names) (k : Nat) (hk : k ≤ n) : StrsIs w a k cap names :=
  ⟨fun h0 => by
    obtain ⟨hb, ho, e, hlt, hc⟩ := h.cells (by omega)
    exact ⟨hb, ho, e, hlt, fun j hj => hc j (by omega)⟩, fun j hj => h.sz j (by omega)⟩
theorem StrsIs.from {w : World} {a b : Option Addr} {n cap : Nat} {names : Nat → ByteArray} (h : StrsIs w a n cap names) (k m c : Nat) (hk : k + m ≤ n) (e : 0 < m → ∀ hb ho, a = some ⟨hb, ho, none⟩ → b = some ⟨hb, ho + k, none⟩) : StrsIs w b m c (fun i => names (k + i)) :=
  ⟨fun h0 => by
    obtain ⟨hb, ho, ea, hlt, hc⟩ := h.cells (by omega)
    exact ⟨hb, ho + k, e h0 hb ho ea, hlt, fun j hj => by rw [Nat.add_assoc]; exact hc (k + j) (by omega)⟩, fun j hj => h.sz (k + j) (by omega)⟩

/-! the sizes -/
def sizes (names : Nat → ByteArray) : Nat → Nat
  | 0 => 0
  | n + 1 => sizes names n + (names n).size
theorem sizes_mono (names : Nat → ByteArray) {a b : Nat} (h : a ≤ b) : sizes names a ≤ sizes names b := by
  induction h with
  | refl => exact Nat.le_refl _
  | step h ih => simp only [sizes]; omega
theorem sizes_from (names : Nat → ByteArray) (k m : Nat) : sizes (fun i => names (k + i)) m = sizes names (k + m) - sizes names k := by
  induction m with
  | zero => simp [sizes]
  | succ m ih =>
    have := sizes_mono names (show k ≤ k + m by omega)
    rw [← Nat.add_assoc]
    simp only [sizes, ih]
    omega
theorem entry_len (x : ByteArray) (v : Int) (h0 : -9223372036854775808 ≤ v) (h1 : v ≤ 9223372036854775807) : (entry x v).length ≤ x.size + 23 := by
  have := Lib.itoa_length_le v h0 h1
  have e : x.data.toList.length = x.size := rfl
  simp only [entry, List.length_append, List.length_cons]
  omega
theorem ents_len (names : Nat → ByteArray) (val : Nat → Int) (n : Nat) (h : ∀ k, k < n → -9223372036854775808 ≤ val k ∧ val k ≤ 9223372036854775807) : (ents (fun i => entry (names i) (val i)) n).length ≤ sizes names n + 23 * n := by
  induction n with
  | zero => simp [ents]
  | succ n ih =>
    have := ih (fun k hk => h k (by omega))
    have := entry_len (names n) (val n) (h n (by omega)).1 (h n (by omega)).2
    rw [ents_succ, List.length_append]
    simp only [sizes]
    omega

/-- AppendBalances of a ledger that was just made of what came in -/
theorem line_mk {w wA : World} {m : Option Nat} {cnt : Nat} {bal : ByteArray → Int} {b : Option Addr} {n cap : Nat} {names : Nat → ByteArray} {B : Nat} {v : Value} {l : List UInt8}
    (hm : MapIs w m cnt bal) (hs : StrsIs w b n cap names) (hA : Below w.heap.size w wA) (hB : w.heap.size ≤ B) (hn : (n : Int) ≤ 4096) (hsz : sizes names n ≤ 1048576) (hl : l.length ≤ 1048576)
    (ht : Lib.TabBelow Tryd.prog w.heap.size w "internal/strconv.uint64pow10" .u64 Lib.pow10Tab)
    (hb : Buf B (wA.alloc (.cells #[.map m, .slice b n cap] 46)) v l (wA.alloc (.cells #[.map m, .slice b n cap] 46))) :
    Calls Tryd.prog 8 #[.pointer (some ⟨wA.heap.size, 0, none⟩), v] (wA.alloc (.cells #[.map m, .slice b n cap] 46)) fun e w' => ∃ v', e = .returned v' ∧
      Buf B (wA.alloc (.cells #[.map m, .slice b n cap] 46)) v' (l ++ lineOf (fun i => entry (names i) (bal (names i))) n) w' :=
  line_any (reads_mk hm hs hA hB) hn hb (by omega)
    (fun k hk => by
      have := ents_len names (fun i => bal (names i)) k (fun j _ => hm.rng _)
      have := sizes_mono names hk
      omega) (tab_on ht (hA.alloc hA.size _) hB)
end Go.Proofs.Qxb6619248aDoor
