import Derived.Test.Qxb6623375aB3
import Derived.Test.Qxb6623375aB5
import Derived.Test.Qxb6623375aB6
namespace Go.Proofs.Qxb6623375a
open Go.RowKit

set_option maxRecDepth 1000000 in
set_option maxHeartbeats 4000000 in
theorem law_any (w : World) (a0 a1 : Option Addr) (n m c0 c1 : Nat) (nm dg ac im : Nat → ByteArray) (mv : Nat → Value) (ml : Nat → Nat) (mf : Nat → Nat → ByteArray) (ru : Nat → Int) (un : Nat → Bool)
    (hT : TagsIn w a0 n nm dg mv ml mf) (hD : DecsIn w a1 m ac im ru un) (hm : (m : Int) ≤ 9223372036854775807) :
    Calls Try.prog 3 #[.slice a0 n c0, .slice a1 m c1] w fun e w' => e = .returned (.bool true) ∧ Below w.heap.size w w' := by
  have HT := Lib.hid hT
  have HD := Lib.hid hD
  have HBY := Lib.hid (bytes_any w a0 a1 n m c0 c1 nm dg ac im mv ml mf ru un hT hD hm)
  clear hT hD
  go_enter Try.func3, Try.ntmps3
  go_wp2_with (go_at_call 4; refine (HBY.out).mono ?_; intro e w1 hw; obtain ⟨hw1, he⟩ := hw; subst w1; rcases he with he | he <;> subst he <;> refine Hid.out ?_)
  · refine Lib.hid ?_
    go_wp2
    go_ret
    exact ⟨rfl, Below.refl _ _⟩
  refine Lib.hid ?_
  by_cases t0 : 256 < (n : Int)
  · go_wp2
    go_ret
    exact ⟨rfl, Below.refl _ _⟩
  by_cases t1 : 256 < (m : Int)
  · go_wp2
    go_ret
    exact ⟨rfl, Below.refl _ _⟩
  have hn : (n : Int) ≤ 256 := by omega
  clear hm
  have hm : (m : Int) ≤ 256 := by omega
  have HBG := Lib.hid (big_any w a0 a1 n m c0 c1 nm dg ac im mv ml mf ru un HT.out HD.out hn hm)
  clear HBY
  go_wp2_with (go_at_call 5; refine (HBG.out).mono ?_; intro e w1 hw; obtain ⟨hb1, he⟩ := hw; rcases he with he | ⟨he, hmod⟩ <;> subst he <;> refine Hid.out ?_)
  · refine Lib.hid ?_
    have HB1 := Lib.hid hb1
    clear hb1
    go_wp2
    go_ret
    exact ⟨rfl, HB1.out⟩
  refine Lib.hid ?_
  have HB1 := Lib.hid hb1
  have HMD := Lib.hid hmod
  clear hb1 hmod HBG t0 t1
  by_cases e0 : m = n
  case neg =>
    have e0' : ((m : Int) != (n : Int)) = true := by simp; omega
    go_wp2
    go_ret
    exact ⟨rfl, HB1.out⟩
  subst m
  have HT1 := Lib.hid (HT.out.after HB1.out)
  have mk1 := make_rows w1 25 34 (.agg #[.string ByteArray.empty, .int .u64 0, .int .i64 0, .pointer none, .string ByteArray.empty, .slice none 0 0]) 6 80 n Try.underlying25 Try.info34 (by omega) (by omega)
  simp only [Value.cells] at mk1
  go_wp2
  refine law_loop1 w1 _ n c0 a0 nm dg mv ml mf _ HT1.out hn (fun k hk => (HMD.out.tag k hk).2.2) ((Below.refl _ _).alloc (Nat.le_refl _) _) (made6 w1 n nm dg mv) ?_
  refine Lib.hid ?_
  intros
  rename_i w2 pv hb2 hr2 hc2
  have HB2 := Lib.hid hb2
  have HR2 := Lib.hid hr2
  have HC2 := Lib.hid hc2
  clear hb2 hr2 hc2 mk1
  have HBw2 := Lib.hid (HB1.out.trans (HB2.out.mono HB1.out.size))
  have HD2 := Lib.hid (HD.out.after HBw2.out)
  have mk2 := make_rows w2 35 40 (.agg #[.string ByteArray.empty, .int .i64 0, .string ByteArray.empty, .bool false]) 4 48 n Try.underlying35 Try.info40 (by omega) (by omega)
  simp only [Value.cells] at mk2
  go_wp2
  refine law_loop2 w2 _ n c1 a1 ac im ru un _ HD2.out hn ((Below.refl _ _).alloc (Nat.le_refl _) _) (made4 w2 n ac im ru un) ?_
  refine Lib.hid ?_
  intros
  rename_i w3 hb3 hr3
  have HB3 := Lib.hid hb3
  have HR3 := Lib.hid hr3
  have HPT3 : Hid (w3.rowIs w1.heap.size 34 (n * 6) (ptF nm dg pv)) := HR2.out.of_block (hb3.block _ HR2.out.lt)
  have HC3 : Hid (∀ k, k < n → Cp w3 (pv k) (ml k) (mf k)) := fun k hk => (HC2.out k hk).after hb3
  have HBw3 := Lib.hid (HBw2.out.trans (hb3.mono HBw2.out.size))
  have HSP := Lib.hid (spare_any w3 w1.heap.size w2.heap.size n nm dg ac im ru un pv ml mf ⟨HPT3.out, HR3.out, fun k hk => (HC3.out k hk).strs, HMD.out.tag, HMD.out.man, by omega⟩)
  clear hb3 hr3 mk2
  go_wp2_with (go_at_call 6; refine (HSP.out).mono ?_; intro e w4 hw; obtain ⟨he, hchg, hr4⟩ := hw; subst he; refine Hid.out ?_)
  refine Lib.hid ?_
  have hPD : w.heap.size ≤ w2.heap.size := HBw2.out.size
  have hB34 : Below w.heap.size w3 w4 := ⟨hchg.os, hchg.tape, hchg.output, hchg.size, fun k hk => hchg.block k (Nat.lt_of_lt_of_le hk HBw3.out.size) (by omega)⟩
  have HBw4 := Lib.hid (HBw3.out.trans hB34)
  have HPT4 : Hid (w4.rowIs w1.heap.size 34 (n * 6) (ptF nm dg pv)) := HPT3.out.of_block (hchg.block _ HPT3.out.lt (row_other HPT3.out HR3.out (by decide)))
  have HC4 : Hid (∀ k, k < n → Cp w4 (pv k) (ml k) (mf k)) := fun k hk => (HC3.out k hk).kept (fun b mm f hr => hchg.block _ hr.lt (row_other hr HR3.out (by decide)))
  have HR4 := Lib.hid hr4
  have HT4 := Lib.hid (HT.out.after HBw4.out)
  have HD4 := Lib.hid (HD.out.after HBw4.out)
  clear hchg hr4 hB34 HSP hPD
  go_wp2
  refine law_loop3 w4 w4 n c0 c1 w2.heap.size a0 a1 nm dg ac im mv ml mf ru un _ HT4.out HD4.out hn (fun k hk => (HMD.out.tag k hk).2.2) HR4.out (Below.refl _ _) ?_
  refine Lib.hid ?_
  intros
  rename_i w5 hb5
  have HB5 := Lib.hid hb5
  clear hb5
  go_wp2
  refine law_loop5 w5 n c0 w1.heap.size a0 nm dg mv pv ml mf _ (HT4.out.after HB5.out) (HPT4.out.of_block (HB5.out.block _ HPT4.out.lt)) (fun k hk => (HC4.out k hk).after HB5.out) hn (fun k hk => (HMD.out.tag k hk).2.2) ?_
  refine Lib.hid ?_
  intros
  rename_i q
  have HB6 : Hid (Below w.heap.size w (w5.drewN q)) := Below.drewN (HBw4.out.trans (HB5.out.mono HBw4.out.size)) q
  go_wp2
  go_ret
  exact ⟨rfl, HB6.out⟩
end Go.Proofs.Qxb6623375a
