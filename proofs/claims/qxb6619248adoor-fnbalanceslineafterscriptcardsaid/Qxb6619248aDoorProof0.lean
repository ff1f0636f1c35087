import Derived.Test.Qxb6619248aDoorD6
import Derived.Test.Qxb6619248aDoorW2
import Derived.Test.Qxb6619248aDoorTie
import Derived.Test.Qxb6619248aDoorCards
import Derived.ProofKit
import Derived.OpenShut
import Derived.SliceStrings
import Derived.SizedLaws
import Derived.LaidMore
import Derived.Stop.Joined
import Derived.Stop.LaidErr
import Derived.Lib.LaidTab
import Derived.SevenTiedAt
namespace Go.Proofs.Qxb6619248aDoor
open Go.ChangeShapes Go.WideShapes Go.ChangeAt Go.RowKit

theorem own : ownKnob Tryd.prog.godebug = none := by kernel_rfl
theorem laidOut : laidOutB Tryd.prog = true := by kernel_rfl
theorem Tryd.cells9 : Tryd.prog.cellsOf 9 = 1 := by kernel_rfl
theorem Tryd.cells5 : Tryd.prog.cellsOf 5 = 1 := by kernel_rfl
theorem gTab : Tryd.prog.globalNamed "internal/strconv.uint64pow10" = some 0 := by kernel_rfl
theorem tTab : (Tryd.prog.globals[0]?).map (·.type) = some 70 := by kernel_rfl
theorem Tryd.und70 : Tryd.prog.underlying 70 = some (.array 20 48) := by kernel_rfl
theorem Tryd.und48 : Tryd.prog.underlying 48 = some (.int .u64) := by kernel_rfl
theorem Tryd.cells48 : Tryd.prog.cellsOf 48 = 1 := by kernel_rfl
theorem Tryd.cells70 : Tryd.prog.cellsOf 70 = 20 := by kernel_rfl
abbrev laid3 : List (String × DataW Unit) := [("math/bits.deBruijn32tab", Rows.laid_math_bits_deBruijn32tab), ("math/bits.deBruijn64tab", Rows.laid_math_bits_deBruijn64tab), ("internal/strconv.uint64pow10", Rows.laid_internal_strconv_uint64pow10)]
theorem door_met (os : Os) (args : Array Value) : laidMetH Tryd.prog laid3 ((World.doorLaid Tryd.prog 400 os).forCall (fun _ _ => 0) ⟨#[], args, []⟩).memory :=
  laidMetH_of_parts3 (fuel := 8) (laidMet_of_run' 8 (by kernel_rfl) (by kernel_rfl)) (by kernel_rfl) (by kernel_rfl)
theorem tab_of_laid {W : World} (h : laidMetH Tryd.prog laid3 W) : Lib.TabBelow Tryd.prog W.heap.size W "internal/strconv.uint64pow10" .u64 Lib.pow10Tab := by
  rw [MakeChecks.laidMetH_plain _ _ _ (by kernel_rfl)] at h
  have h2 := h.tail.tail
  have e : (Rows.laid_internal_strconv_uint64pow10 : DataW Unit) = Lib.tabData .u64 Lib.pow10Tab := by kernel_rfl
  rw [e] at h2
  exact Lib.tabBelow_of_tabIs (Lib.tabIs_of_head gTab tTab Tryd.und70 Tryd.und48 Tryd.cells48 Tryd.cells70 h2)

theorem weightsAll_mem {H : Type} {P : Program} {e : TypeId} {n : Nat} : ∀ {l : List (DataW H)} {d : DataW H}, d ∈ l → n ∈ d.weights P e → n ∈ DataW.weightsAll P e l
  | d0 :: r, d, hd, hn => by
    simp only [DataW.weightsAll, List.mem_append]
    rcases List.mem_cons.1 hd with rfl | h
    · exact .inl hn
    · exact .inr (weightsAll_mem h hn)

theorem open_bytes' {H : Type} {enc : TypeId × Value → H} {W : World} {base : Nat} {held : Bool} {fuel : Nat} {a : Option Addr} {len cap : Nat} {x : DataW H × List MemPlace}
    (h : DataW.trod enc Tryd.prog W base (fun _ => true) held fuel 22 [.slice a len cap] = some x) : ∃ l, l.length = len ∧ IsBytes W a l ∧ len ≤ maxLen := by
  rcases open_ints Tryd.underlying22 Tryd.underlying5 Tryd.cells5 h with ⟨hcs, _⟩ | ⟨a', len', cap', zs, hcs, hb, hl, hm, hz, _, hcell, hws⟩
  · simp at hcs
    obtain ⟨rfl, rfl, rfl⟩ := hcs
    exact ⟨[], rfl, .inl ⟨rfl, rfl⟩, by decide⟩
  · simp at hcs
    obtain ⟨rfl, rfl, rfl⟩ := hcs
    simp only [if_true] at hz
    refine ⟨(zs.take len).map (fun z => UInt8.ofNat z.toNat), by simp; omega, .inr ⟨a', rfl, fun j u hj => ?_⟩, by omega⟩
    simp only [Lib.byteCells, List.map_map, List.getElem?_map, Option.map_eq_some_iff] at hj
    obtain ⟨z, hz', rfl⟩ := hj
    rw [List.getElem?_take] at hz'
    split at hz'
    · have hjl : j < zs.length := (List.getElem?_eq_some_iff.1 hz').1
      have hmem : z ∈ zs := List.mem_of_getElem? hz'
      have hw := hws z hmem
      have hgd : zs.getD j 0 = z := by simp [List.getD, hz']
      rw [hcell j hjl, hgd]
      have hr : 0 ≤ z ∧ z < 256 := by
        simp [Lit.wf, IntKind.min, IntKind.max, IntKind.bits, IntKind.signed] at hw
        omega
      have : (UInt8.ofNat z.toNat).toNat = z.toNat := by simp; omega
      simp only [Function.comp]
      rw [this, Int.toNat_of_nonneg hr.1]
    · cases hz'

theorem open_strs' {H : Type} {enc : TypeId × Value → H} {W : World} {base : Nat} {held : Bool} {fuel : Nat} {a : Option Addr} {len cap : Nat} {d : DataW H} {ps : List MemPlace}
    (h : DataW.trod enc Tryd.prog W base (fun _ => true) held fuel 23 [.slice a len cap] = some (d, ps)) (hw : ∀ n ∈ d.weights Tryd.prog 23, n ≤ reachBytes) : ∃ names, StrsIs W a len cap names ∧ len ≤ cap ∧ cap ≤ maxLen := by
  rcases open_strings Tryd.underlying23 Tryd.underlying9 Tryd.cells9 h with ⟨hcs, _⟩ | ⟨a', len', cap', ss, hcs, hb, hl, hm, hz, hx, hcell, hws⟩
  · simp at hcs
    obtain ⟨rfl, rfl, rfl⟩ := hcs
    exact ⟨fun _ => ByteArray.empty, ⟨fun h => absurd h (by omega), fun k hk => absurd hk (by omega)⟩, Nat.le_refl _, by decide⟩
  · simp at hcs
    obtain ⟨rfl, rfl, rfl⟩ := hcs
    simp only [if_true] at hz
    simp only [Prod.mk.injEq] at hx
    refine ⟨fun k => ss.getD k ByteArray.empty, ⟨fun h0 => ?_, fun k hk => ?_⟩, hl, hm⟩
    · obtain ⟨b, o, spot⟩ := a'
      have hspot : spot = none := by simpa [Addr.add] using World.cell?_spot (hcell 0 (by omega))
      subst hspot
      refine ⟨b, o, rfl, ?_, fun k hk => ?_⟩
      · have := World.block_lt_of_cell? W _ (hcell 0 (by omega)); simpa [Addr.add] using this
      · rw [← add_plain]; exact hcell k (by omega)
    · have hk' : k < ss.length := by omega
      have hmem : (DataW.lit (.string (ss.getD k ByteArray.empty).data.toList) : DataW H) ∈ strs (ss.take len) := by
        unfold strs
        refine List.mem_map.2 ⟨ss.getD k ByteArray.empty, ?_, rfl⟩
        rw [List.mem_take_iff_getElem]
        exact ⟨k, by omega, by simp [hk']⟩
      have := hw (ss.getD k ByteArray.empty).data.toList.length (by
        rw [hx.1]
        simp only [DataW.weights, Tryd.underlying23]
        exact List.mem_cons_of_mem _ (List.mem_append_left _ (weightsAll_mem hmem (by simp [DataW.weights]))))
      have h47 := reachBytes_lt
      have e : (ss.getD k ByteArray.empty).data.toList.length = (ss.getD k ByteArray.empty).size := rfl
      omega

/-- the map that came in -/
theorem open_map' {H : Type} {enc : TypeId × Value → H} {W : World} {base : Nat} {held : Bool} {fuel : Nat} {m : Option Nat} {x : DataW H × List MemPlace}
    (h : DataW.trod enc Tryd.prog W base (fun _ => true) held fuel 24 [.map m] = some x) : ∃ cnt bal, MapIs W m cnt bal := by
  rcases Go.WideElems.open_map Tryd.underlying24 h with ⟨hcs, _⟩ | ⟨bm, es, clock, m', rfl, hcs, hb, _, F, _⟩
  · obtain rfl : m = none := by simpa using hcs
    exact ⟨0, fun _ => 0, fun ty => Maps.len_nil Tryd.underlying24 ty, fun wx _ y hy => by have := Maps.look_nil (w := wx) false law Tryd.underlying24 (zero2 wx) (keyOf_nm hy); simpa using this, fun _ => by omega⟩
  · obtain rfl : m = some bm := by simpa using hcs
    have hown := World.ownsMap_of_fit (R := plainElem Tryd.prog 2) hb F (fun x _ z hz => elemAt_plainElem_int Tryd.underlying2 hz)
    generalize (DataW.map ((es.toList.map (WideElems.rg Tryd.prog 9 (WideElems.elemAt enc Tryd.prog W base (fun _ => true) held m' 2))).foldr DataW.insert [])) = D at hown
    have hlt : bm < W.heap.size := (Array.getElem?_eq_some_iff.1 hb).1
    have hall : ∀ wx, Below W.heap.size W wx → ∀ y : ByteArray, y.size ≤ maxLen → ∃ c, (Instr.lookup 24 (.map (some bm)) (.string y) false).run Tryd.prog wx = .ok (.int .i64 c) wx ∧ D.atKey (key y) (.lit (.int .i64 0)) = .lit (.int .i64 c) ∧ (Lit.int .i64 c).wf = true := by
      intro wx hbel y hy
      have hownx : wx.ownsMap Tryd.prog 9 (plainElem Tryd.prog 2) bm es.size D := by
        obtain ⟨es', clock', hb', rest⟩ := hown
        exact ⟨es', clock', (hbel.block bm hlt).trans hb', rest⟩
      exact hownx.lookup_int law Tryd.underlying24 Tryd.underlying2 (zero2 wx) (keyOf_nm hy)
    refine ⟨Maps.size D, fun y => if y.size ≤ maxLen then (match D.atKey (key y) (.lit (.int .i64 0)) with | .lit (.int _ c) => c | _ => 0) else 0, fun ty => hown.len Tryd.underlying24 ty, fun wx hbel y hy => ?_, fun y => ?_⟩
    · obtain ⟨c, hr, ha, _⟩ := hall wx hbel y hy
      simp only [if_pos hy, ha]
      exact hr
    · by_cases hy : y.size ≤ maxLen
      · obtain ⟨c, _, ha, hw⟩ := hall W (Below.refl _ _) y hy
        simp only [if_pos hy, ha]
        simp [Lit.wf, IntKind.min, IntKind.max, IntKind.bits, IntKind.signed] at hw
        omega
      · simp only [if_neg hy]; omega
end Go.Proofs.Qxb6619248aDoor
