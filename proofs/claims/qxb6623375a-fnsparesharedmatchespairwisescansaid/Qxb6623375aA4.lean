import Derived.Test.Qxb6623375aA3
import Derived.Maps.OwnSet
import Derived.Maps.StringElems
import Derived.Sort.Walk0
import Derived.Laws.Strings
namespace Go.Proofs.Qxb6623375a
open Go.RowKit
open Go.Maps

/-- all but the blocks of T are as they were -/
structure Chg (T : Nat → Prop) (w w' : World) : Prop where
  os : w'.os = w.os
  tape : w'.tape = w.tape
  output : w'.output = w.output
  size : w.heap.size ≤ w'.heap.size
  block : ∀ k, k < w.heap.size → ¬ T k → w'.heap[k]? = w.heap[k]?
theorem Chg.refl (T : Nat → Prop) (w : World) : Chg T w w := ⟨rfl, rfl, rfl, Nat.le_refl _, fun _ _ _ => rfl⟩
theorem Chg.trans {T : Nat → Prop} {a b c : World} (h : Chg T a b) (k : Chg T b c) : Chg T a c :=
  ⟨k.os.trans h.os, k.tape.trans h.tape, k.output.trans h.output, Nat.le_trans h.size k.size, fun i hi hn => (k.block i (Nat.lt_of_lt_of_le hi h.size) hn).trans (h.block i hi hn)⟩
theorem Chg.setCell {T : Nat → Prop} {a b : World} (h : Chg T a b) (p : Addr) (hp : T p.block) (v : Value) : Chg T a (b.setCell p v) := by
  refine ⟨h.os, h.tape, h.output, by simpa [World.setCell] using h.size, fun k hk hT => ?_⟩
  rw [← h.block k hk hT]
  exact Below.heap_setCell _ _ _ _ (fun e => hT (by rw [e]; exact hp))
theorem Below.chg {T : Nat → Prop} {w a b : World} (h : Chg T w a) (k : Below w.heap.size a b) : Chg T w b :=
  ⟨k.os.trans h.os, k.tape.trans h.tape, k.output.trans h.output, Nat.le_trans h.size k.size, fun i hi hn => (k.block i hi).trans (h.block i hi hn)⟩

theorem law : Keyed Try.prog 9 := string_keyed Try.underlying9
theorem zero9 (w : World) : (zeroValue 9).run Try.prog w = .ok (.string ByteArray.empty) w := by kernel_rfl
def key (x : ByteArray) : Lit := .string x.data.toList
theorem key_inj {x y : ByteArray} (h : key x = key y) : x = y := by
  unfold key at h; injection h with h; exact WideShapes.bytes_inj h
theorem key_lit (x : ByteArray) : WideAt.IsKeyLit (key x) := trivial
theorem keyOf_nm {x : ByteArray} (h : x.size ≤ maxLen) : keyOf Try.prog 9 (.string x) = some (key x) := Go.WideMaps.keyOf_string_mk Try.underlying9 h

/-- the map reads as V -/
structure RelD (D : DataW Unit) (V : ByteArray → Option ByteArray) : Prop where
  tidy : Tidy D
  has : ∀ x, Maps.has D (key x) = (V x).isSome
  at' : ∀ x y, V x = some y → ∀ z, D.atKey (key x) z = .lit (.string y.data.toList)

/-- V turned at one key -/
def updV (V : ByteArray → Option ByteArray) (x y : ByteArray) : ByteArray → Option ByteArray := fun u => if x.toList == u.toList then some y else V u
theorem updV_same (V : ByteArray → Option ByteArray) (x y : ByteArray) : updV V x y x = some y := by simp [updV]
theorem updV_other (V : ByteArray → Option ByteArray) {x u : ByteArray} (y : ByteArray) (h : x ≠ u) : updV V x y u = V u := by simp [updV, beq_false h]

def MapIs (w : World) (bm n : Nat) (V : ByteArray → Option ByteArray) : Prop := ∃ D, w.ownsMap Try.prog 9 (plainElem (H := Unit) Try.prog 9) bm n D ∧ RelD D V
theorem mapIs_made (w : World) : MapIs (w.alloc (.map #[] 0)) w.heap.size 0 (fun _ => none) :=
  ⟨.map [], World.ownsMap_made w Try.prog 9 _, tidy_empty, fun x => by simp [Maps.has], fun x y h => by cases h⟩
theorem MapIs.lt {w : World} {bm n : Nat} {V : ByteArray → Option ByteArray} (h : MapIs w bm n V) : bm < w.heap.size := by
  obtain ⟨D, h, _⟩ := h; exact h.lt
theorem MapIs.mono {w : World} {bm n n' : Nat} {V : ByteArray → Option ByteArray} (h : MapIs w bm n V) (hn : n ≤ n') : MapIs w bm n' V := by
  obtain ⟨D, h, r⟩ := h; exact ⟨D, h.mono hn, r⟩
theorem MapIs.congr {w : World} {bm n : Nat} {V V' : ByteArray → Option ByteArray} (h : MapIs w bm n V) (e : ∀ x, V x = V' x) : MapIs w bm n V' := by
  have : V = V' := funext e
  rw [← this]; exact h
theorem MapIs.kept {w w' : World} {bm n : Nat} {V : ByteArray → Option ByteArray} (h : MapIs w bm n V) (hb : w'.heap[bm]? = w.heap[bm]?) : MapIs w' bm n V := by
  obtain ⟨D, ⟨es, clock, hes, hrest⟩, r⟩ := h
  exact ⟨D, ⟨es, clock, by rw [hb]; exact hes, hrest⟩, r⟩
theorem MapIs.not_row {w : World} {bm n : Nat} {V : ByteArray → Option ByteArray} (h : MapIs w bm n V) {b t k : Nat} {f : Nat → Value} (hr : w.rowIs b t k f) : b ≠ bm := by
  intro e; subst e
  obtain ⟨D, ⟨es, clock, hes, hrest⟩, r⟩ := h
  obtain ⟨c, hc, _⟩ := hr
  rw [hes] at hc; cases hc
theorem look_none {w : World} {bm n : Nat} {V : ByteArray → Option ByteArray} (h : MapIs w bm n V) (x : ByteArray) (hx : x.size ≤ maxLen) (hV : V x = none) :
    ∃ v, (Instr.lookup 43 (.map (some bm)) (.string x) true).run Try.prog w = .ok (.tuple #[v, .bool false]) w := by
  obtain ⟨D, h, r⟩ := h
  obtain ⟨v, ps, hrun, _⟩ := h.look_ok law Try.underlying43 (zero9 w) (plainElem_string Try.underlying9 (by decide)) (keyOf_nm hx)
  rw [r.has, hV] at hrun
  exact ⟨v, hrun⟩
theorem look_some {w : World} {bm n : Nat} {V : ByteArray → Option ByteArray} (h : MapIs w bm n V) (x y : ByteArray) (hx : x.size ≤ maxLen) (hV : V x = some y) :
    (Instr.lookup 43 (.map (some bm)) (.string x) true).run Try.prog w = .ok (.tuple #[.string y, .bool true]) w := by
  obtain ⟨D, h, r⟩ := h
  obtain ⟨v, ps, hrun, hv⟩ := h.look_ok law Try.underlying43 (zero9 w) (plainElem_string Try.underlying9 (by decide)) (keyOf_nm hx)
  rw [r.has, hV] at hrun
  rw [r.at' x y hV] at hv
  obtain ⟨s, rfl, e, _⟩ := plainElem_string_inv Try.underlying9 hv
  have : y = s := by
    have e1 : DataW.lit (H := Unit) (.string y.data.toList) = .lit (.string s.data.toList) := congrArg Prod.fst e
    injection e1 with e1
    injection e1 with e1
    exact WideShapes.bytes_inj e1
  rw [this]; exact hrun
theorem store_map {w : World} {bm n : Nat} {V : ByteArray → Option ByteArray} (h : MapIs w bm n V) (x y : ByteArray) (hx : x.size ≤ maxLen) (hy : y.size ≤ maxLen) (hn : n < maxLen) :
    ∃ w', (Instr.mapUpdate 43 (.map (some bm)) (.string x) (.string y)).run Try.prog w = .ok () w' ∧ w.grownBy w' (some bm) ∧ MapIs w' bm (n + 1) (updV V x y) := by
  obtain ⟨D, h, r⟩ := h
  obtain ⟨w', hrun, hown', hturn⟩ := h.store law Try.underlying43 hn (keyOf_nm hx) (plainElem_string Try.underlying9 hy)
  refine ⟨w', hrun, hturn.grown, _, hown', r.tidy.put (key_lit x) _, fun u => ?_, fun u z hu q => ?_⟩
  · by_cases e : x = u
    · subst e; rw [updV_same, has_put_same r.tidy.isMap (key_lit x)]; rfl
    · rw [updV_other _ _ e, has_put_other (fun hc => e (key_inj hc).symm)]; exact r.has u
  · by_cases e : x = u
    · subst e; rw [updV_same] at hu; cases hu; rw [atKey_put_same r.tidy.isMap (key_lit x)]
    · rw [updV_other _ _ e] at hu
      rw [atKey_put_other (fun hc => e (key_inj hc).symm)]; exact r.at' u z hu q

/-! ### the least name -/
def less (a b : ByteArray) : Bool := Op.bytesLess a.toList b.toList
theorem less_irrefl (a : ByteArray) : less a a = false := by
  unfold less; rw [bytesLess_eq]; simp [List.lt_irrefl]
def up1 (o : Option ByteArray) (a : ByteArray) : Option ByteArray := match o with
  | none => some a
  | some b => if less a b then some a else some b
def keepS : ByteArray := { data := #[107, 101, 101, 112] }
def delS : ByteArray := { data := #[100, 101, 108, 101, 116, 101] }
def spareS : ByteArray := { data := #[115, 112, 97, 114, 101] }
/-- the least name among the kept tags below i that need x -/
def bst (nm dg ac : Nat → ByteArray) (ml : Nat → Nat) (mf : Nat → Nat → ByteArray) : Nat → ByteArray → Option ByteArray
  | 0, _ => none
  | i + 1, x => if (ac i).toList == keepS.toList && needs (dg i) (ml i) (mf i) x then up1 (bst nm dg ac ml mf i x) (nm i) else bst nm dg ac ml mf i x
/-- the digests of a tag: its own, then its index's -/
def dgl (d : ByteArray) (f : Nat → ByteArray) : Nat → ByteArray
  | 0 => d
  | k + 1 => f k
/-- the map when k of the tag's digests are done -/
def mid (V : ByteArray → Option ByteArray) (a d : ByteArray) (f : Nat → ByteArray) (k : Nat) (x : ByteArray) : Option ByteArray := if (List.range k).any (fun j => (dgl d f j).toList == x.toList) then up1 (V x) a else V x
theorem mid_zero (V : ByteArray → Option ByteArray) (a d : ByteArray) (f : Nat → ByteArray) (x : ByteArray) : mid V a d f 0 x = V x := by simp [mid]
theorem up1_less (o : Option ByteArray) (a b : ByteArray) (h : up1 o a = some b) : less a b = false := by
  cases o with
  | none => simp [up1] at h; rw [h]; exact less_irrefl _
  | some c =>
    simp only [up1] at h
    by_cases hc : less a c = true
    · rw [if_pos hc] at h; cases h; exact less_irrefl _
    · rw [if_neg hc] at h; cases h; simpa using hc
theorem any_succ (g : Nat → Bool) (k : Nat) : (List.range (k + 1)).any g = ((List.range k).any g || g k) := by simp [List.range_succ]
/-- the digest is not there, or the name is less: it is laid -/
theorem mid_put {V : ByteArray → Option ByteArray} {a d : ByteArray} {f : Nat → ByteArray} {k : Nat} (h : mid V a d f k (dgl d f k) = none ∨ ∃ b, mid V a d f k (dgl d f k) = some b ∧ less a b = true) (x : ByteArray) :
    updV (mid V a d f k) (dgl d f k) a x = mid V a d f (k + 1) x := by
  by_cases e : dgl d f k = x
  · subst e
    rw [updV_same]
    have hno : (List.range k).any (fun j => (dgl d f j).toList == (dgl d f k).toList) = false := by
      rw [Bool.eq_false_iff]
      intro hc
      have e1 : mid V a d f k (dgl d f k) = up1 (V (dgl d f k)) a := by unfold mid; rw [if_pos hc]
      rcases h with h | ⟨b, h, hl⟩
      · rw [e1] at h
        cases hV : V (dgl d f k) with
        | none => rw [hV] at h; cases h
        | some c => rw [hV] at h; simp only [up1] at h; split at h <;> cases h
      · rw [e1] at h
        rw [up1_less _ _ _ h] at hl; cases hl
    have e2 : mid V a d f k (dgl d f k) = V (dgl d f k) := by unfold mid; rw [hno]; rfl
    have e3 : mid V a d f (k + 1) (dgl d f k) = up1 (V (dgl d f k)) a := by
      unfold mid; rw [any_succ]; simp
    rw [e3]
    rw [e2] at h
    rcases h with h | ⟨b, h, hl⟩
    · rw [h]; rfl
    · rw [h]; simp [up1, hl]
  · rw [updV_other _ _ e]
    unfold mid
    rw [any_succ, beq_false e, Bool.or_false]
theorem mid_stay {V : ByteArray → Option ByteArray} {a d : ByteArray} {f : Nat → ByteArray} {k : Nat} {b : ByteArray} (h : mid V a d f k (dgl d f k) = some b) (hl : less a b = false) (x : ByteArray) :
    mid V a d f k x = mid V a d f (k + 1) x := by
  by_cases e : dgl d f k = x
  · subst e
    have e3 : mid V a d f (k + 1) (dgl d f k) = up1 (V (dgl d f k)) a := by
      unfold mid; rw [any_succ]; simp
    rw [e3]
    by_cases hc : (List.range k).any (fun j => (dgl d f j).toList == (dgl d f k).toList) = true
    · unfold mid; rw [if_pos hc]
    · have e2 : mid V a d f k (dgl d f k) = V (dgl d f k) := by unfold mid; rw [if_neg hc]
      rw [h] at e2
      rw [h, ← e2]; simp [up1, hl]
  · unfold mid
    rw [any_succ, beq_false e, Bool.or_false]
theorem range_any_succ (g : Nat → Bool) (m : Nat) : (List.range (m + 1)).any g = (g 0 || (List.range m).any (fun k => g (k + 1))) := by
  rw [List.range_succ_eq_map]; simp [List.any_map, Function.comp_def]
theorem mid_all (V : ByteArray → Option ByteArray) (a d : ByteArray) (f : Nat → ByteArray) (m : Nat) (x : ByteArray) : mid V a d f (m + 1) x = if needs d m f x then up1 (V x) a else V x := by
  unfold mid needs
  rw [range_any_succ]; rfl
end Go.Proofs.Qxb6623375a
