import Derived.Test.Qxb6619248aDoorRows
import Derived.Test.Qxb6619248aDoorP2
import Derived.Test.Qxb6619248aDoorShelf
import Derived.WalkKit
import Derived.WalkSpells
import Derived.WalkLawsBesides
import Derived.Deep.QuietTactic
import Derived.BigQuiet
import Derived.LoopTactic
import Derived.Deep.OwnRows
import Derived.Lib.LazyBuf
import Derived.Deep.Upon
import Derived.Deep.RegionHeld3
import Derived.Maps.OwnSet
namespace Go.Proofs.Qxb6619248aDoor
open Go.RowKit
open Pl

/-! ### rows -/
theorem rowIs_new (w : World) (c : Array Value) (t : TypeId) : (w.alloc (.cells c t)).rowIs w.heap.size t c.size (fun i => c[i]?.getD default) :=
  World.rowIs_alloc w c t _ (fun i hi => by simp [hi])
theorem grown_setCells (w : World) (b o : Nat) (vs : List Value) : w.grownBy (w.setCells b o vs) (some b) := by
  have hsz : ∀ (vs : List Value) (o : Nat) (w : World), (w.setCells b o vs).heap.size = w.heap.size := by
    intro vs
    induction vs with
    | nil => intro o w; rfl
    | cons v r ih => intro o w; rw [World.setCells, ih, World.size_setCell]
  have htape : ∀ (vs : List Value) (o : Nat) (w : World), (w.setCells b o vs).tape = w.tape := by
    intro vs
    induction vs with
    | nil => intro o w; rfl
    | cons v r ih => intro o w; rw [World.setCells, ih]; rfl
  exact ⟨World.os_setCells .., htape .., World.output_setCells .., by rw [hsz]; exact Nat.le_refl _, fun k hk hne => World.heap_setCells_other w b o vs hk (fun e => hne (by rw [e]))⟩
theorem grown_drew (w : World) (row : Option Nat) : w.grownBy w.drew row := ⟨rfl, rfl, rfl, Nat.le_refl _, fun _ _ _ => rfl⟩
theorem grown_drewN (w : World) (q : Nat) (row : Option Nat) : w.grownBy (w.drewN q) row := ⟨rfl, rfl, rfl, Nat.le_refl _, fun _ _ _ => rfl⟩
theorem rowIs_shape {w : World} {b : Nat} {t : TypeId} {n : Nat} {f : Nat → Value} (h : w.rowIs b t n f) : w.shape? b = some (t, n) := by
  obtain ⟨c, hb, hn, _⟩ := h
  simp [World.shape?, hb, hn]
theorem rowIs_grown {w w' : World} {row : Option Nat} {b : Nat} {t : TypeId} {n : Nat} {f : Nat → Value} (h : w.rowIs b t n f) (hg : w.grownBy w' row) (hne : some b ≠ row) : w'.rowIs b t n f :=
  h.of_block (hg.block b h.lt hne)
theorem below_grown {B : Nat} {w w' : World} {row : Option Nat} (hg : w.grownBy w' row) (hB : B ≤ w.heap.size) (hr : ∀ k, row = some k → B ≤ k) : Below B w w' :=
  (Below.refl B w).grown hg hB hr

/-! ### the row of held names -/
def HeldAt (w : World) (B : Nat) (base : Option Addr) (cap : Nat) (H : List Nm) : Prop :=
  (base = none ∧ H = [] ∧ cap = 0) ∨
  ∃ hb f, base = some ⟨hb, 0, none⟩ ∧ B ≤ hb ∧ 0 < cap ∧ cap ≤ 9223372036854775807 ∧ H.length ≤ cap ∧ w.rowIs hb 9 cap f ∧ ∀ j s, H[j]? = some s → f j = .string s

/-- its block -/
def blockOf : Option Addr → Option Nat
  | some a => some a.block
  | none => none

theorem HeldAt.grown {w w' : World} {B : Nat} {base : Option Addr} {cap : Nat} {H : List Nm} {row : Option Nat} (h : HeldAt w B base cap H) (hg : w.grownBy w' row) (hne : ∀ b, row = some b → blockOf base ≠ some b) : HeldAt w' B base cap H := by
  rcases h with h | ⟨hb, f, rfl, h1, h2, h3, h4, h5, h6⟩
  · exact .inl h
  · exact .inr ⟨hb, f, rfl, h1, h2, h3, h4, rowIs_grown h5 hg (fun e => hne hb e.symm rfl), h6⟩

theorem insAt_get {H : List Nm} {k : Nat} {x : Nm} (hk : k ≤ H.length) (j : Nat) : (insAt H k x)[j]? = if j < k then H[j]? else if j = k then some x else H[j - 1]? := by
  unfold insAt
  have hl : (H.take k).length = k := by simp; omega
  by_cases h1 : j < k
  · rw [if_pos h1, List.getElem?_append_left (by omega), List.getElem?_take, if_pos h1]
  · rw [if_neg h1, List.getElem?_append_right (by omega), hl]
    by_cases h2 : j = k
    · rw [if_pos h2, h2, Nat.sub_self]; rfl
    · rw [if_neg h2, show j - k = (j - k - 1) + 1 by omega, List.getElem?_cons_succ, List.getElem?_drop]
      congr 1; omega
theorem delAt_get {H : List Nm} {k : Nat} (hk : k < H.length) (j : Nat) : (delAt H k)[j]? = if j < k then H[j]? else H[j + 1]? := by
  unfold delAt
  have hl : (H.take k).length = k := by simp; omega
  by_cases h1 : j < k
  · rw [if_pos h1, List.getElem?_append_left (by omega), List.getElem?_take, if_pos h1]
  · rw [if_neg h1, List.getElem?_append_right (by omega), hl, List.getElem?_drop]
    congr 1; omega

/-- slices.BinarySearch over what is held -/
theorem search_any {w : World} {B : Nat} {base : Option Addr} {cap : Nat} {H : List Nm} (h : HeldAt w B base cap H) (hs : H.Pairwise lt) (hlen : H.length ≤ 100000) (x : Nm) :
    Calls Tryd.prog 23 #[.slice base H.length cap, .string x] w fun e w' => ∃ (k : Nat) (fnd : Bool), Pl.Place H x k ∧ (fnd = true ↔ x ∈ H) ∧ e = .returned (.tuple #[.int .i64 k, .bool fnd]) ∧ ∃ q, w' = w.drewN q := by
  rcases h with ⟨rfl, rfl, rfl⟩ | ⟨hb, f, rfl, h1, h2, h3, h4, h5, h6⟩
  · refine (Any2.slices_BinarySearch_string_empty Tryd.lays26 none 0 x w).mono ?_
    rintro e w' ⟨rfl, rfl⟩
    exact ⟨0, false, ⟨Nat.le_refl _, fun t h => absurd h (by simp), fun t h => absurd h (by simp)⟩, by simp, rfl, 0, rfl⟩
  · obtain ⟨k, hp⟩ := place_ex H hs x
    obtain ⟨Sx, hSx⟩ : ∃ Sx : Nat → Nm, Sx = fun t => H.getD t x := ⟨_, rfl⟩
    have hin : ∀ t, (ht : t < H.length) → Sx t = H[t] := fun t ht => by rw [hSx]; simp [ht]
    have hout : ∀ t, H.length ≤ t → Sx t = x := fun t ht => by rw [hSx]; simp [List.getElem?_eq_none ht]
    have hk : Lib.bsGo (fun t => Op.bytesLess (Sx t).toList x.toList) H.length 0 H.length = k := by
      refine Lib.bsGo_spec _ k (fun t ht => ?_) (fun t ht => ?_) H.length 0 H.length (by omega) (Nat.zero_le _) hp.1
      · have htl : t < H.length := by have := hp.1; omega
        rw [less_iff, hin t htl]; exact hp.2.1 t htl ht
      · rw [Bool.eq_false_iff]; intro hc
        rw [less_iff] at hc
        by_cases htl : t < H.length
        · rw [hin t htl] at hc; exact hp.2.2 t htl ht hc
        · rw [hout t (by omega)] at hc; exact lt_irrefl _ hc
    have hc := Any2.slices_BinarySearch_string Tryd.lays26 hb 0 H.length cap Sx x w (by omega) (fun j hj => by
      rw [Nat.zero_add, h5.cell (by omega), h6 j _ (List.getElem?_eq_getElem hj), hin j hj])
    rw [hk] at hc
    refine hc.mono ?_
    rintro e w' ⟨rfl, q, rfl⟩
    refine ⟨k, _, hp, ?_, rfl, q, rfl⟩
    rw [decide_eq_true_iff, ← place_found hs hp]
    constructor
    · rintro ⟨a, b⟩; exact ⟨a, by rw [← hin k a]; exact b⟩
    · rintro ⟨a, b⟩; exact ⟨a, by rw [hin k a]; exact b⟩

/-- slices.Delete of one held name -/
theorem delete_any {w : World} {B : Nat} {base : Option Addr} {cap : Nat} {H : List Nm} (h : HeldAt w B base cap H) (k : Nat) (hk : k < H.length) :
    Calls Tryd.prog 24 #[.slice base H.length cap, .int .i64 k, .int .i64 ((k : Int) + 1)] w fun e w' => e = .returned (.slice base (delAt H k).length cap) ∧ w.grownBy w' (blockOf base) ∧ HeldAt w' B base cap (delAt H k) := by
  rw [show (k : Int) + 1 = ((k + 1 : Nat) : Int) from by omega]
  rcases h with ⟨rfl, rfl, rfl⟩ | ⟨hb, f, rfl, h1, h2, h3, h4, h5, h6⟩
  · simp at hk
  · obtain ⟨Sx, hSx⟩ : ∃ Sx : Nat → Nm, Sx = fun t => H.getD t ByteArray.empty := ⟨_, rfl⟩
    have hin : ∀ t, (ht : t < H.length) → Sx t = H[t] := fun t ht => by rw [hSx]; simp [ht]
    refine (Any.slices_Delete_string_cells Tryd.lays24 hb 0 H.length cap k (k + 1) Sx w h4 h3 (by omega) (by omega) (fun j hj => by
      rw [Nat.zero_add, h5.cell (by omega), h6 j _ (List.getElem?_eq_getElem hj), hin j hj]) (fun j _ => h5.frozen _)).mono ?_
    rintro e w' ⟨rfl, q, rfl⟩
    have hl : (delAt H k).length = H.length - (k + 1 - k) := by rw [delAt_length hk]; omega
    refine ⟨by rw [hl], (grown_drewN w q (some hb)).trans (grown_setCells _ hb 0 _), .inr ⟨hb, _, rfl, h1, h2, h3, by omega, rowIs_setCells _ 0 _ _ (show (w.drewN q).rowIs hb 9 cap f from h5), fun j s hj => ?_⟩⟩
    have hjl : j < H.length - 1 := by
      have := (List.getElem?_eq_some_iff.1 hj).1
      rw [delAt_length hk] at this; exact this
    have hs : (Lib.strsOf Sx H.length).length = H.length := Lib.strsOf_length _ _
    have hget : ∀ t, t < H.length → (Lib.strsOf Sx H.length)[t]? = (H[t]?).map (·.data.toList) := fun t ht => by
      simp [Lib.strsOf, ht, hin t ht]
    rw [delAt_get hk] at hj
    rw [if_pos (by simp [hs]; omega)]
    simp only [Nat.sub_zero, List.getElem?_map, List.append_assoc]
    by_cases hjk : j < k
    · rw [if_pos hjk] at hj
      rw [List.getElem?_append_left (by simp [hs]; omega), List.getElem?_take, if_pos hjk, hget j (by omega), hj]
      rfl
    · rw [if_neg hjk] at hj
      have ht : ((Lib.strsOf Sx H.length).take k).length = k := by simp [hs]; omega
      rw [List.getElem?_append_right (by omega), ht, List.getElem?_append_left (by simp [hs]; omega), List.getElem?_drop, show k + 1 + (j - k) = j + 1 by omega, hget (j + 1) (by omega), hj]
      rfl

/-- slices.Insert of one name -/
theorem insert_any {w : World} {B : Nat} {base : Option Addr} {cap : Nat} {H : List Nm} (h : HeldAt w B base cap H) (hB : B ≤ w.heap.size) (hlen : H.length ≤ 100000) (x : Nm) (k : Nat) (hk : k ≤ H.length) (vb : Nat)
    (hv : w.rowIs vb 9 1 (fun _ => .string x)) (hne : ∀ b, blockOf base = some b → vb ≠ b) :
    Calls Tryd.prog 25 #[.slice base H.length cap, .int .i64 k, .slice (some ⟨vb, 0, none⟩) 1 1] w fun e w' => ∃ base' cap', e = .returned (.slice base' (insAt H k x).length cap') ∧ w.grownBy w' (blockOf base) ∧ HeldAt w' B base' cap' (insAt H k x) ∧
      (blockOf base' = blockOf base ∨ blockOf base' = some w.heap.size) := by
  have hil : (insAt H k x).length = H.length + 1 := insAt_length hk
  have hvs : ∀ j v, ([Value.string x] : List Value)[j]? = some v → w.cell? ⟨vb, 0 + j, none⟩ = some v := fun j v hj => by
    cases j with
    | zero => simp at hj; subst hj; exact hv.cell (by omega)
    | succ j => simp at hj
  have h1v : ∀ v ∈ ([Value.string x] : List Value), v.oneCell' = true := fun v hv => by simp at hv; subst hv; rfl
  have h1c : ∀ v ∈ H.map Value.string, v.oneCell' = true := fun v hv => by
    obtain ⟨s, _, rfl⟩ := List.mem_map.1 hv; rfl
  have hgc : ∀ c, H.length + 1 ≤ grownCap w (H.length + 1) c 9 ∧ grownCap w (H.length + 1) c 9 ≤ 9223372036854775807 := fun c =>
    ⟨grownCap_ge _ _ _ _, grownCap_le_maxLen _ _ _ _ (by unfold maxLen; omega)⟩
  have hzs : ∀ m, (Builtin.zeroCells (Value.string ⟨#[]⟩).cells m).size = m := fun m => by simp [Builtin.zeroCells, Value.cells]
  rcases h with ⟨rfl, rfl, rfl⟩ | ⟨hb, f, rfl, h1, h2, h3, h4, h5, h6⟩
  · -- the nil slice
    have hk0 : k = 0 := by simpa using hk
    subst hk0
    refine (Any2.slices_Insert_string_end_grow Tryd.lays22 none 0 0 vb 0 1 1 [] [.string x] w (by omega) (by omega) (by omega) (by omega) rfl rfl (fun _ => rfl) (fun a ha => by cases ha) hvs h1v).mono ?_
    rintro e w' ⟨rfl, rfl⟩
    have hg := hgc 0
    simp only [List.length_nil, Nat.zero_add] at hg
    have hr := rowIs_new w.drew (([] ++ [Value.string x]).toArray ++ Builtin.zeroCells (Value.string ⟨#[]⟩).cells (grownCap w 1 0 9 - 1)) 9
    have hc : (([] ++ [Value.string x]).toArray ++ Builtin.zeroCells (Value.string ⟨#[]⟩).cells (grownCap w 1 0 9 - 1)).size = grownCap w 1 0 9 := by
      rw [Array.size_append, hzs]; simp; omega
    rw [hc] at hr
    refine ⟨some ⟨w.heap.size, 0, none⟩, grownCap w 1 0 9, rfl, (grown_drew w _).trans (World.grownBy_alloc _ _ _), .inr ⟨w.heap.size, _, rfl, hB, by omega, hg.2, hg.1, hr, fun j s hj => ?_⟩, .inr rfl⟩
    · rw [insAt_get (Nat.zero_le _), if_neg (by omega)] at hj
      by_cases e : j = 0
      · subst e; rw [if_pos rfl] at hj; cases hj; rw [Array.getElem?_append_left (by simp)]; rfl
      · rw [if_neg e] at hj; simp at hj
  · have hcl : (H.map Value.string).length = H.length := by simp
    have hcs : ∀ j v, (H.map Value.string)[j]? = some v → w.cell? ⟨hb, 0 + j, none⟩ = some v := fun j v hj => by
      rw [List.getElem?_map] at hj
      obtain ⟨s, hs, rfl⟩ := Option.map_eq_some_iff.1 hj
      have hjl := (List.getElem?_eq_some_iff.1 hs).1
      rw [Nat.zero_add, h5.cell (by omega), h6 j s hs]
    have hne' : vb ≠ hb := hne hb rfl
    by_cases hroom : H.length + 1 ≤ cap
    · by_cases hkn : k < H.length
      · refine (Any2.slices_Insert_string_shift Tryd.lays22 hb 0 H.length cap k vb 0 1 1 (H.map Value.string) [.string x] w hkn (by omega) hroom h3 hne' hcl rfl hcs
          (fun j hj => by rw [Nat.zero_add, h5.cell (by omega)]; rfl) (fun j _ => h5.frozen _) hvs h1c h1v 9 9 1 cap (rowIs_shape hv) (rowIs_shape h5) (by omega) (hv.frozen _) (hv.frozen _)).mono ?_
        rintro e w' ⟨rfl, rfl⟩
        refine ⟨some ⟨hb, 0, none⟩, cap, by rw [hil], ((grown_drew w _).trans (grown_setCells _ hb _ _)).trans (grown_setCells _ hb _ _), .inr ⟨hb, _, rfl, h1, h2, h3, by omega,
          rowIs_setCells _ _ _ _ (rowIs_setCells _ _ _ _ h5.drew), fun j s hj => ?_⟩, .inl rfl⟩
        have hjl : j < H.length + 1 := by
          have := (List.getElem?_eq_some_iff.1 hj).1
          omega
        rw [insAt_get hk] at hj
        simp only [Nat.zero_add, List.length_singleton, List.length_drop, hcl]
        by_cases c1 : j < k
        · rw [if_pos c1] at hj
          rw [if_neg (by omega), if_neg (by omega)]
          exact h6 j s hj
        · rw [if_neg c1] at hj
          by_cases c2 : j = k
          · rw [if_pos c2] at hj; cases hj
            rw [if_pos (by omega), c2, Nat.sub_self]; rfl
          · rw [if_neg c2] at hj
            rw [if_neg (by omega), if_pos (by omega), List.getElem?_drop, show k + (j - (k + 1)) = j - 1 by omega, List.getElem?_map, hj]; rfl
      · have hkn' : k = H.length := by omega
        subst hkn'
        refine (Any2.slices_Insert_string_end_room Tryd.lays22 hb 0 H.length cap vb 0 1 1 [.string x] w (by omega) hroom h3 rfl
          (fun j hj => by rw [h5.cell (by omega)]; rfl) (fun j _ => h5.frozen _) hvs h1v).mono ?_
        rintro e w' ⟨rfl, rfl⟩
        refine ⟨some ⟨hb, 0, none⟩, cap, by rw [hil], grown_setCells _ hb _ _, .inr ⟨hb, _, rfl, h1, h2, h3, by omega, rowIs_setCells _ _ _ _ h5, fun j s hj => ?_⟩, .inl rfl⟩
        have hjl : j < H.length + 1 := by
          have := (List.getElem?_eq_some_iff.1 hj).1
          omega
        rw [insAt_get hk] at hj
        simp only [Nat.zero_add, List.length_singleton]
        by_cases c1 : j < H.length
        · rw [if_pos c1] at hj
          rw [if_neg (by omega)]
          exact h6 j s hj
        · have c2 : j = H.length := by omega
          rw [if_neg c1, if_pos c2] at hj; cases hj
          rw [if_pos (by omega), c2, Nat.sub_self]; rfl
    · have hg := hgc cap
      by_cases hkn : k < H.length
      · refine (Any2.slices_Insert_string_grow Tryd.lays22 hb 0 H.length cap k vb 0 1 1 (H.map Value.string) [.string x] w hkn (by omega) h4 (by omega) (by omega) hcl rfl hcs hvs h1c h1v).mono ?_
        rintro e w' ⟨rfl, rfl⟩
        obtain ⟨c, hc⟩ : ∃ c, c = ((H.map Value.string).take k).toArray ++ Builtin.zeroCells (Value.string ⟨#[]⟩).cells (H.length + 1 - k) ++ Builtin.zeroCells (Value.string ⟨#[]⟩).cells (grownCap w (H.length + 1) cap 9 - (H.length + 1)) := ⟨_, rfl⟩
        have hcsz : c.size = grownCap w (H.length + 1) cap 9 := by
          rw [hc, Array.size_append, Array.size_append, hzs, hzs]; simp; omega
        have hr := rowIs_new w c 9
        rw [hcsz] at hr
        have e9 : Tryd.lays22_ren.t 9 = 9 := rfl
        rw [e9, ← hc]
        have hgg : w.grownBy ((((w.alloc (.cells c 9)).drew.setCells w.heap.size k [.string x]).drew).setCells w.heap.size (k + 1) ((H.map Value.string).drop k)) none := by
          have a1 := World.grownBy_alloc w (.cells c 9) none
          have a2 := a1.trans (grown_drew _ none)
          have a3 := a2.andThen (grown_setCells _ w.heap.size k [.string x]) (fun j hj => by cases hj; exact .inl (Nat.le_refl _))
          have a4 := a3.trans (grown_drew _ none)
          exact a4.andThen (grown_setCells _ w.heap.size (k + 1) _) (fun j hj => by cases hj; exact .inl (Nat.le_refl _))
        refine ⟨some ⟨w.heap.size, 0, none⟩, grownCap w (H.length + 1) cap 9, by rw [hil], hgg.but _, .inr ⟨w.heap.size, _, rfl, hB, by omega, hg.2, by omega,
          rowIs_setCells _ _ _ _ (rowIs_setCells _ _ _ _ hr.drew).drew, fun j s hj => ?_⟩, .inr rfl⟩
        have hjl : j < H.length + 1 := by
          have := (List.getElem?_eq_some_iff.1 hj).1
          omega
        rw [insAt_get hk] at hj
        simp only [List.length_singleton, List.length_drop, hcl]
        by_cases c1 : j < k
        · rw [if_pos c1] at hj
          rw [if_neg (by omega), if_neg (by omega), hc]
          have hsz1 : ((H.map Value.string).take k).length = k := by simp; omega
          rw [Array.getElem?_append_left (by rw [Array.size_append, hzs]; simp; omega), Array.getElem?_append_left (by simp; omega)]
          simp only [List.getElem?_toArray, List.getElem?_take, if_pos c1, List.getElem?_map, hj]; rfl
        · rw [if_neg c1] at hj
          by_cases c2 : j = k
          · rw [if_pos c2] at hj; cases hj
            rw [if_neg (by omega), if_pos (by omega), c2, Nat.sub_self]; rfl
          · rw [if_neg c2] at hj
            rw [if_pos (by omega), List.getElem?_drop, show k + (j - (k + 1)) = j - 1 by omega, List.getElem?_map, hj]; rfl
      · have hkn' : k = H.length := by omega
        subst hkn'
        refine (Any2.slices_Insert_string_end_grow Tryd.lays22 (some ⟨hb, 0, none⟩) H.length cap vb 0 1 1 (H.map Value.string) [.string x] w (by omega) h4 (by omega) (by omega) hcl rfl (fun e => by cases e)
          (fun a ha j v hj => by cases ha; rw [WideShapes.add_plain]; exact hcs j v hj) hvs h1v).mono ?_
        rintro e w' ⟨rfl, rfl⟩
        have e9 : Tryd.lays22_ren.t 9 = 9 := rfl
        rw [e9]
        obtain ⟨c, hc⟩ : ∃ c, c = (H.map Value.string ++ [Value.string x]).toArray ++ Builtin.zeroCells (Value.string ⟨#[]⟩).cells (grownCap w (H.length + 1) cap 9 - (H.length + 1)) := ⟨_, rfl⟩
        have hcsz : c.size = grownCap w (H.length + 1) cap 9 := by
          rw [hc, Array.size_append, hzs]; simp; omega
        have hr := rowIs_new w.drew c 9
        rw [hcsz] at hr
        rw [← hc]
        refine ⟨some ⟨w.heap.size, 0, none⟩, grownCap w (H.length + 1) cap 9, by rw [hil], (grown_drew w _).trans (World.grownBy_alloc _ _ _), .inr ⟨w.heap.size, _, rfl, hB, by omega, hg.2, by omega, hr, fun j s hj => ?_⟩, .inr rfl⟩
        have hjl : j < H.length + 1 := by
          have := (List.getElem?_eq_some_iff.1 hj).1
          omega
        rw [insAt_get hk] at hj
        rw [hc, Array.getElem?_append_left (by simp; omega), List.getElem?_toArray]
        by_cases c1 : j < H.length
        · rw [if_pos c1] at hj
          rw [List.getElem?_append_left (by simp; omega), List.getElem?_map, hj]; rfl
        · have c2 : j = H.length := by omega
          rw [if_neg c1, if_pos c2] at hj; cases hj
          rw [List.getElem?_append_right (by simp; omega), c2]; simp

end Go.Proofs.Qxb6619248aDoor
