import Derived.Test.Qxb6619248aDoorW1
namespace Go.Proofs.Qxb6619248aDoor
open Go.RowKit
open Pl
open Go.Maps

/-! ### the balance map -/
theorem law : Keyed Tryd.prog 9 := string_keyed Tryd.underlying9
theorem zero2 (w : World) : (zeroValue 2).run Tryd.prog w = .ok (.int .i64 0) w := by kernel_rfl
def key (x : Nm) : Lit := .string x.data.toList
theorem key_inj {x y : Nm} (h : key x = key y) : x = y := by
  unfold key at h; injection h with h; exact WideShapes.bytes_inj h
theorem key_lit (x : Nm) : WideAt.IsKeyLit (key x) := trivial
theorem keyOf_nm {x : Nm} (h : x.size ≤ maxLen) : keyOf Tryd.prog 9 (.string x) = some (key x) := Go.WideMaps.keyOf_string_mk Tryd.underlying9 h

/-- the map reads as V, and has m keys -/
structure RelD (D : DataW Unit) (V : Nm → Int) (m : Nat) : Prop where
  tidy : Tidy D
  has : ∀ x, Maps.has D (key x) = true ↔ V x ≠ 0
  at' : ∀ x, V x ≠ 0 → ∀ z, D.atKey (key x) z = .lit (.int .i64 (V x))
  size : Maps.size D = m

/-- V turned at one name -/
def upd (V : Nm → Int) (x : Nm) (v : Int) : Nm → Int := fun y => if x.toList == y.toList then v else V y
theorem upd_same (V : Nm → Int) (x : Nm) (v : Int) : upd V x v x = v := by simp [upd]
theorem upd_other (V : Nm → Int) {x y : Nm} (v : Int) (h : x ≠ y) : upd V x v y = V y := by
  have : (x.toList == y.toList) = false := by
    rw [Bool.eq_false_iff]; intro hc; exact h ((beq_iff _ _).1 hc)
  simp [upd, this]

theorem relD_empty : RelD (.map []) (fun _ => 0) 0 :=
  ⟨tidy_empty, fun x => by simp [Maps.has], fun x h => absurd rfl h, rfl⟩
theorem RelD.put {D : DataW Unit} {V : Nm → Int} {m : Nat} (h : RelD D V m) (x : Nm) (v : Int) (hv : v ≠ 0) : RelD (D.put (key x) (.lit (.int .i64 v))) (upd V x v) (if V x = 0 then m + 1 else m) := by
  refine ⟨h.tidy.put (key_lit x) _, fun y => ?_, fun y hy z => ?_, ?_⟩
  · by_cases e : x = y
    · subst e; rw [upd_same, has_put_same h.tidy.isMap (key_lit x)]; simp [hv]
    · rw [upd_other _ _ e, has_put_other (fun hc => e (key_inj hc).symm)]; exact h.has y
  · by_cases e : x = y
    · subst e; rw [upd_same, atKey_put_same h.tidy.isMap (key_lit x)]
    · rw [upd_other _ _ e] at hy ⊢
      rw [atKey_put_other (fun hc => e (key_inj hc).symm)]; exact h.at' y hy z
  · rw [size_put h.tidy]
    by_cases hx : V x = 0
    · have : Maps.has D (key x) = false := by
        rw [Bool.eq_false_iff]; intro hc; exact (h.has x).1 hc hx
      rw [this, if_pos hx, h.size]; rfl
    · rw [(h.has x).2 hx, if_neg hx, h.size]; rfl
theorem RelD.del {D : DataW Unit} {V : Nm → Int} {m : Nat} (h : RelD D V m) (x : Nm) : RelD (D.del (key x)) (upd V x 0) (if V x = 0 then m else m - 1) := by
  refine ⟨h.tidy.del _, fun y => ?_, fun y hy z => ?_, ?_⟩
  · by_cases e : x = y
    · subst e; rw [upd_same, has_del_same]; simp
    · rw [upd_other _ _ e, has_del_other (fun hc => e (key_inj hc).symm)]; exact h.has y
  · by_cases e : x = y
    · subst e; rw [upd_same] at hy; exact absurd rfl hy
    · rw [upd_other _ _ e] at hy ⊢
      rw [atKey_del_other (fun hc => e (key_inj hc).symm)]; exact h.at' y hy z
  · have hs := size_del (k := key x) h.tidy
    by_cases hx : V x = 0
    · have : Maps.has D (key x) = false := by
        rw [Bool.eq_false_iff]; intro hc; exact (h.has x).1 hc hx
      rw [this] at hs
      rw [if_pos hx]; have := h.size; simp at hs; omega
    · rw [(h.has x).2 hx] at hs
      rw [if_neg hx]; have := h.size; simp at hs; omega

/-! ### the ledger in memory -/
def BalAt (w : World) (B n : Nat) (m : Value) (V : Nm → Int) (len : Nat) : Prop :=
  (m = .map none ∧ ∀ x, V x = 0) ∨
  ∃ bm D, m = .map (some bm) ∧ B ≤ bm ∧ w.ownsMap Tryd.prog 9 (plainElem (H := Unit) Tryd.prog 2) bm n D ∧ RelD D V len

structure Acc (w : World) (B A n : Nat) (H : List Nm) (V : Nm → Int) : Prop where
  hA : B ≤ A
  row : ∃ m base cap, w.rowIs A 46 2 (fun j => if j = 0 then m else .slice base H.length cap) ∧ HeldAt w B base cap H ∧ blockOf base ≠ some A ∧ BalAt w B n m V H.length
  sorted : H.Pairwise lt
  mem : ∀ x, x ∈ H ↔ V x ≠ 0

theorem ownsMap_not_row {w : World} {b n : Nat} {D : DataW Unit} (h : w.ownsMap Tryd.prog 9 (plainElem (H := Unit) Tryd.prog 2) b n D) {t : TypeId} {k : Nat} {f : Nat → Value} (hr : w.rowIs b t k f) : False := by
  obtain ⟨es, clock, hb, _⟩ := h
  obtain ⟨c, hc, _⟩ := hr
  rw [hb] at hc; cases hc

/-- a row is no map -/
def NoRow (w : World) (row : Option Nat) : Prop := ∀ b t k f, w.rowIs b t k f → some b ≠ row

theorem drop_any {w : World} {B n : Nat} {m : Value} {V : Nm → Int} {len : Nat} (h : BalAt w B n m V len) (x : Nm) (hx : x.size ≤ maxLen) (ty : TypeId) :
    ∃ w' row, (Builtin.delete_ #[24, 9] ty #[m, .string x]).run Tryd.prog w = .ok (.tuple #[]) w' ∧ w.grownBy w' row ∧ NoRow w row ∧ (∀ k, row = some k → B ≤ k) ∧ BalAt w' B n m (upd V x 0) (if V x = 0 then len else len - 1) := by
  rcases h with ⟨rfl, hV⟩ | ⟨bm, D, rfl, hB, hown, hrel⟩
  · refine ⟨w, none, Maps.drop_nil law Tryd.underlying24 (keyOf_nm hx) ty, World.grownBy.refl _ _, fun b t k f _ => by simp, fun k hk => (by cases hk), .inl ⟨rfl, fun y => ?_⟩⟩
    by_cases e : x = y
    · subst e; exact upd_same _ _ _
    · rw [upd_other _ _ e]; exact hV y
  · obtain ⟨w', hrun, hown', hturn⟩ := hown.drop law Tryd.underlying24 (keyOf_nm hx) ty
    refine ⟨w', some bm, hrun, hturn.grown, fun b t k f hr e => ?_, fun k hk => by cases hk; exact hB, .inr ⟨bm, _, rfl, hB, hown', hrel.del x⟩⟩
    cases e; exact ownsMap_not_row hown hr

theorem store_any {w : World} {B n bm : Nat} {V : Nm → Int} {len : Nat} (h : BalAt w B n (.map (some bm)) V len) (x : Nm) (hx : x.size ≤ maxLen) (v : Int) (hv : v ≠ 0) (wv : (Lit.int .i64 v).wf = true) (hn : n ≤ 5000) :
    ∃ w' row, (Instr.mapUpdate 24 (.map (some bm)) (.string x) (.int .i64 v)).run Tryd.prog w = .ok () w' ∧ w.grownBy w' row ∧ NoRow w row ∧ (∀ k, row = some k → B ≤ k) ∧ BalAt w' B (n + 1) (.map (some bm)) (upd V x v) (if V x = 0 then len + 1 else len) := by
  rcases h with ⟨e, hV⟩ | ⟨bm', D, e, hB, hown, hrel⟩
  · cases e
  · cases e
    obtain ⟨w', hrun, hown', hturn⟩ := hown.store law Tryd.underlying24 (by unfold maxLen; omega) (keyOf_nm hx) (plainElem_int Tryd.underlying2 wv)
    refine ⟨w', some bm, hrun, hturn.grown, fun b t k f hr e => ?_, fun k hk => by cases hk; exact hB, .inr ⟨bm, _, rfl, hB, hown', hrel.put x v hv⟩⟩
    cases e; exact ownsMap_not_row hown hr

theorem BalAt.grown {w w' : World} {B n : Nat} {m : Value} {V : Nm → Int} {len : Nat} {row : Option Nat} (h : BalAt w B n m V len) (hg : w.grownBy w' row) (hr : ∀ b, row = some b → ∃ t k f, w.rowIs b t k f) : BalAt w' B n m V len := by
  rcases h with h | ⟨bm, D, rfl, hB, hown, hrel⟩
  · exact .inl h
  · refine .inr ⟨bm, D, rfl, hB, hown.kept hg (fun e => ?_), hrel⟩
    obtain ⟨t, k, f, hrow⟩ := hr bm e.symm
    exact ownsMap_not_row hown hrow
theorem BalAt.mono {w : World} {B n n' : Nat} {m : Value} {V : Nm → Int} {len : Nat} (h : BalAt w B n m V len) (hn : n ≤ n') : BalAt w B n' m V len := by
  rcases h with h | ⟨bm, D, rfl, hB, hown, hrel⟩
  · exact .inl h
  · exact .inr ⟨bm, D, rfl, hB, hown.mono hn, hrel⟩

theorem held_row {w : World} {B : Nat} {base : Option Addr} {cap : Nat} {H : List Nm} (h : HeldAt w B base cap H) {b : Nat} (hb : blockOf base = some b) : B ≤ b ∧ ∃ t k f, w.rowIs b t k f := by
  rcases h with ⟨rfl, _⟩ | ⟨hb', f, rfl, h1, _, _, _, h5, _⟩
  · cases hb
  · cases hb; exact ⟨h1, _, _, _, h5⟩

set_option maxRecDepth 100000 in
set_option maxHeartbeats 1000000 in
theorem set_zero (w : World) (B A n : Nat) (H : List Nm) (V : Nm → Int) (name : Nm) (h : Acc w B A n H V) (hBw : B ≤ w.heap.size) (hname : name.size ≤ maxLen) (hlen : H.length ≤ 5000) :
    Calls Tryd.prog 21 #[.pointer (some ⟨A, 0, none⟩), .string name, .int .i64 0] w fun e w' => e = .returned (.tuple #[]) ∧ Below B w w' ∧ ∃ H', Acc w' B A n H' (upd V name 0) ∧ H'.length ≤ H.length := by
  obtain ⟨hA, ⟨m, base, cap, hrow, hheld, hbA, hbal⟩, hs, hm⟩ := h
  have c0 := hrow.cell (i := 0) (by omega)
  have c1 := hrow.cell (i := 1) (by omega)
  simp only [if_true, Nat.one_ne_zero, if_false] at c0 c1
  have HM : Hid (∀ x, x ∈ H ↔ V x ≠ 0) := hm
  clear hm
  go_enter Tryd.func21, Tryd.ntmps21
  go_wp2_with fail
  refine (search_any hheld hs (by omega) name).mono ?_
  rintro e w1 ⟨k, fnd, hp, hf, rfl, q, rfl⟩
  obtain ⟨w2, row, hrun, hg, hnr, hrB, hbal2⟩ := drop_any (w := w.drewN q) (show BalAt (w.drewN q) B n m V H.length from hbal) name hname 0
  cases fnd
  · have hx : Hid (name ∉ H) := fun hc => by have := hf.2 hc; cases this
    clear hf
    have hV0 : Hid (V name = 0) := by
      apply Classical.byContradiction; intro hc; exact hx.out ((HM.out name).2 hc)
    have HF : Hid (Below B w w2 ∧ ∃ H', Acc w2 B A n H' (upd V name 0) ∧ H'.length ≤ H.length) := by
      rw [if_pos hV0.out] at hbal2
      refine ⟨below_grown ((grown_drewN w q row).trans hg) hBw hrB, H, ⟨hA, ⟨m, base, cap, rowIs_grown (show (w.drewN q).rowIs A 46 2 _ from hrow) hg (hnr _ _ _ _ hrow), hheld.grown ((grown_drewN w q row).trans hg) (fun b hb e => ?_), hbA, hbal2⟩, hs, fun y => ?_⟩, Nat.le_refl _⟩
      · obtain ⟨_, t, k', f, hr⟩ := held_row hheld e
        exact hnr b t k' f hr hb.symm
      · by_cases e : name = y
        · subst e; rw [upd_same]; exact ⟨fun hc => absurd hc hx.out, fun hc => absurd rfl hc⟩
        · rw [upd_other _ _ e]; exact HM.out y
    clear hg hnr hrB hbal2 hrow hheld hbA hbal hs hp hA
    go_wp2
    exact bodyPost_ret (v := .tuple #[]) (by simp [results, Tryd.results21, go_sem]) rfl ⟨rfl, HF.out⟩
  · have hx : Hid (name ∈ H) := hf.1 rfl
    clear hf
    obtain ⟨hkl, hke⟩ := (place_found hs hp).2 hx.out
    have hV0 : Hid (V name ≠ 0) := (HM.out name).1 hx.out
    have hrow2 : w2.rowIs A 46 2 (fun j => if j = 0 then m else .slice base H.length cap) := rowIs_grown (show (w.drewN q).rowIs A 46 2 _ from hrow) hg (hnr _ _ _ _ hrow)
    have c0' := hrow2.cell (i := 0) (by omega)
    have c1' := hrow2.cell (i := 1) (by omega)
    simp only [if_true, Nat.one_ne_zero, if_false] at c0' c1'
    have hheld2 : HeldAt w2 B base cap H := hheld.grown ((grown_drewN w q row).trans hg) (fun b hb e => by
      obtain ⟨_, t, k', f, hr⟩ := held_row hheld e
      exact hnr b t k' f hr hb.symm)
    have hB2 : Below B w w2 := below_grown ((grown_drewN w q row).trans hg) hBw hrB
    have hkb : (k : Int) < H.length := by omega
    have HHM : Hid (H[k] = name) := hke
    clear hke hg hnr hrB hbal hp hrow hheld
    go_wp2_with fail
    refine (delete_any hheld2 k hkl).mono ?_
    rintro e w3 ⟨rfl, hg3, hheld3⟩
    have hrow3 : w3.rowIs A 46 2 (fun j => if j = 0 then m else .slice base H.length cap) := rowIs_grown hrow2 hg3 (fun e => hbA e.symm)
    have c1'' := hrow3.cell (i := 1) (by omega)
    have f1'' := hrow3.frozen 1
    simp only [Nat.one_ne_zero, if_false] at c1''
    have HF : Hid (Below B w (w3.setCell ⟨A, 1, none⟩ (.slice base (delAt H k).length cap)) ∧ ∃ H', Acc (w3.setCell ⟨A, 1, none⟩ (.slice base (delAt H k).length cap)) B A n H' (upd V name 0) ∧ H'.length ≤ H.length) := by
      rw [if_neg hV0.out] at hbal2
      have hdl := delAt_length hkl
      refine ⟨(hB2.trans (below_grown hg3 (Nat.le_trans hBw hB2.size) (fun b hb => (held_row hheld2 hb).1))).setCell hA _, delAt H k, ⟨hA, ⟨m, base, cap, (hrow3.set 1 _).congr (fun i hi => ?_), hheld3.grown (row := some A) ?_ (fun b hb e => ?_), hbA, ?_⟩, delAt_sorted hs k, fun y => ?_⟩, by omega⟩
      · by_cases e : i = 0
        · subst e; rfl
        · rw [if_pos (by omega), if_neg e]
      · exact grown_setCells w3 A 1 [_]
      · cases hb; exact hbA e
      · have hb3 := hbal2.grown hg3 (fun b hb => (held_row hheld2 hb).2)
        have hb4 := hb3.grown (grown_setCells w3 A 1 [.slice base (delAt H k).length cap]) (fun b hb => by cases hb; exact ⟨_, _, _, hrow3⟩)
        rw [← hdl] at hb4; exact hb4
      · rw [delAt_mem hs hkl HHM.out]
        by_cases e : name = y
        · subst e; rw [upd_same]; exact ⟨fun hc => absurd rfl hc.1, fun hc => absurd rfl hc⟩
        · rw [upd_other _ _ e, ← HM.out y]; exact ⟨fun hc => hc.2, fun hc => ⟨fun e' => e e'.symm, hc⟩⟩
    clear hg3 hheld3 hrow3 hbal2 hrow2 hheld2 hbA hs hB2 hA c0' c1' c0 c1
    generalize (delAt H k).length = dl at *
    go_wp2
    exact bodyPost_ret (v := .tuple #[]) (by simp [results, Tryd.results21, go_sem]) rfl ⟨rfl, HF.out⟩
end Go.Proofs.Qxb6619248aDoor
