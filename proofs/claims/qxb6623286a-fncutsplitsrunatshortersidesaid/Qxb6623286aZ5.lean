import Derived.Test.Qxb6623286aZ4
namespace Go.Proofs.Qxb6623286a
open Go.RowKit

/-- the chunks as a row that can be appended to -/
theorem CRow.toOwn {w : World} {C nc : Nat} {F L : Nat → Int} {N : Nat → Value} (h : CRow w C nc nc F L N) (hm : nc ≤ 1048576) :
    ∃ xs : List Value, w.ownsRow C 44 3 (.slice (some ⟨C, 0, none⟩) nc nc) nc xs ∧ xs.length = nc * 3 ∧ ∀ k, k < nc → xs[k * 3]? = some (.int .i32 (F k)) ∧ xs[k * 3 + 1]? = some (.int .i32 (L k)) ∧ xs[k * 3 + 2]? = some (N k) := by
  obtain ⟨_, f, ⟨c, hb, hn, hc⟩, hf⟩ := h
  refine ⟨c.toList, ⟨by simpa using hn, .inr ⟨C, nc, c, rfl, Nat.le_refl _, hb, Nat.le_refl _, by unfold maxLen; omega, hn, ?_⟩⟩, by simpa using hn, fun k hk => ?_⟩
  · exact List.take_of_length_le (by simp [hn])
  · obtain ⟨e0, e1, e2⟩ := hf k hk
    refine ⟨?_, ?_, ?_⟩
    · rw [Array.getElem?_toList, hc _ (by omega), e0]
    · rw [Array.getElem?_toList, hc _ (by omega), e1]
    · rw [Array.getElem?_toList, hc _ (by omega), e2]
theorem crow_of_own {w : World} {B g m cap : Nat} {ys : List Value} {F L : Nat → Int} {N : Nat → Value} (h : w.ownsRow B 44 3 (.slice (some ⟨g, 0, none⟩) m cap) m ys)
    (hy : ∀ k, k < m → ys[k * 3]? = some (.int .i32 (F k)) ∧ ys[k * 3 + 1]? = some (.int .i32 (L k)) ∧ ys[k * 3 + 2]? = some (N k)) : CRow w g cap m F L N := by
  rcases h.2 with ⟨e, _⟩ | ⟨g', cap', cur, e, _, hh, hmc, _, hs, ht⟩
  · cases e
  · simp only [Value.slice.injEq, Option.some.injEq, Addr.mk.injEq, and_true, true_and] at e
    obtain ⟨rfl, rfl⟩ := e
    have hcur : ∀ i, i < cap * 3 → cur[i]? = some (cur[i]?.getD undef) := fun i hi => by
      have hi' : i < cur.size := by omega
      simp [hi']
    refine ⟨hmc, fun j => cur[j]?.getD undef, ⟨cur, hh, hs, hcur⟩, fun k hk => ?_⟩
    obtain ⟨y0, y1, y2⟩ := hy k hk
    have hget : ∀ j, j < m * 3 → ys[j]? = cur[j]? := fun j hj => by rw [← ht, List.getElem?_take, if_pos hj, Array.getElem?_toList]
    rw [hget _ (by omega)] at y0 y1 y2
    exact ⟨by simp [y0], by simp [y1], by simp [y2]⟩

set_option maxRecDepth 100000 in
set_option maxHeartbeats 2000000 in
/-- a new number -/
theorem new_fresh (w : World) (S M C n nc : Nat) (tv rv : Value) (cl : Int) (mc ms F L : Nat → Int) (N : Nat → Value) (a0 : Option Addr) (scp : Nat) (x : Int)
    (h : St w S M C n nc nc tv rv (.slice a0 0 scp) cl mc ms F L N) (hn : (nc : Int) ≤ 65536) :
    Calls Try.prog 11 #[.pointer (some ⟨S, 0, none⟩), .int .i32 x] w fun e w' => e = .returned (.int .i32 nc) ∧
      ∃ C' cap', St w' S M C' n (nc + 1) cap' tv rv (.slice a0 0 scp) cl mc ms (upd (upd F nc 0) nc x) (upd (upd L nc 0) nc x) (upd (upd N nc (.slice none 0 0)) nc (.slice none 0 0)) ∧ Chg (fun b => b = S ∨ b = C) w w' ∧ (C' = C ∨ w.heap.size ≤ C') := by
  obtain ⟨-, -, s11, s12, s13, -⟩ := h.s.cell
  have f12 := h.s.frozen 12
  have HT := Lib.hid h
  obtain ⟨xs, hown, hxl, hxs⟩ := h.ch.toOwn (by omega)
  have HO := Lib.hid hown
  have HX := Lib.hid hxs
  have HXL := Lib.hid hxl
  have hCl : C < w.heap.size := h.ch.lt
  have hSl : S < w.heap.size := by obtain ⟨f, hr⟩ := h.s.row; exact hr.lt
  have hSC : S ≠ C := h.ne.2.1
  obtain ⟨i0, hi0, hz0, hz1, hz2⟩ := info_parts Try.info44
  clear h hown hxs hxl
  go_enter Try.func11, Try.ntmps11
  go_wp2
  go_quiet (fail)
  go_wp2_with (at_builtin; refine wpList_append_lies _ rfl _ _ 35 rfl C 44 i0 _ 3 32 Try.underlying35 hi0 hz0 hz1 hz2 rfl (by omega) (.slice (some ⟨C, 0, none⟩) nc nc) nc xs rfl (by exact HO.out.alloc _) ⟨w.heap.size, 0, none⟩ 1 1 [.int .i32 0, .int .i32 0, .slice none 0 0] rfl rfl (World.news_of_block (cs := #[.int .i32 0, .int .i32 0, .slice none 0 0]) (t := 44) (fr := (0, 0)) (heap_alloc_new w _)) (by simp [Value.oneCell']) (by omega) (by unfold maxLen; omega) (by omega) (by simp; omega) (w.heap.size + 1) (by simp) ?_; intro gg cap1 w1 hown1 hgrow hat hlt; refine Hid.out ?_)
  refine Lib.hid ?_
  have hg : w.grownBy w1 (some C) := (World.grownBy_alloc w (.cells #[.int .i32 0, .int .i32 0, .slice none 0 0] 44) _).trans ⟨hgrow.os, hgrow.tape, hgrow.output, hgrow.size, hgrow.block⟩
  have HC1 : Hid (CRow w1 gg cap1 (nc + 1) (upd F nc 0) (upd L nc 0) (upd N nc (.slice none 0 0))) := by
    refine crow_of_own hown1 (fun k hk => ?_)
    have hl := HXL.out
    by_cases e : k = nc
    · subst e
      refine ⟨?_, ?_, ?_⟩
      · rw [List.getElem?_append_right (by omega), hl]; simp [upd]
      · rw [List.getElem?_append_right (by omega), hl]; simp [upd]
      · rw [List.getElem?_append_right (by omega), hl]; simp [upd]
    · obtain ⟨x0, x1, x2⟩ := HX.out k (by omega)
      refine ⟨?_, ?_, ?_⟩
      · rw [List.getElem?_append_left (by omega), x0]; simp [upd, e]
      · rw [List.getElem?_append_left (by omega), x1]; simp [upd, e]
      · rw [List.getElem?_append_left (by omega), x2]; simp [upd, e]
  have HS1 : Hid (Sx w1 S tv rv (.slice (some ⟨M, 0, none⟩) n n) (.slice (some ⟨C, 0, none⟩) nc nc) (.slice a0 0 scp) cl) := HT.out.s.grown hg (fun e => hSC (by cases e; rfl))
  have HM1 : Hid (MRow w1 M n mc ms) := rowIs_grown HT.out.m hg (fun e => HT.out.ne.2.2 (by cases e; rfl))
  have HGG : Hid (gg = S ∨ gg = C ∨ w.heap.size ≤ gg) := by
    rcases hat with e | e
    · cases e; exact .inr (.inl rfl)
    · exact .inr (.inr (by omega))
  have HCC : Hid (gg = C ∨ w.heap.size ≤ gg) := by
    rcases hat with e | e
    · cases e; exact .inl rfl
    · exact .inr (by omega)
  have HG1 : Hid (Chg (fun b => b = S ∨ b = C ∨ w.heap.size ≤ b) w w1) := (Chg.refl _ w).grown hg (fun b e _ => by cases e; exact .inr (.inl rfl))
  clear hown1 hgrow hat hlt hg s11 s12 s13 f12 HO HX HXL
  obtain ⟨-, -, -, s12, -, -⟩ := HS1.out.cell
  have f12 := HS1.out.frozen 12
  go_wp2_with (fail)
  obtain ⟨w2, hw2⟩ : ∃ w2, w2 = w1.setCell ⟨S, 12, none⟩ (.slice (some ⟨gg, 0, none⟩) (nc + 1) cap1) := ⟨_, rfl⟩
  have HT2 : Hid (St w2 S M gg n (nc + 1) cap1 tv rv (.slice a0 0 scp) cl mc ms (upd F nc 0) (upd L nc 0) (upd N nc (.slice none 0 0))) := by
    rw [hw2]
    obtain ⟨fS, hfS⟩ := HS1.out.row
    exact ⟨HS1.out.setChunks _, World.rowIs.setOther HM1.out (a := ⟨S, 12, none⟩) (row_ne HM1.out hfS (by decide)) _, HC1.out.other (a := ⟨S, 12, none⟩) (Ne.symm (HC1.out.ne hfS (by decide))) _⟩
  have HG2 : Hid (Chg (fun b => b = S ∨ b = C ∨ w.heap.size ≤ b) w w2) := by rw [hw2]; exact HG1.out.setCell ⟨S, 12, none⟩ (.inl rfl) _
  have HN2 : Hid (upd N nc (.slice none 0 0) nc = .slice none 0 0) := by show upd N nc _ nc = _; simp [upd]
  rw [← hw2]
  clear hw2 s12 f12 HS1 HM1 HC1 HG1 HT
  obtain ⟨-, -, -, t12, -, -⟩ := HT2.out.s.cell
  obtain ⟨q0, q1, q2⟩ := HT2.out.ch.cell (c := nc) (by omega)
  rw [HN2.out] at q2
  have z0 := HT2.out.ch.frozen (nc * 3)
  have z1 := HT2.out.ch.frozen (nc * 3 + 1)
  have z2 := HT2.out.ch.frozen (nc * 3 + 2)
  go_wp2
  go_region
  obtain ⟨w3, hw3⟩ : ∃ w3, w3 = ((w2.setCell ⟨gg, nc * 3, none⟩ (.int .i32 x)).setCell ⟨gg, nc * 3 + 1, none⟩ (.int .i32 x)).drew := ⟨_, rfl⟩
  have HT3 : Hid (St w3 S M gg n (nc + 1) cap1 tv rv (.slice a0 0 scp) cl mc ms (upd (upd F nc 0) nc x) (upd (upd L nc 0) nc x) (upd N nc (.slice none 0 0))) := by rw [hw3]; exact ((HT2.out.setF nc x).setL nc x).drew
  have HG3 : Hid (Chg (fun b => b = S ∨ b = C ∨ w.heap.size ≤ b) w w3) := by rw [hw3]; exact (((HG2.out.setCell ⟨gg, nc * 3, none⟩ HGG.out _).setCell ⟨gg, nc * 3 + 1, none⟩ HGG.out _).drewN 1)
  rw [← hw3]
  clear hw3 t12 q0 q1 q2 z0 z1 z2 HT2 HG2
  obtain ⟨-, -, -, t12, -, -⟩ := HT3.out.s.cell
  obtain ⟨-, -, q2⟩ := HT3.out.ch.cell (c := nc) (by omega)
  rw [HN2.out] at q2
  have z2 := HT3.out.ch.frozen (nc * 3 + 2)
  have hsl := fun wx => slice0 wx none 0 0
  go_wp2
  go_region
  obtain ⟨w4, hw4⟩ : ∃ w4, w4 = (w3.setCell ⟨gg, nc * 3 + 2, none⟩ (.slice none 0 0)).drew := ⟨_, rfl⟩
  have HT4 : Hid (St w4 S M gg n (nc + 1) cap1 tv rv (.slice a0 0 scp) cl mc ms (upd (upd F nc 0) nc x) (upd (upd L nc 0) nc x) (upd (upd N nc (.slice none 0 0)) nc (.slice none 0 0))) := by rw [hw4]; exact (HT3.out.setN nc _).drew
  have HG4 : Hid (Chg (fun b => b = S ∨ b = C ∨ w.heap.size ≤ b) w w4) := by rw [hw4]; exact ((HG3.out.setCell ⟨gg, nc * 3 + 2, none⟩ HGG.out _).drewN 1)
  rw [← hw4]
  clear hw4 t12 q2 z2 hsl HT3 HG3
  go_wp2
  go_ret
  exact ⟨rfl, gg, cap1, HT4.out, HG4.out.mono (fun b hb h => by
    rcases h with h | h | h
    · exact .inl h
    · exact .inr h
    · omega), HCC.out⟩
end Go.Proofs.Qxb6623286a
