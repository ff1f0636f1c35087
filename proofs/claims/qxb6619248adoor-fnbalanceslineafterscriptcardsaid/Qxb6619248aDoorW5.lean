import Derived.Test.Qxb6619248aDoorW4
import Derived.Test.Qxb6619248aDoorP3
import Derived.Deep.AppendLies
namespace Go.Proofs.Qxb6619248aDoor
open Go.RowKit
open Pl

theorem Tryd.info44 : (Tryd.prog.info? 44).map (fun i => (i.zero, i.size, i.bytes)) = some (some (.agg #[.string ⟨#[]⟩, .int .i64 0]), 2, 24) := by kernel_rfl

theorem ret_slice {a : Option Addr} {m n c : Nat} (h : m = n) : Ending.returned (.slice a m c) = .returned (.slice a n c) := by rw [h]

/-- the cells of the entries -/
def flat : List En → List Value
  | [] => []
  | p :: r => .string p.1 :: .int .i64 p.2 :: flat r
theorem flat_append (l m : List En) : flat (l ++ m) = flat l ++ flat m := by
  induction l with
  | nil => rfl
  | cons p r ih => simp [flat, ih]
theorem flat_length (l : List En) : (flat l).length = l.length * 2 := by
  induction l with
  | nil => rfl
  | cons p r ih => simp [flat, ih]; omega
theorem flat_get : ∀ (l : List En) (t : Nat) (p : En), l[t]? = some p → (flat l)[t * 2]? = some (.string p.1) ∧ (flat l)[t * 2 + 1]? = some (.int .i64 p.2)
  | [], t, p, h => by simp at h
  | q :: r, 0, p, h => by simp at h; subst h; exact ⟨rfl, rfl⟩
  | q :: r, t + 1, p, h => by
    have := flat_get r t p (by simpa using h)
    rw [show (t + 1) * 2 = t * 2 + 1 + 1 by omega]
    simpa [flat] using this

set_option maxRecDepth 100000 in
set_option maxHeartbeats 1000000 in
theorem last_zero (w : World) (a1 a2 : Option Addr) (l1 l2 c1 c2 : Nat) :
    Calls Tryd.prog 17 #[.slice a1 l1 c1, .slice a2 l2 c2, .int .i64 0] w fun e w' => e = .returned (.slice none 0 0) ∧ w' = w := by
  go_enter Tryd.func17, Tryd.ntmps17
  go_wp2
  refine wp_loop_rounds 1 ?_
  rw [rounds_succ]
  go_wp2
  refine wp_loop_rounds 1 ?_
  rw [rounds_succ]
  go_wp2
  go_ret
  exact ⟨rfl, rfl⟩

/-- where the entries lie -/
def WantAt (w : World) (B : Nat) (base : Option Addr) (W : List En) : Prop :=
  0 < W.length → ∃ g, base = some ⟨g, 0, none⟩ ∧ B ≤ g ∧ g < w.heap.size ∧ ∀ t p, W[t]? = some p → w.cell? ⟨g, t * 2, none⟩ = some (.string p.1) ∧ w.cell? ⟨g, t * 2 + 1, none⟩ = some (.int .i64 p.2)

/-- the entries while they are sorted -/
def SortAt (w : World) (g cap : Nat) (L : List En) : Prop :=
  ∃ f, w.rowIs g 44 (cap * 2) f ∧ L.length ≤ cap ∧ ∀ t p, L[t]? = some p → f (t * 2) = .string p.1 ∧ f (t * 2 + 1) = .int .i64 p.2
theorem SortAt.cells {w : World} {g cap : Nat} {L : List En} (h : SortAt w g cap L) {t : Nat} {p : En} (hp : L[t]? = some p) : w.cell? ⟨g, t * 2, none⟩ = some (.string p.1) ∧ w.cell? ⟨g, t * 2 + 1, none⟩ = some (.int .i64 p.2) := by
  obtain ⟨f, hr, hl, hc⟩ := h
  have ht := (List.getElem?_eq_some_iff.1 hp).1
  rw [hr.cell (by omega), hr.cell (by omega), (hc t p hp).1, (hc t p hp).2]; exact ⟨rfl, rfl⟩
theorem SortAt.grown {w w' : World} {g cap : Nat} {L : List En} {row : Option Nat} (h : SortAt w g cap L) (hg : w.grownBy w' row) (hne : some g ≠ row) : SortAt w' g cap L := by
  obtain ⟨f, hr, hl, hc⟩ := h
  exact ⟨f, rowIs_grown hr hg hne, hl, hc⟩
theorem SortAt.frozen {w : World} {g cap : Nat} {L : List En} (h : SortAt w g cap L) (o : Nat) : w.frozen? ⟨g, o, none⟩ = false := by
  obtain ⟨f, hr, hl, hc⟩ := h
  exact hr.frozen o
theorem SortAt.lt {w : World} {g cap : Nat} {L : List En} (h : SortAt w g cap L) : g < w.heap.size := by
  obtain ⟨f, hr, hl, hc⟩ := h
  exact hr.lt

/-- the same, element by element -/
def SortF (w : World) (g cap : Nat) (F : Nat → Option En) : Prop :=
  ∃ f, w.rowIs g 44 (cap * 2) f ∧ ∀ t p, t < cap → F t = some p → f (t * 2) = .string p.1 ∧ f (t * 2 + 1) = .int .i64 p.2
theorem SortAt.toF {w : World} {g cap : Nat} {L : List En} (h : SortAt w g cap L) : SortF w g cap (fun t => L[t]?) := by
  obtain ⟨f, hr, hl, hc⟩ := h
  exact ⟨f, hr, fun t p _ hp => hc t p hp⟩
theorem SortF.toAt {w : World} {g cap : Nat} {F : Nat → Option En} {L : List En} (h : SortF w g cap F) (hl : L.length ≤ cap) (he : ∀ t p, L[t]? = some p → F t = some p) : SortAt w g cap L := by
  obtain ⟨f, hr, hc⟩ := h
  exact ⟨f, hr, hl, fun t p hp => hc t p (by have := (List.getElem?_eq_some_iff.1 hp).1; omega) (he t p hp)⟩
theorem SortF.congr {w : World} {g cap : Nat} {F G : Nat → Option En} (h : SortF w g cap F) (he : ∀ t p, t < cap → G t = some p → F t = some p) : SortF w g cap G := by
  obtain ⟨f, hr, hc⟩ := h
  exact ⟨f, hr, fun t p ht hp => hc t p ht (he t p ht hp)⟩
theorem SortF.cells {w : World} {g cap : Nat} {F : Nat → Option En} (h : SortF w g cap F) {t : Nat} {p : En} (ht : t < cap) (hp : F t = some p) : w.cell? ⟨g, t * 2, none⟩ = some (.string p.1) ∧ w.cell? ⟨g, t * 2 + 1, none⟩ = some (.int .i64 p.2) := by
  obtain ⟨f, hr, hc⟩ := h
  rw [hr.cell (by omega), hr.cell (by omega), (hc t p ht hp).1, (hc t p ht hp).2]; exact ⟨rfl, rfl⟩
theorem SortF.frozen {w : World} {g cap : Nat} {F : Nat → Option En} (h : SortF w g cap F) (o : Nat) : w.frozen? ⟨g, o, none⟩ = false := by
  obtain ⟨f, hr, hc⟩ := h
  exact hr.frozen o
theorem SortF.lt {w : World} {g cap : Nat} {F : Nat → Option En} (h : SortF w g cap F) : g < w.heap.size := by
  obtain ⟨f, hr, hc⟩ := h
  exact hr.lt
theorem SortF.grown {w w' : World} {g cap : Nat} {F : Nat → Option En} {row : Option Nat} (h : SortF w g cap F) (hg : w.grownBy w' row) (hne : some g ≠ row) : SortF w' g cap F := by
  obtain ⟨f, hr, hc⟩ := h
  exact ⟨f, rowIs_grown hr hg hne, hc⟩
theorem SortF.store {w : World} {g cap : Nat} {F : Nat → Option En} (h : SortF w g cap F) (t : Nat) (p : En) :
    SortF ((w.setCell ⟨g, t * 2, none⟩ (.string p.1)).setCell ⟨g, t * 2 + 1, none⟩ (.int .i64 p.2)) g cap (fun u => if u = t then some p else F u) := by
  obtain ⟨f, hr, hc⟩ := h
  refine ⟨_, (hr.set _ _).set _ _, fun u q hu hq => ?_⟩
  by_cases e : u = t
  · subst e
    simp only [if_true, Option.some.injEq] at hq
    subst hq
    rw [if_neg (by omega), if_pos rfl, if_pos rfl]; exact ⟨rfl, rfl⟩
  · simp only [if_neg e] at hq
    obtain ⟨a, b⟩ := hc u q hu hq
    rw [if_neg (by omega), if_neg (by omega), if_neg (by omega), if_neg (by omega)]; exact ⟨a, b⟩

theorem SortF.drewN {w : World} {g cap : Nat} {F : Nat → Option En} (h : SortF w g cap F) (q : Nat) : SortF (w.drewN q) g cap F := h.grown (grown_drewN w q none) (by simp)

/-- what stands while the place of element k is sought: everything from d on has moved up -/
def Shift (L : List En) (k d : Nat) : Nat → Option En := fun t => if t ≤ d then L[t]? else if t ≤ k then L[t - 1]? else L[t]?

theorem sort_close {w0 w : World} {B g cap m k d q : Nat} {L M : List En} (hB : Below B w0 w) (hgB : B ≤ g) (hF : SortF w g cap (Shift L k d)) (hlen : L.length = m) (hmc : m ≤ cap) (hp : L.Perm M) (hk : k < L.length) (hd : d ≤ k)
    (hs : (L.take k).Pairwise le) (hhi : ∀ t, d ≤ t → t < k → ∀ p, L[t]? = some p → lt L[k].1 p.1) (hlo : 0 < d → ∀ p, L[d - 1]? = some p → le p L[k]) :
    Below B w0 (((w.drewN q).setCell ⟨g, d * 2, none⟩ (.string L[k].1)).setCell ⟨g, d * 2 + 1, none⟩ (.int .i64 L[k].2)) ∧
    SortAt (((w.drewN q).setCell ⟨g, d * 2, none⟩ (.string L[k].1)).setCell ⟨g, d * 2 + 1, none⟩ (.int .i64 L[k].2)) g cap (put L k d L[k]) ∧
    (put L k d L[k]).length = m ∧ (put L k d L[k]).Perm M ∧ ((put L k d L[k]).take (k + 1)).Pairwise le := by
  refine ⟨((below_drewN hB q).setCell hgB _).setCell hgB _, ?_, by rw [put_length L hk hd, hlen], (put_perm L hk hd).trans hp, put_sorted L hk hd hs hhi hlo⟩
  refine ((hF.drewN q).store d L[k]).toAt (by rw [put_length L hk hd]; omega) (fun t p hp => ?_)
  rw [put_get L hk hd] at hp
  simp only [Shift]
  by_cases e1 : t = d
  · subst e1; rw [if_neg (by omega), if_pos rfl] at hp; rw [if_pos rfl]; exact hp
  · rw [if_neg e1]
    by_cases e2 : t < d
    · rw [if_pos e2] at hp; rw [if_pos (by omega)]; exact hp
    · rw [if_neg e2, if_neg e1] at hp; rw [if_neg (by omega)]; exact hp

theorem shift_step {w0 w : World} {B g cap k d q : Nat} {L : List En} (hB : Below B w0 w) (hgB : B ≤ g) (hF : SortF w g cap (Shift L k d)) (hd0 : 0 < d) (hd : d ≤ k) (hk : k < L.length) :
    Below B w0 (((w.drewN q).setCell ⟨g, d * 2, none⟩ (.string (L[d - 1]'(by omega)).1)).setCell ⟨g, d * 2 + 1, none⟩ (.int .i64 (L[d - 1]'(by omega)).2)) ∧
    SortF (((w.drewN q).setCell ⟨g, d * 2, none⟩ (.string (L[d - 1]'(by omega)).1)).setCell ⟨g, d * 2 + 1, none⟩ (.int .i64 (L[d - 1]'(by omega)).2)) g cap (Shift L k (d - 1)) := by
  refine ⟨((below_drewN hB q).setCell hgB _).setCell hgB _, ((hF.drewN q).store d (L[d - 1]'(by omega))).congr (fun t p _ hp => ?_)⟩
  simp only [Shift] at hp ⊢
  by_cases e1 : t = d
  · subst e1
    rw [if_neg (by omega), if_pos hd, List.getElem?_eq_getElem (by omega)] at hp
    rw [if_pos rfl]; exact hp
  · rw [if_neg e1]
    by_cases e2 : t < d
    · rw [if_pos (by omega)] at hp; rw [if_pos (by omega)]; exact hp
    · rw [if_neg (by omega)] at hp; rw [if_neg (by omega)]; exact hp

theorem lastB_true_of {names : Nat → Nm} {n c : Nat} (h : ∀ t, c < t → t < n → names t ≠ names c) : lastB names n c = true := (lastB_iff names n c).2 h
theorem lastB_false_of {names : Nat → Nm} {n c t : Nat} (h1 : c < t) (h2 : t < n) (h : names t = names c) : lastB names n c = false := by
  rw [Bool.eq_false_iff]; intro hc; exact (lastB_iff names n c).1 hc t h1 h2 h
theorem cand_yes {names : Nat → Nm} {vals : Nat → Int} {n c : Nat} (h : lastB names n c = true) (hv : vals c ≠ 0) : cand names vals n (c + 1) = cand names vals n c ++ [(names c, vals c)] := by
  have : (lastB names n c && vals c != 0) = true := by rw [h]; simpa using hv
  rw [cand, if_pos this]
theorem cand_no {names : Nat → Nm} {vals : Nat → Int} {n c : Nat} (h : lastB names n c = false ∨ vals c = 0) : cand names vals n (c + 1) = cand names vals n c := by
  have : (lastB names n c && vals c != 0) = false := by
    rcases h with h | h
    · rw [h]; rfl
    · rw [h]; simp
  rw [cand, this]; simp

set_option maxRecDepth 100000 in
set_option maxHeartbeats 2000000 in
theorem last_pos (w : World) (nb no vb vo l1 l2 c1 c2 n : Nat) (names : Nat → Nm) (vals : Nat → Int) (hn : n ≤ 4096) (h1 : n ≤ l1) (h2 : n ≤ l2) (hnb : nb < w.heap.size) (hvb : vb < w.heap.size)
    (s1 : ∀ k, k < n → w.cell? ⟨nb, no + k, none⟩ = some (.string (names k))) (s2 : ∀ k, k < n → w.cell? ⟨vb, vo + k, none⟩ = some (.int .i64 (vals k))) :
    Calls Tryd.prog 17 #[.slice (some ⟨nb, no, none⟩) l1 c1, .slice (some ⟨vb, vo, none⟩) l2 c2, .int .i64 n] w fun e w' => ∃ (base : Option Addr) (cap : Nat) (W : List En), e = .returned (.slice base W.length cap) ∧ Below w.heap.size w w' ∧ W.Perm (cand names vals n n) ∧ W.Pairwise le ∧ WantAt w' w.heap.size base W := by
  obtain ⟨i0, hi0, hz0, hz1, hz2⟩ := info_parts Tryd.info44
  have S1 : Hid (∀ k, k < n → w.cell? ⟨nb, no + k, none⟩ = some (.string (names k))) := s1
  have S2 : Hid (∀ k, k < n → w.cell? ⟨vb, vo + k, none⟩ = some (.int .i64 (vals k))) := s2
  clear s1 s2
  go_enter Tryd.func17, Tryd.ntmps17
  go_wp2
  go_loopw [7, 8] (fun out i wr => ∃ (c : Nat), c ≤ n ∧ i = .int .i64 c ∧ Hid (Below w.heap.size w wr ∧ wr.ownsRow w.heap.size 44 2 out (cand names vals n c).length (flat (cand names vals n c)))) (fun _ i _ => n - (intOf i).toNat)
  case atStart => exact ⟨0, Nat.zero_le _, rfl, Below.refl _ _, World.ownsRow_nil _ _ _ _⟩
  case round =>
    obtain ⟨c, hc, rfl, hR⟩ := hrel
    by_cases hlt : c < n
    · have b0 : (c : Int) < n := by omega
      have b1 : (c : Int) < l1 := by omega
      have b2 : (c : Int) < l2 := by omega
      have g1 : wr.cell? ⟨nb, no + c, none⟩ = some (.string (names c)) := by rw [hR.out.1.cell (p := ⟨nb, no + c, none⟩) hnb]; exact S1.out c hlt
      have g2 : wr.cell? ⟨vb, vo + c, none⟩ = some (.int .i64 (vals c)) := by rw [hR.out.1.cell (p := ⟨vb, vo + c, none⟩) hvb]; exact S2.out c hlt
      go_wp2
      go_loopw [9, 10] (fun last j wx => ∃ (d q : Nat), c + 1 ≤ d ∧ d ≤ n ∧ j = .int .i64 d ∧ last = .bool true ∧ wx = wr.drewN q ∧ Hid (∀ t, c < t → t < d → names t ≠ names c)) (fun _ j _ => n - (intOf j).toNat)
      case atStart => exact ⟨c + 1, 0, Nat.le_refl _, by omega, by go_num, rfl, rfl, fun t h1 h2 => absurd h2 (by omega)⟩
      case round =>
        obtain ⟨d, q, hd1, hd2, rfl, rfl, rfl, hN⟩ := hrel
        by_cases hdn : d < n
        · have bd : (d : Int) < n := by omega
          have bd1 : (d : Int) < l1 := by omega
          have g3 : wr.cell? ⟨nb, no + d, none⟩ = some (.string (names d)) := by rw [hR.out.1.cell (p := ⟨nb, no + d, none⟩) hnb]; exact S1.out d hdn
          by_cases heq : ((names d).toList == (names c).toList) = true
          · have hE : Hid (cand names vals n (c + 1) = cand names vals n c) := cand_no (.inl (lastB_false_of (by omega) hdn ((beq_iff _ _).1 heq)))
            go_wp2
            go_quiet (fail)
            go_wp2
            go_roundw
            case rel => exact ⟨c + 1, by omega, by go_num, by rw [hE.out]; exact ⟨below_drewN hR.out.1 _, hR.out.2⟩⟩
            case measure => simp [intOf]; omega
          · have heq' : ((names d).toList == (names c).toList) = false := by simpa using heq
            have hN' : Hid (∀ t, c < t → t < d + 1 → names t ≠ names c) := fun t ht1 ht2 => by
              by_cases e : t = d
              · subst e; exact fun hc => heq ((beq_iff _ _).2 hc)
              · exact hN.out t ht1 (by omega)
            clear heq
            go_wp2
            go_quiet (fail)
            go_wp2
            go_roundw
            case rel => exact ⟨d + 1, _, by omega, by omega, by go_num, rfl, rfl, hN'⟩
            case measure => simp [intOf]; omega
        · have hdn' : d = n := by omega
          subst hdn'
          have hL : Hid (lastB names d c = true) := lastB_true_of hN.out
          by_cases hv : vals c = 0
          · have hE : Hid (cand names vals d (c + 1) = cand names vals d c) := cand_no (.inr hv)
            have hv' : (vals c != 0) = false := by simpa using hv
            clear hv
            go_wp2
            go_roundw
            case rel => exact ⟨c + 1, by omega, by go_num, by rw [hE.out]; exact ⟨below_drewN hR.out.1 _, hR.out.2⟩⟩
            case measure => simp [intOf]; omega
          · have hE : Hid (cand names vals d (c + 1) = cand names vals d c ++ [(names c, vals c)]) := cand_yes hL.out hv
            have hv' : (vals c != 0) = true := by simpa using hv
            clear hv
            go_wp2
            have hown : wr.ownsRow w.heap.size 44 2 u7 (cand names vals d c).length (flat (cand names vals d c)) := hR.out.2
            have hcl : (cand names vals d c).length ≤ 4096 := Nat.le_trans (cand_len names vals d c) (by omega)
            have hbw : w.heap.size ≤ wr.heap.size := hR.out.1.size
            have an : u7.ownBlock ≠ some nb := fun e => by have := (hown.lt nb e).1; omega
            have av : u7.ownBlock ≠ some vb := fun e => by have := (hown.lt vb e).1; omega
            have lk : nb < wr.heap.size := by omega
            have lv : vb < wr.heap.size := by omega
            have HO : Hid (wr.ownsRow w.heap.size 44 2 u7 (cand names vals d c).length (flat (cand names vals d c))) := hown
            have HR : Hid (Below w.heap.size w wr) := hR.out.1
            clear hown hR hN S1 S2
            go_region_held3 (fun w' => w'.cell? ⟨nb, no + c, none⟩ = some (.string (names c)) ∧ w'.cell? ⟨vb, vo + c, none⟩ = some (.int .i64 (vals c)))
              (first
                | go_keep
                | (go_split_ands
                   refine ⟨?_, ?_⟩
                   · (rw [hgrow.cell_far _ (by simp; omega) (Ne.symm an)]; assumption)
                   · (rw [hgrow.cell_far _ (by simp; omega) (Ne.symm av)]; assumption)))
              ((refine step_append_lies _ (by rfl) _ _ _ (by rfl) w.heap.size 44 i0 _ 2 24 Tryd.underlying41 hi0 hz0 hz1 hz2 rfl (by omega) u7 (cand names vals d c).length (flat (cand names vals d c)) (by rfl) (by exact HO.out.alloc _)
                  ⟨wr.heap.size, 0, none⟩ 1 1 [.string (names c), .int .i64 (vals c)] (by rfl) (by rfl) (World.news_of_block (cs := #[.string (names c), .int .i64 (vals c)]) (t := 44) (fr := (0, 0)) (heap_alloc_new wr _)) (by simp [Value.oneCell'])
                  (by omega) (by unfold maxLen; omega) (by omega) (by simp; omega) (wr.heap.size + 1) (by simp) ?_; intro gg cap w1 hown1 hgrow hat hlt))
            have HF : Hid (Below w.heap.size w w1 ∧ w1.ownsRow w.heap.size 44 2 (.slice (some ⟨gg, 0, none⟩) ((cand names vals d c).length + 1) cap) (cand names vals d (c + 1)).length (flat (cand names vals d (c + 1)))) := by
              refine ⟨HR.out.trans (((below_drewN (Below.refl _ wr) (q + 1)).alloc hbw _).trans ((Below.refl _ _).grown hgrow (by simp; omega) (fun k hk => (HO.out.lt k hk).1))), ?_⟩
              rw [hE.out, flat_append, List.length_append]
              exact hown1
            clear hown1 hgrow hat hlt HO HR g1 g2 an av
            go_wp2
            go_roundw
            case rel => exact ⟨c + 1, by omega, by go_num, HF⟩
            case measure => simp [intOf]; omega
    · have ec : c = n := by omega
      subst ec
      obtain ⟨m, hm⟩ : ∃ m, m = (cand names vals c c).length := ⟨_, rfl⟩
      have hmle : m ≤ 4096 := by rw [hm]; exact Nat.le_trans (cand_len names vals c c) hn
      obtain ⟨hB, hlen, hforms⟩ := hR.out
      rw [← hm] at hforms hlen
      rcases hforms with ⟨rfl, hm0⟩ | ⟨g, cap, cur, rfl, hgB, hg, hmc, hcm, hcs, htk⟩
      · have HF : Hid (Below w.heap.size w wr) := hB
        have hW : Hid (cand names vals c c = []) := by
          apply List.eq_nil_of_length_eq_zero; omega
        clear hR hB hlen hm hm0 hmle S1 S2
        go_wp2
        refine wp_loop_rounds 1 ?_
        rw [rounds_succ]
        go_wp2
        go_ret
        exact ⟨none, 0, [], rfl, HF.out, by rw [hW.out], List.Pairwise.nil, fun h => absurd h (by simp)⟩
      · have hS0 : SortAt wr g cap (cand names vals c c) := by
          refine ⟨fun i => cur[i]?.getD default, ⟨cur, hg, hcs, fun i hi => by simp [hcs, hi]⟩, by rw [← hm]; exact hmc, fun t p hp => ?_⟩
          obtain ⟨f1, f2⟩ := flat_get _ t p hp
          have hcur : ∀ j v, (flat (cand names vals c c))[j]? = some v → cur[j]? = some v := fun j v hj => by
            rw [← htk] at hj
            rw [List.getElem?_take] at hj
            split at hj
            · simpa using hj
            · cases hj
          simp only [hcur _ _ f1, hcur _ _ f2, Option.getD_some, and_self]
        have HC : Hid (m = (cand names vals c c).length) := hm
        have H0 : Hid (Below w.heap.size w wr ∧ SortAt wr g cap (cand names vals c c)) := ⟨hB, hS0⟩
        clear hR hB hlen hm S1 S2 hg hcs htk hS0 hcm
        go_wp2
        go_loopw [11] (fun i wx => ∃ (k : Nat) (L : List En), 1 ≤ k ∧ (k ≤ m ∨ k = 1) ∧ i = .int .i64 k ∧ Hid (Below w.heap.size w wx ∧ SortAt wx g cap L ∧ L.length = m ∧ L.Perm (cand names vals c c) ∧ (L.take k).Pairwise le)) (fun i _ => m + 1 - (intOf i).toNat)
        case atStart =>
          refine ⟨1, cand names vals c c, Nat.le_refl _, .inr rfl, rfl, H0.out.1, H0.out.2, HC.out.symm, List.Perm.refl _, ?_⟩
          cases cand names vals c c with
          | nil => exact List.Pairwise.nil
          | cons p r => simp
        case round =>
          rename_i wx
          obtain ⟨k, L, hk1, hk2, rfl, hR⟩ := hrel
          by_cases hkm : k < m
          · have bk : (k : Int) < m := by omega
            have hkl : k < L.length := by have := hR.out.2.2.1; omega
            obtain ⟨e1, e2⟩ := hR.out.2.1.cells (List.getElem?_eq_getElem hkl)
            go_wp2
            have hgx := hR.out.2.1.lt
            go_loopw [13] (fun j wy => ∃ (d : Nat), d ≤ k ∧ j = .int .i64 d ∧ Hid (Below w.heap.size w wy ∧ wy.rowIs wr.heap.size 44 2 (fun i => if i = 0 then .string L[k].1 else .int .i64 L[k].2) ∧
                SortF wy g cap (Shift L k d) ∧ ∀ t, d ≤ t → t < k → ∀ p, L[t]? = some p → lt L[k].1 p.1)) (fun j _ => (intOf j).toNat)
            case atStart =>
              refine ⟨k, Nat.le_refl _, rfl, hR.out.1.alloc hR.out.1.size _, (rowIs_new wr #[.string L[k].1, .int .i64 L[k].2] 44).congr (fun i hi => ?_), (hR.out.2.1.toF.grown (World.grownBy_alloc _ _ none) (by simp)).congr (fun t p _ hp => ?_), fun t h1 h2 => absurd h2 (by omega)⟩
              · have : i < 2 := hi
                match i, this with
                | 0, _ => rfl
                | 1, _ => rfl
              · simp only [Shift] at hp
                by_cases e1 : t ≤ k
                · rw [if_pos e1] at hp; exact hp
                · rw [if_neg e1, if_neg e1] at hp; exact hp
            case round =>
              rename_i wy
              obtain ⟨d, hdk, rfl, hY⟩ := hrel
              have e0' := hY.out.2.1.cell (i := 0) (by omega)
              have e1' := hY.out.2.1.cell (i := 1) (by omega)
              simp only [if_true, Nat.one_ne_zero, if_false] at e0' e1'
              have hdl : d < L.length := by omega
              obtain ⟨x0, x1⟩ := hY.out.2.2.1.cells (t := d) (p := L[d]) (by have := hR.out.2.2.1; omega) (by simp only [Shift]; rw [if_pos (Nat.le_refl _)]; exact List.getElem?_eq_getElem hdl)
              have fz0 := hY.out.2.2.1.frozen (d * 2)
              have fz1 := hY.out.2.2.1.frozen (d * 2 + 1)
              have bd : (d : Int) < m := by omega
              by_cases hd0 : d = 0
              · have hdd : decide ((0 : Int) < (d : Int)) = false := decide_eq_false (by omega)
                have hdd' : decide (0 < d) = false := decide_eq_false (by omega)
                have hd1 : ¬ 0 < d := by omega
                have HF := fun (nq : Nat) => (show Hid _ from sort_close (q := nq) hY.out.1 hgB hY.out.2.2.1 hR.out.2.2.1 hmc hR.out.2.2.2.1 hkl hdk hR.out.2.2.2.2 hY.out.2.2.2 (fun h => absurd h (by omega)))
                clear hd0 hY hR
                go_wp2
                go_quiet (fail)
                go_wp2
                exact ⟨⟨k + 1, put L k d L[k], by omega, .inl (by omega), by go_num, HF _⟩, by simp [intOf]; omega⟩
              · have hdl1 : d - 1 < L.length := by omega
                obtain ⟨y0, y1⟩ := hY.out.2.2.1.cells (t := d - 1) (p := L[d - 1]) (by have := hR.out.2.2.1; omega) (by simp only [Shift]; rw [if_pos (by omega)]; exact List.getElem?_eq_getElem hdl1)
                have p0 : (0 : Int) < d := by omega
                have p0' : decide ((0 : Int) < (d : Int)) = true := decide_eq_true p0
                have p0'' : 0 < d := by omega
                have p1 : ((d : Int) - 1).toNat = d - 1 := by omega
                have p2 : (d : Int) - 1 < m := by omega
                have p3 : (0 : Int) ≤ (d : Int) - 1 := by omega
                by_cases hgt : (Op.bytesLess L[d - 1].1.toList L[k].1.toList || L[d - 1].1.toList == L[k].1.toList) = true
                · have HF := fun (nq : Nat) => (show Hid _ from sort_close (q := nq) hY.out.1 hgB hY.out.2.2.1 hR.out.2.2.1 hmc hR.out.2.2.2.1 hkl hdk hR.out.2.2.2.2 hY.out.2.2.2 (fun _ p hp hc => by
                    rw [List.getElem?_eq_getElem hdl1] at hp
                    cases hp
                    rcases Bool.or_eq_true_iff.1 hgt with h | h
                    · exact lt_asymm ((less_iff _ _).1 h) hc
                    · rw [(beq_iff _ _).1 h] at hc; exact lt_irrefl _ hc))
                  clear hd0 hY hR
                  go_wp2
                  go_quiet (fail)
                  go_wp2
                  exact ⟨⟨k + 1, put L k d L[k], by omega, .inl (by omega), by go_num, HF _⟩, by simp [intOf]; omega⟩
                · have hgt' : (Op.bytesLess L[d - 1].1.toList L[k].1.toList || L[d - 1].1.toList == L[k].1.toList) = false := by simpa using hgt
                  have hlt' : lt L[k].1 L[d - 1].1 := by
                    obtain ⟨h1, h2⟩ := Bool.or_eq_false_iff.1 hgt'
                    apply Classical.byContradiction; intro hc
                    have hn1 : ¬ lt L[d - 1].1 L[k].1 := fun h => by rw [(less_iff _ _).2 h] at h1; cases h1
                    have := lt_tri hc hn1
                    rw [← this] at h2; simp at h2
                  have HF := fun (nq : Nat) => (show Hid _ from shift_step (q := nq) hY.out.1 hgB hY.out.2.2.1 p0'' hdk hkl)
                  have HH : Hid (∀ t, d - 1 ≤ t → t < k → ∀ p, L[t]? = some p → lt L[k].1 p.1) := fun t ht1 ht2 p hp => by
                    by_cases e : t = d - 1
                    · subst e; rw [List.getElem?_eq_getElem hdl1] at hp; cases hp; exact hlt'
                    · exact hY.out.2.2.2 t (by omega) ht2 p hp
                  have HE := fun (nq : Nat) => (show Hid _ from (((show (wr.drewN nq).rowIs _ 44 2 _ from hY.out.2.1).setOther (a := ⟨g, d * 2, none⟩) (by exact (Nat.ne_of_gt hgx)) (.string L[d - 1].1)).setOther (a := ⟨g, d * 2 + 1, none⟩) (by exact (Nat.ne_of_gt hgx)) (.int .i64 L[d - 1].2)))
                  clear hd0 hY hR hlt' hgt
                  go_wp2
                  go_quiet (fail)
                  go_wp2
                  exact ⟨⟨d - 1, by omega, by congr 1; omega, (HF _).out.1, (HE _).out, (HF _).out.2, HH.out⟩, by simp [intOf]; omega⟩
          · have hLk : L.take k = L := List.take_of_length_le (by have := hR.out.2.2.1; omega)
            have HF : Hid (Below w.heap.size w wr ∧ L.Perm (cand names vals c c) ∧ L.Pairwise le ∧ WantAt wr w.heap.size (some ⟨g, 0, none⟩) L ∧ L.length = m) := by
              obtain ⟨f1, f2, f3, f4, f5⟩ := hR.out
              rw [hLk] at f5
              exact ⟨f1, f4, f5, fun _ => ⟨g, rfl, hgB, f2.lt, fun t p hp => f2.cells hp⟩, f3⟩
            clear hR hLk
            go_wp2
            go_ret
            exact ⟨some ⟨g, 0, none⟩, cap, L, ret_slice HF.out.2.2.2.2.symm, HF.out.1, HF.out.2.1, HF.out.2.2.1, HF.out.2.2.2.1⟩

/-- zzLastNonzero, whatever the two slices -/
theorem last_any (w : World) (a1 a2 : Option Addr) (l1 l2 c1 c2 n : Nat) (names : Nat → Nm) (vals : Nat → Int) (h : Came w a1 a2 l1 l2 n names vals) :
    Calls Tryd.prog 17 #[.slice a1 l1 c1, .slice a2 l2 c2, .int .i64 n] w fun e w' => ∃ (base : Option Addr) (cap : Nat) (W : List En), e = .returned (.slice base W.length cap) ∧ Below w.heap.size w w' ∧ W.Perm (cand names vals n n) ∧ W.Pairwise le ∧ WantAt w' w.heap.size base W := by
  by_cases hn : n = 0
  · subst hn
    refine (last_zero w a1 a2 l1 l2 c1 c2).mono ?_
    rintro e w' ⟨rfl, rfl⟩
    exact ⟨none, 0, [], rfl, Below.refl _ _, List.Perm.refl _, List.Pairwise.nil, fun h => absurd h (by simp)⟩
  · obtain ⟨b, o, rfl, hb, s1⟩ := h.s1 (by omega)
    obtain ⟨b', o', rfl, hb', s2⟩ := h.s2 (by omega)
    exact last_pos w b o b' o' l1 l2 c1 c2 n names vals h.hn h.h1 h.h2 hb hb' s1 s2
end Go.Proofs.Qxb6619248aDoor
