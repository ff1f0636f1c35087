import Derived.Test.Qxb6623286aXa
namespace Go.Proofs.Qxb6623286a
open Go.RowKit

theorem SpareIs.i32 {w : World} {sv : Value} {ns : Nat} {sp : Nat → Int} {B : Nat} (h : SpareIs w sv ns sp B) (hB : B ≤ w.heap.size) : I32 w sv ns sp := by
  by_cases h0 : ns = 0
  · obtain ⟨a, cp, e⟩ := h.nil h0
    exact ⟨a, cp, by rw [e, h0], fun hp => absurd hp (by omega)⟩
  · obtain ⟨b, cp, e, _, _, hlt, hc⟩ := h.row (by omega)
    exact ⟨_, cp, e, fun _ => ⟨b, 0, rfl, by omega, fun k hk => by rw [Nat.zero_add]; exact hc k hk⟩⟩
theorem I32.less {w : World} {a : Option Addr} {c n n' : Nat} {f : Nat → Int} (h : I32 w (.slice a n c) n f) (hn : n' ≤ n) : I32 w (.slice a n' c) n' f := by
  obtain ⟨_, _, e, hc⟩ := h
  cases e
  refine ⟨a, c, rfl, fun h0 => ?_⟩
  obtain ⟨b, o, e, hlt, hcell⟩ := hc (by omega)
  exact ⟨b, o, e, hlt, fun k hk => hcell k (by omega)⟩
theorem own_i32 {w : World} {B m : Nat} {v : Value} {f : Nat → Int} (h : w.ownsRow B 21 1 v m ((List.range m).map (fun i => .int .i32 (f i)))) : I32 w v m f := by
  obtain ⟨_, ⟨e, h0⟩ | ⟨g, cap, cur, e, _, hc, _, _, hs, ht⟩⟩ := h
  · exact ⟨none, 0, by rw [e, h0], fun hp => absurd hp (by omega)⟩
  · refine ⟨_, _, e, fun _ => ⟨g, 0, rfl, ?_, fun k hk => ?_⟩⟩
    · exact (Array.getElem?_eq_some_iff.1 hc).1
    · unfold World.cell?
      rw [hc]
      have h1 : cur.toList[k]? = some (.int .i32 (f k)) := by
        have h2 : (cur.toList.take (m * 1))[k]? = cur.toList[k]? := by rw [List.getElem?_take]; simp [hk]
        rw [← h2, ht]; simp [hk]
      simp at h1
      simp [h1]
theorem row_i32 {w : World} {b n : Nat} {f : Nat → Int} {c : Nat} (h : w.rowIs b 21 n (fun j => .int .i32 (f j))) : I32 w (.slice (some ⟨b, 0, none⟩) n c) n f :=
  ⟨_, _, rfl, fun _ => ⟨b, 0, rfl, h.lt, fun k hk => by rw [Nat.zero_add]; exact h.cell hk⟩⟩

/-- from what ZZCut leaves to what the law's last part wants -/
theorem qpre_of {w8 w9 w10 wz w4 w5 : World} {n nc ns : Nat} {b7 : Option Addr} {d7 : Nat} {cl : Int} {mc ms F L sp thr rev : Nat → Int} {N r : Nat → Value} {ln : Nat → Nat} {nd : Nat → Nat → Int} {gb gb' : Nat → Nat} {tb rb mb sb fb lb nb no k6 Lc c0 pos : Nat} {run : Nat → Nat}
    {S M C C' nc' cap' s0 m d : Nat} {sv' : Value} {mc' ms' F' L' lst' : Nat → Int} {N' : Nat → Value} {v1 v2 v3 v4 v5 : Value} {cl' : Int}
    (hz : ZDone w10 wz w4 w5 n nc (.slice b7 ns d7) cl mc ms F L N w8.heap.size ns sp ln nd gb' thr rev tb rb Lc c0 pos run S M C C' nc' cap' sv' cl' mc' ms' F' L' N' v1 v2 v3 v4 v5)
    (hc : CutDone w4 w5 S M C n nc (.slice (some ⟨tb, 0, none⟩) n n) (.slice (some ⟨rb, 0, none⟩) n n) cl mc ms F L N w8.heap.size ns sp gb' Lc c0 pos run s0 m d nc' C' cap' sv' mc' ms' F' L' lst' N')
    (h0 : 0 < pos) (hpL : pos < Lc) (hcl : Cl w8 w9 nc nc r ln nd N gb) (hb10 : Below w9.heap.size w9 w10)
    (hm : w8.rowIs mb 21 n (fun j => .int .i32 (mc j))) (hs : w8.rowIs sb 21 n (fun j => .int .i32 (ms j))) (hf : w8.rowIs fb 21 nc (fun j => .int .i32 (F j))) (hl : w8.rowIs lb 21 nc (fun j => .int .i32 (L j)))
    (hsp : CpR w8 (.slice b7 ns d7) ns sp) (hnb : nb < w8.heap.size) (hnc : ∀ k, k < nc → w8.cell? ⟨nb, no + k, none⟩ = some (r k)) (hrow : ∀ k, k < nc → RowIn w8 (r k) (ln k) (nd k) ∧ ln k ≤ 1048576)
    (hg : w10.rowIs w9.heap.size 21 Lc (fun i => .int .i32 (run i : Nat))) (hns : ns ≤ 65536) :
    ∃ a1 a2 a3 a4 a5 a7 k1 k2 k3 k4 k5 k7 m1 t1, v1 = .slice a1 n k1 ∧ v2 = .slice a2 n k2 ∧ v3 = .slice a3 nc' k3 ∧ v4 = .slice a4 nc' k4 ∧ v5 = .slice a5 nc' k5 ∧ sv' = .slice a7 (ns - 1) k7 ∧ m = m1 + 1 ∧
      ((ns = 0 ∧ ns - 1 = 0 ∧ d = nc ∧ nc' = nc + 1) ∨ (ns = ns - 1 + 1 ∧ nc' = nc ∧ ∃ bb bo, b7 = some ⟨bb, bo, none⟩ ∧ wz.cell? ⟨bb, bo + (ns - 1), none⟩ = some (.int .i32 d))) ∧ (ns ≤ d7 ∧ d7 ≤ 65536) ∧ Below w8.heap.size w8 wz ∧
      ((Lc = t1 + 1 + (m1 + 1) ∧ pos = t1 + 1 ∧ m1 ≤ t1 ∧ QPre wz n nc (ns - 1) nc' Lc m1 t1 (t1 + 1) 0 d c0 w9.heap.size (gb' c0) Lc (some ⟨mb, 0, none⟩) (some ⟨sb, 0, none⟩) (some ⟨fb, 0, none⟩) (some ⟨lb, 0, none⟩) (some ⟨nb, no, none⟩) a1 a2 a3 a4 a5 a7 b7 n n nc nc k6 k1 k2 k3 k4 k5 k7 d7 mc ms F L mc' ms' F' L' sp lst' r N' ln nd run) ∨
       (Lc = m1 + 1 + (t1 + 1) ∧ pos = m1 + 1 ∧ m1 < t1 ∧ QPre wz n nc (ns - 1) nc' Lc m1 t1 0 (m1 + 1) d c0 w9.heap.size (gb' c0) Lc (some ⟨mb, 0, none⟩) (some ⟨sb, 0, none⟩) (some ⟨fb, 0, none⟩) (some ⟨lb, 0, none⟩) (some ⟨nb, no, none⟩) a1 a2 a3 a4 a5 a7 b7 n n nc nc k6 k1 k2 k3 k4 k5 k7 d7 mc ms F L mc' ms' F' L' sp lst' r N' ln nd run)) := by
  have h89 : Below w8.heap.size w8 w9 := hcl.below
  have h810 : Below w8.heap.size w8 w10 := h89.trans (hb10.mono h89.size)
  have h84 : Below w8.heap.size w8 w4 := h810.trans (hz.b4.mono h810.size)
  have h85 : Below w8.heap.size w8 w5 := h84.trans hc.low
  have h8z : Below w8.heap.size w8 wz := h85.trans (hz.b5.mono h85.size)
  have hrn := hz.pre.rn
  have hLn := hrn.small
  obtain ⟨sm1, sm2, sm3⟩ := hz.pre.small
  -- the run's row
  have hblk : ∀ k, k < nc → (N k).ownBlock ≠ some w9.heap.size := fun k hk e => by
    rcases hcl.made k hk with ⟨_, _, e1⟩ | ⟨e1, _, e3, _⟩
    · rw [e1] at e; cases e
    · rw [e1] at e
      have : gb k = w9.heap.size := by simpa [Value.ownBlock] using e
      omega
  have hg4 : w4.rowIs w9.heap.size 21 Lc (fun i => .int .i32 (run i : Nat)) := hg.of_block (hz.b4.block _ hg.lt)
  have hg5 : w5.rowIs w9.heap.size 21 Lc (fun i => .int .i32 (run i : Nat)) := hg4.of_block (hc.other _ _ _ hg4 (hblk c0 hz.pre.hc0) (fun hd => hblk d hd))
  have hgz : wz.rowIs w9.heap.size 21 Lc (fun i => .int .i32 (run i : Nat)) := hg5.of_block (hz.b5.block _ hg5.lt)
  have hr0 : wz.rowIs (gb' c0) 21 Lc (fun i => .int .i32 (lst' i)) := hc.row0.of_block (hz.b5.block _ hc.row0.lt)
  obtain ⟨a1, k1, e1, _⟩ := id hz.r1
  obtain ⟨a2, k2, e2, _⟩ := id hz.r2
  obtain ⟨a3, k3, e3, _⟩ := id hz.r3
  obtain ⟨a4, k4, e4, _⟩ := id hz.r4
  obtain ⟨a5, k5, e5, _⟩ := id hz.r5
  have hi7 : I32 wz sv' (ns - 1) sp := (hc.spare.i32 h85.size).after hz.b5
  obtain ⟨a7, k7, e7, _⟩ := id hi7
  have r1 := hz.r1
  have r2 := hz.r2
  have r3 := hz.r3
  have r4 := hz.r4
  have r5 := hz.r5
  rw [e1] at r1
  rw [e2] at r2
  rw [e3] at r3
  rw [e4] at r4
  rw [e5] at r5
  rw [e7] at hi7
  have hspz := (hsp.i32).after h8z
  have hkeep : ∀ k, k < nc → k ≠ c0 → k ≠ d → F' k = F k ∧ L' k = L k ∧ I32 wz (N' k) (ln k) (nd k) ∧ I32 wz (r k) (ln k) (nd k) ∧ ln k ≤ 2097152 := fun k hk h1 h2 => by
    obtain ⟨q1, q2, q3⟩ := hc.keep k hk h2 h1
    refine ⟨q1, q2, ?_, ((hrow k hk).1.i32).after h8z, by have := (hrow k hk).2; omega⟩
    rw [q3]
    rcases hz.pre.lists.row k hk with ⟨z0, z1⟩ | ⟨z1, z2, z3⟩
    · exact ⟨none, 0, by rw [z1, z0], fun hp => absurd hp (by omega)⟩
    · have g5 : w5.rowIs (gb' k) 21 (ln k) (fun j => .int .i32 (nd k j)) := z3.of_block (hc.lists k hk h2 h1 _ _ _ z3 (by rw [z1]; rfl))
      have gz : wz.rowIs (gb' k) 21 (ln k) (fun j => .int .i32 (nd k j)) := g5.of_block (hz.b5.block _ g5.lt)
      rw [z1]
      exact row_i32 gz
  have hp6 : RwS wz (.slice (some ⟨nb, no, none⟩) nc k6) nc r := ⟨_, _, rfl, fun _ => ⟨nb, no, rfl, Nat.lt_of_lt_of_le hnb h8z.size, fun k hk => by rw [h8z.cell (p := ⟨nb, no + k, none⟩) hnb]; exact hnc k hk⟩⟩
  have hp2 : I32 wz (.slice (some ⟨mb, 0, none⟩) n n) n mc := (row_i32 hm).after h8z
  have hp3 : I32 wz (.slice (some ⟨sb, 0, none⟩) n n) n ms := (row_i32 hs).after h8z
  have hp4 : I32 wz (.slice (some ⟨fb, 0, none⟩) nc nc) nc F := (row_i32 hf).after h8z
  have hp5 : I32 wz (.slice (some ⟨lb, 0, none⟩) nc nc) nc L := (row_i32 hl).after h8z
  have hnd' : I32 wz (N' d) m (fun i => ((run (s0 + i) : Nat) : Int)) := (own_i32 hc.own).after hz.b5
  have hd7 : ns ≤ d7 ∧ d7 ≤ 65536 := by
    rcases hsp with ⟨e, e0⟩ | ⟨b, e, _⟩
    · cases e; omega
    · cases e; omega
  have hspare : (ns = 0 ∧ ns - 1 = 0 ∧ d = nc ∧ nc' = nc + 1) ∨ (ns = ns - 1 + 1 ∧ nc' = nc ∧ ∃ bb bo, b7 = some ⟨bb, bo, none⟩ ∧ wz.cell? ⟨bb, bo + (ns - 1), none⟩ = some (.int .i32 d)) := by
    by_cases hn0 : ns = 0
    · obtain ⟨z1, z2⟩ := hc.dd.1 hn0
      exact .inl ⟨hn0, by omega, z1, z2⟩
    · obtain ⟨z1, z2, z3⟩ := hc.dd.2 (by omega)
      obtain ⟨_, _, e, hcell⟩ := hspz
      cases e
      obtain ⟨bb, bo, e, _, hcell⟩ := hcell (by omega)
      refine .inr ⟨by omega, z3, bb, bo, e, ?_⟩
      rw [hcell (ns - 1) (by omega), z1]
  have hncle : nc ≤ nc' ∧ nc' ≤ nc + 1 := by rcases hspare with ⟨_, _, _, z⟩ | ⟨_, z, _⟩ <;> omega
  have hone : ∀ t, t < Lc → (t < s0 ∨ s0 + m ≤ t) → run t < n ∧ mc' (run t) = c0 ∧ ∃ s : Nat, s < Lc - m ∧ ms' (run t) = s ∧ lst' s = run t := fun t ht ho => by
    obtain ⟨z, z1, z2, z3, z4⟩ := hc.pi.slot t ht ho
    exact ⟨hrn.lt t ht, z3, z, z1, z2, z4⟩
  have hmv : ∀ k, k < m → s0 + k < Lc → run (s0 + k) < n ∧ mc' (run (s0 + k)) = d ∧ ms' (run (s0 + k)) = k := fun k hk hl => by
    obtain ⟨z1, z2⟩ := hc.pi.gone k hk
    exact ⟨hrn.lt _ hl, z1, z2⟩
  obtain ⟨f1, f2⟩ := hc.fd
  obtain ⟨f3, f4⟩ := hc.f0
  have hn0 := hc.n0
  have hz0 := h8z.size
  have hgb : gb' c0 < wz.heap.size := hr0.lt
  rcases hc.seg with ⟨q1, q2, q3⟩ | ⟨q1, q2, q3⟩
  · refine ⟨a1, a2, a3, a4, a5, a7, k1, k2, k3, k4, k5, k7, Lc - pos - 1, pos - 1, e1, e2, e3, e4, e5, e7, by omega, hspare, hd7, h8z, .inl ⟨by omega, by omega, by omega, ?_⟩⟩
    have hm1 : Lc - pos - 1 + 1 = m := by omega
    have ht1 : pos - 1 + 1 = pos := by omega
    have hlm : Lc - m = pos - 1 + 1 := by omega
    have hs0 : s0 = pos - 1 + 1 := by omega
    subst hs0
    rw [hlm] at hn0
    rw [← hm1] at hnd' hmv
    refine ⟨r1, r2, r3, r4, r5, hi7, hspz.less (by omega), hp2, hp3, hp4, hp5, hp6, hgz, f1, by rw [f2]; congr 2; omega, ?_, ?_, hnd', hn0, ⟨hgb, fun k hk => hr0.cell (by omega)⟩, fun k hk => hmv k hk (by omega), fun k hk => ?_, fun u hu z1 z2 => ?_, hkeep, ⟨sm1, sm2, by omega, hncle.1, hc.ne.2, hz.pre.hc0, by omega, sm3, by omega, by omega, by omega⟩⟩
    · rw [f3, if_neg (by omega)]
    · rw [f4, if_neg (by omega)]; congr 2; omega
    · rw [Nat.zero_add]
      have := hone k (by omega) (by omega)
      rw [hlm] at this; exact this
    · refine hc.pi.rest u (fun t ht e => ?_)
      by_cases hlt : t < pos
      · exact z2 t (by omega) (by rw [Nat.zero_add]; exact e)
      · exact z1 (t - pos) (by omega) (by rw [show pos - 1 + 1 + (t - pos) = t by omega]; exact e)
  · refine ⟨a1, a2, a3, a4, a5, a7, k1, k2, k3, k4, k5, k7, pos - 1, Lc - pos - 1, e1, e2, e3, e4, e5, e7, by omega, hspare, hd7, h8z, .inr ⟨by omega, by omega, by omega, ?_⟩⟩
    have hm1 : pos - 1 + 1 = m := by omega
    have hlm : Lc - m = Lc - pos - 1 + 1 := by omega
    subst q2
    rw [hlm] at hn0
    rw [← hm1] at hnd' hmv
    refine ⟨r1, r2, r3, r4, r5, hi7, hspz.less (by omega), hp2, hp3, hp4, hp5, hp6, hgz, f1, by rw [f2]; congr 2; omega, ?_, ?_, hnd', hn0, ⟨hgb, fun k hk => hr0.cell (by omega)⟩, fun k hk => hmv k hk (by omega), fun k hk => ?_, fun u hu z1 z2 => ?_, hkeep, ⟨sm1, sm2, by omega, hncle.1, hc.ne.2, hz.pre.hc0, by omega, sm3, by omega, by omega, by omega⟩⟩
    · rw [f3, if_pos rfl]; congr 2; omega
    · rw [f4, if_pos rfl]; congr 2; omega
    · have := hone (pos - 1 + 1 + k) (by omega) (by omega)
      rw [hlm] at this; exact this
    · refine hc.pi.rest u (fun t ht e => ?_)
      by_cases hlt : t < pos
      · exact z1 t (by omega) (by rw [Nat.zero_add]; exact e)
      · exact z2 (t - pos) (by omega) (by rw [show pos - 1 + 1 + (t - pos) = t by omega]; exact e)
end Go.Proofs.Qxb6623286a
