import Derived.Test.Qxb6623286aZ3
namespace Go.Proofs.Qxb6623286a
open Go.RowKit

/-- the field spare of the simplex, stored -/
theorem Sx.setSpare {w : World} {S : Nat} {tv rv mv cv sv : Value} {cl : Int} (h : Sx w S tv rv mv cv sv cl) (x : Value) : Sx (w.setCell ⟨S, 13, none⟩ x) S tv rv mv cv x cl := by
  obtain ⟨f, hr, h1, h2, h3, h4, h5, h6⟩ := h
  exact ⟨_, hr.set 13 x, by simpa using h1, by simpa using h2, by simpa using h3, by simpa using h4, by simp, by simpa using h6⟩
theorem Sx.setChunks {w : World} {S : Nat} {tv rv mv cv sv : Value} {cl : Int} (h : Sx w S tv rv mv cv sv cl) (x : Value) : Sx (w.setCell ⟨S, 12, none⟩ x) S tv rv mv x sv cl := by
  obtain ⟨f, hr, h1, h2, h3, h4, h5, h6⟩ := h
  exact ⟨_, hr.set 12 x, by simpa using h1, by simpa using h2, by simpa using h3, by simp, by simpa using h5, by simpa using h6⟩
theorem Sx.setCut {w : World} {S : Nat} {tv rv mv cv sv : Value} {cl : Int} (h : Sx w S tv rv mv cv sv cl) (x : Int) : Sx (w.setCell ⟨S, 14, none⟩ (.int .i64 x)) S tv rv mv cv sv x := by
  obtain ⟨f, hr, h1, h2, h3, h4, h5, h6⟩ := h
  exact ⟨_, hr.set 14 (.int .i64 x), by simpa using h1, by simpa using h2, by simpa using h3, by simpa using h4, by simpa using h5, by simp⟩
theorem Sx.frozen {w : World} {S : Nat} {tv rv mv cv sv : Value} {cl : Int} (h : Sx w S tv rv mv cv sv cl) (i : Nat) : w.frozen? ⟨S, i, none⟩ = false := by
  obtain ⟨f, hr⟩ := h.row
  exact hr.frozen i

theorem Try.elem22 : Try.prog.elem 22 = 21 := by kernel_rfl
theorem Try.und22 : Try.prog.underlying 22 = some (.slice (Try.prog.elem 22)) := by kernel_rfl
theorem slice0 (wx : World) (a : Option Addr) (n cap : Nat) : (Instr.slice 22 (.slice a n cap) none (some (.int .i64 0)) none).run Try.prog wx = .ok (.slice a 0 cap) wx := by
  rw [run_slice_h (P := Try.prog) wx 22 a n cap Try.und22 .i64 _ (by omega) (by omega), Try.elem22, Try.sizeOf21]
  simp only [Result.andThen, sliced, Int.toNat_zero, Nat.sub_zero, Nat.zero_mul]
  congr 2
  split
  · rfl
  · cases a <;> simp [Addr.add]

set_option maxRecDepth 100000 in
set_option maxHeartbeats 2000000 in
/-- a spare number is taken -/
theorem new_spare (w : World) (S M C n nc cap : Nat) (tv rv : Value) (cl : Int) (mc ms F L : Nat → Int) (N : Nat → Value) (k sb scap d : Nat) (a : Option Addr) (l cp : Nat) (x : Int)
    (h : St w S M C n nc cap tv rv (.slice (some ⟨sb, 0, none⟩) (k + 1) scap) cl mc ms F L N) (hsp : w.cell? ⟨sb, k, none⟩ = some (.int .i32 d)) (hd : (d : Int) < nc) (hk : (k : Int) + 1 ≤ scap) (hcp : (scap : Int) ≤ 1048576)
    (hN : N d = .slice a l cp) :
    Calls Try.prog 11 #[.pointer (some ⟨S, 0, none⟩), .int .i32 x] w fun e w' => e = .returned (.int .i32 d) ∧
      St w' S M C n nc cap tv rv (.slice (some ⟨sb, 0, none⟩) k scap) cl mc ms (upd F d x) (upd L d x) (upd N d (.slice a 0 cp)) ∧ Chg (fun b => b = S ∨ b = C) w w' := by
  obtain ⟨-, -, s11, s12, s13, -⟩ := h.s.cell
  have f13 := h.s.frozen 13
  have HT := Lib.hid h
  have HN := Lib.hid hN
  clear h hN
  go_enter Try.func11, Try.ntmps11
  go_wp2
  go_region
  obtain ⟨w2, hw2⟩ : ∃ w2, w2 = (w.setCell ⟨S, 13, none⟩ (.slice (some ⟨sb, 0, none⟩) k scap)).drew := ⟨_, rfl⟩
  have HT2 : Hid (St w2 S M C n nc cap tv rv (.slice (some ⟨sb, 0, none⟩) k scap) cl mc ms F L N) := by
    rw [hw2]
    have hne := HT.out.ne
    exact ⟨HT.out.s.setSpare _, World.rowIs.setOther HT.out.m (a := ⟨S, 13, none⟩) (Ne.symm hne.1) _, HT.out.ch.other (a := ⟨S, 13, none⟩) (Ne.symm hne.2.1) _⟩
  have HG2 : Hid (Chg (fun b => b = S ∨ b = C) w w2) := by rw [hw2]; exact ((Chg.refl _ w).setCell ⟨S, 13, none⟩ (.inl rfl) _).drewN 1
  have HN2 := HN
  rw [← hw2]
  clear hw2 s11 s12 s13 f13 hsp HT HN
  obtain ⟨-, -, -, t12, -, -⟩ := HT2.out.s.cell
  obtain ⟨q0, q1, q2⟩ := HT2.out.ch.cell (c := d) (by omega)
  rw [HN2.out] at q2
  have z0 := HT2.out.ch.frozen (d * 3)
  have z1 := HT2.out.ch.frozen (d * 3 + 1)
  have z2 := HT2.out.ch.frozen (d * 3 + 2)
  go_wp2
  go_region
  obtain ⟨w3, hw3⟩ : ∃ w3, w3 = ((w2.setCell ⟨C, d * 3, none⟩ (.int .i32 x)).setCell ⟨C, d * 3 + 1, none⟩ (.int .i32 x)).drew := ⟨_, rfl⟩
  have HT3 : Hid (St w3 S M C n nc cap tv rv (.slice (some ⟨sb, 0, none⟩) k scap) cl mc ms (upd F d x) (upd L d x) N) := by rw [hw3]; exact ((HT2.out.setF d x).setL d x).drew
  have HG3 : Hid (Chg (fun b => b = S ∨ b = C) w w3) := by rw [hw3]; exact (((HG2.out.setCell ⟨C, d * 3, none⟩ (.inr rfl) _).setCell ⟨C, d * 3 + 1, none⟩ (.inr rfl) _).drewN 1)
  rw [← hw3]
  clear hw3 t12 q0 q1 q2 z0 z1 z2 HT2 HG2
  obtain ⟨-, -, -, t12, -, -⟩ := HT3.out.s.cell
  obtain ⟨-, -, q2⟩ := HT3.out.ch.cell (c := d) (by omega)
  rw [HN2.out] at q2
  have z2 := HT3.out.ch.frozen (d * 3 + 2)
  have hsl := fun wx => slice0 wx a l cp
  go_wp2
  go_region
  obtain ⟨w4, hw4⟩ : ∃ w4, w4 = (w3.setCell ⟨C, d * 3 + 2, none⟩ (.slice a 0 cp)).drew := ⟨_, rfl⟩
  have HT4 : Hid (St w4 S M C n nc cap tv rv (.slice (some ⟨sb, 0, none⟩) k scap) cl mc ms (upd F d x) (upd L d x) (upd N d (.slice a 0 cp))) := by rw [hw4]; exact (HT3.out.setN d _).drew
  have HG4 : Hid (Chg (fun b => b = S ∨ b = C) w w4) := by rw [hw4]; exact ((HG3.out.setCell ⟨C, d * 3 + 2, none⟩ (.inr rfl) _).drewN 1)
  rw [← hw4]
  clear hw4 t12 q2 z2 hsl HT3 HG3
  go_wp2
  go_ret
  exact ⟨rfl, HT4.out, HG4.out⟩
end Go.Proofs.Qxb6623286a
