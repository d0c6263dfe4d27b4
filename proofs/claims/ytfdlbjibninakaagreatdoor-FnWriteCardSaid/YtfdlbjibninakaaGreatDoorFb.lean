/- Reading: the row for a payload; the last frame's end. -/
import Derived.Test.YtfdlbjibninakaaGreatDoorFh2
import Derived.RegionTactic
set_option linter.unusedVariables false
set_option linter.unusedSimpArgs false
namespace Go.Proofs.YtfdlbjibninakaaGreatDoor
open Go.RowKit
theorem mk5u (n : Nat) (hn : n ≤ 16777216) (w : World) :
    (Instr.makeSlice 22 (.int .u32 (n : Int)) (.int .u32 (n : Int))).run Tryz.prog w = .ok (.slice (some ⟨w.heap.size, 0, none⟩) n n) (w.alloc (.cells (zB n) 5)) := by
  obtain ⟨i0, hi, hz0, hz1, hz2⟩ := info_parts E5.info
  have := run_make (P := Tryz.prog) w 22 5 i0 _ E5.sl hi hz0 .u32 .u32 (n : Int) (n : Int) (by omega) (by omega) (by rw [hz2]; omega) (by omega)
  rw [hz1] at this
  simpa [zB, Value.cells] using this
section
variable {B : Nat} {K : Nat → Prop} {aE aU aT : Addr} {w w' : World} {bF cl bR : Nat} {m o o' : Int} {L L' ps : List Int} {cs cs' : Array Value} {lf rb rest rest' pcs : Value} {at' at'' : Nat}
/-- The row for a payload of n bytes. -/
def PlOk (K : Nat → Prop) (w : World) (rb : Value) (n : Nat) (pl : Value) : Prop :=
  (n = 0 ∧ ∃ a c, pl = .slice a 0 c ∧ c ≤ maxLen) ∨ ∃ g n' cap bc, pl = .slice (some ⟨g, 0, none⟩) n cap ∧ rb = .slice (some ⟨g, 0, none⟩) n' cap ∧ w.heap[g]? = some (.cells bc 5 (0, 0)) ∧ bc.size = cap ∧ n ≤ cap ∧ cap ≤ 16777216 ∧ ¬ K g
def BufEnd (B : Nat) (K : Nat → Prop) (aE aU aT : Addr) (w : World) (bF cl bR : Nat) (m o : Int) (L ps : List Int) (lf rest pcs : Value) (at' n : Nat) (e : Ending) (w' : World) : Prop :=
  ∃ pl, e = .returned pl ∧ Kept K w w' ∧ ∃ cs' rb', RSt B K aE aU aT w' bF cl bR m o L ps cs' lf rb' rest pcs at' ∧ PlOk K w' rb' n pl
theorem RSt.newRb (h : RSt B K aE aU aT w bF cl bR m o L ps cs lf rb rest pcs at') (n : Nat) (hn : n ≤ 16777216) :
    RSt B K aE aU aT ((w.alloc (.cells (zB n) 5)).setCell ⟨bF, 17, none⟩ (.slice (some ⟨w.heap.size, 0, none⟩) n n)) bF cl bR m o L ps (cs.setIfInBounds 17 (.slice (some ⟨w.heap.size, 0, none⟩) n n)) lf (.slice (some ⟨w.heap.size, 0, none⟩) n n) rest pcs at' := by
  have hk : Kept (· ≠ bF) w ((w.alloc (.cells (zB n) 5)).setCell ⟨bF, 17, none⟩ (.slice (some ⟨w.heap.size, 0, none⟩) n n)) := ((Kept.refl _ w).alloc _).setCell (fun h => absurd rfl h) _
  have hkk := hk.onK (K := K) fun k hk e => h.kF (e ▸ hk)
  have hB := h.BF
  exact ⟨h.V.kept hk (fun k hk => by omega), blk_set (blk_alloc h.F) 17 _, h.fs.setRb _, hk.at (Ne.symm h.FC) h.C, ⟨hk.at (Ne.symm h.FR) h.R.R, h.R.rest.kept hkk h.rk, h.R.pcs.kept hkk h.pk, h.R.lim⟩, h.lim, h.bs, h.rk0, h.pk0,
    .inr ⟨w.heap.size, n, n, zB n, rfl, blk_set_other (blk_new w _) (Ne.symm (Nat.ne_of_lt (lt_of_block h.F))) _, zB_size n, Nat.le_refl _, hn, fun hk => absurd (h.lt _ hk) (Nat.lt_irrefl _)⟩, h.lf.kept hk (fun T p e => (h.lfNe e).1), h.kF, h.kC, h.kR, fun k hk2 => Nat.lt_of_lt_of_le (h.lt k hk2) hk.size, h.gl, h.o0, h.m0, h.m1⟩
set_option maxRecDepth 10000 in
set_option maxHeartbeats 8000000 in
theorem getBuf_any (h : RSt B K aE aU aT w bF cl bR m o L ps cs lf rb rest pcs at') (n : Nat) (hn : n ≤ 16777215) :
    Calls Tryz.prog 45 #[.int .u32 (n : Int), .pointer (some ⟨cl, 0, none⟩)] w (BufEnd B K aE aU aT w bF cl bR m o L ps lf rest pcs at' n) := by
  have c0 := blk_cell h.C 0
  have c17 := (blk_cell h.F 17).trans h.fs.c17
  have f17 := blk_free h.F 17
  have c0' : w.cell? ⟨cl, 0, none⟩ = some (.pointer (some ⟨bF, 0, none⟩)) := c0
  clear c0
  rcases h.rb with rfl | ⟨g, n', cap, bc, rfl, h1, h2, h3, h4, h5⟩
  · by_cases h0 : n = 0
    · subst h0
      go_enter Tryz.func45, Tryz.ntmps45
      go_wp2
      go_ret
      exact ⟨_, rfl, Kept.refl _ _, _, _, h, .inl ⟨rfl, _, _, rfl, Nat.zero_le _⟩⟩
    · have hmk := mk5u n (by omega)
      have k17 := (blk_cell (blk_alloc (p := .cells (zB n) 5) h.F) 17).trans h.fs.c17
      have kf17 := blk_free (blk_alloc (p := .cells (zB n) 5) h.F) 17
      have kc0 : (w.alloc (.cells (zB n) 5)).cell? ⟨cl, 0, none⟩ = some (.pointer (some ⟨bF, 0, none⟩)) := blk_cell (blk_alloc h.C) 0
      have hFC := h.FC
      have hCF := Ne.symm h.FC
      have hnew := h.newRb n (by omega)
      go_enter Tryz.func45, Tryz.ntmps45
      go_wp2
      go_region
      all_goals
        go_wp2
        go_ret
        exact ⟨_, rfl, (((Kept.refl _ w).alloc _).setCell (fun hk => absurd hk h.kF) _).drew, _, _, hnew.drew, .inr ⟨w.heap.size, n, n, zB n, rfl, rfl, blk_drw (blk_set_other (blk_new w _) (Ne.symm (Nat.ne_of_lt (lt_of_block h.F))) _), zB_size n, Nat.le_refl _, by omega, fun hk => absurd (h.lt _ hk) (Nat.lt_irrefl _)⟩⟩
  · by_cases hc : n ≤ cap
    · go_enter Tryz.func45, Tryz.ntmps45
      go_wp2
      go_ret
      exact ⟨_, rfl, Kept.refl _ _, _, _, h, .inr ⟨g, n', cap, bc, rfl, rfl, h1, h2, hc, h4, h5⟩⟩
    · have hmk := mk5u n (by omega)
      have k17 := (blk_cell (blk_alloc (p := .cells (zB n) 5) h.F) 17).trans h.fs.c17
      have kf17 := blk_free (blk_alloc (p := .cells (zB n) 5) h.F) 17
      have kc0 : (w.alloc (.cells (zB n) 5)).cell? ⟨cl, 0, none⟩ = some (.pointer (some ⟨bF, 0, none⟩)) := blk_cell (blk_alloc h.C) 0
      have hFC := h.FC
      have hCF := Ne.symm h.FC
      have hnew := h.newRb n (by omega)
      go_enter Tryz.func45, Tryz.ntmps45
      go_wp2
      go_region
      all_goals
        go_wp2
        go_ret
        exact ⟨_, rfl, (((Kept.refl _ w).alloc _).setCell (fun hk => absurd hk h.kF) _).drew, _, _, hnew.drew, .inr ⟨w.heap.size, n, n, zB n, rfl, rfl, blk_drw (blk_set_other (blk_new w _) (Ne.symm (Nat.ne_of_lt (lt_of_block h.F))) _), zB_size n, Nat.le_refl _, by omega, fun hk => absurd (h.lt _ hk) (Nat.lt_irrefl _)⟩⟩
end
end Go.Proofs.YtfdlbjibninakaaGreatDoor
