/- The reference's reading: connection, either, unpadded, dependency. -/
import Derived.Test.YtfdlbjibninakaaGreatDoorSh
import Derived.Test.YtfdlbjibninakaaGreatDoorRs
set_option linter.unusedVariables false
set_option linter.unusedSimpArgs false
namespace Go.Proofs.YtfdlbjibninakaaGreatDoor
open Go.RowKit
theorem below_new' {w1 w2 : World} {o : Obj} (k : Kept (· ≠ w1.heap.size) (w1.alloc o) w2) : Below w1.heap.size w1 w2 := ((Kept.refl (· < w1.heap.size) w1).alloc _).trans (k.mono fun _ h _ => Nat.ne_of_lt h) |>.below (Nat.le_refl _)
theorem Below.step' {w w1 w2 : World} (h : Below w.heap.size w w1) (g : Below w1.heap.size w1 w2) : Below w.heap.size w w2 := Below.then h (Nat.le_refl _) g
/-- What a function of the reference leaves that answers a fault. -/
def SpBad (w : World) (r : Rs) (e : Ending) (w' : World) : Prop := e = .returned (.agg (rsX r (.slice none 0 0) (.slice none 0 0))) ∧ Below w.heap.size w w'
set_option maxRecDepth 10000 in
set_option maxHeartbeats 4000000 in
theorem connS_any (c : Int) (w : World) : Calls Tryz.prog 24 #[.int .u32 c] w (SpBad w (.bad 4 c 0)) := by
  go_enter Tryz.func24, Tryz.ntmps24
  go_wp2_with (refine wpList_store_blk rfl _ _ _ rfl w.heap.size rfl (rsX (.bad 4 c 0) (.slice none 0 0) (.slice none 0 0)) _ rfl 31 (blk_new _ _) rfl infoRs (rsX_one _ _ _ _ _ _ _) ?_; intro w1 hb1 hk1)
  exact ret_blk rfl w.heap.size _ _ rfl hb1 Tryz.underlying31 infoRs rfl ⟨rfl, below_new' hk1⟩
set_option maxRecDepth 10000 in
set_option maxHeartbeats 4000000 in
theorem eitherS_any (p q : Bool) (w : World) : Calls Tryz.prog 40 #[.bool p, .bool q] w (SpBad w (Pl.eitherR p q)) := by
  cases p <;> cases q
  · show Calls _ _ _ _ (SpBad w (.bad 4 6 0))
    go_enter Tryz.func40, Tryz.ntmps40
    go_wp2_with (first
      | (go_at_call 24; refine (connS_any 6 _).mono ?_; rintro e w1 ⟨rfl, hb1⟩; have hq := blk_below (blk_new w _) hb1)
      | (refine wpList_store_blk rfl _ _ _ rfl w.heap.size rfl (rsX (.bad 4 6 0) (.slice none 0 0) (.slice none 0 0)) _ rfl 31 hq rfl infoRs (rsX_one _ _ _ _ _ _ _) ?_; intro w2 hb2 hk2))
    refine ret_blk rfl w.heap.size _ _ rfl hb2 Tryz.underlying31 infoRs rfl ⟨rfl, ?_⟩
    exact ((((Kept.refl (· < w.heap.size) w).alloc _).trans ((Kept.ofBelow hb1).mono fun k h _ => by simp; omega)).trans (hk2.mono fun k h _ => Nat.ne_of_lt h)).below (Nat.le_refl _)
  · show Calls _ _ _ _ (SpBad w (.bad 4 6 0))
    go_enter Tryz.func40, Tryz.ntmps40
    go_wp2_with (first
      | (go_at_call 24; refine (connS_any 6 _).mono ?_; rintro e w1 ⟨rfl, hb1⟩; have hq := blk_below (blk_new w _) hb1)
      | (refine wpList_store_blk rfl _ _ _ rfl w.heap.size rfl (rsX (.bad 4 6 0) (.slice none 0 0) (.slice none 0 0)) _ rfl 31 hq rfl infoRs (rsX_one _ _ _ _ _ _ _) ?_; intro w2 hb2 hk2))
    refine ret_blk rfl w.heap.size _ _ rfl hb2 Tryz.underlying31 infoRs rfl ⟨rfl, ?_⟩
    exact ((((Kept.refl (· < w.heap.size) w).alloc _).trans ((Kept.ofBelow hb1).mono fun k h _ => by simp; omega)).trans (hk2.mono fun k h _ => Nat.ne_of_lt h)).below (Nat.le_refl _)
  · show Calls _ _ _ _ (SpBad w (.bad 4 1 0))
    go_enter Tryz.func40, Tryz.ntmps40
    go_wp2_with (first
      | (go_at_call 24; refine (connS_any 1 _).mono ?_; rintro e w1 ⟨rfl, hb1⟩; have hq := blk_below (blk_new w _) hb1)
      | (refine wpList_store_blk rfl _ _ _ rfl w.heap.size rfl (rsX (.bad 4 1 0) (.slice none 0 0) (.slice none 0 0)) _ rfl 31 hq rfl infoRs (rsX_one _ _ _ _ _ _ _) ?_; intro w2 hb2 hk2))
    refine ret_blk rfl w.heap.size _ _ rfl hb2 Tryz.underlying31 infoRs rfl ⟨rfl, ?_⟩
    exact ((((Kept.refl (· < w.heap.size) w).alloc _).trans ((Kept.ofBelow hb1).mono fun k h _ => by simp; omega)).trans (hk2.mono fun k h _ => Nat.ne_of_lt h)).below (Nat.le_refl _)
  · show Calls _ _ _ _ (SpBad w (.bad 7 0 0))
    go_enter Tryz.func40, Tryz.ntmps40
    go_wp2_with (refine wpList_store_blk rfl _ _ _ rfl w.heap.size rfl (rsX (.bad 7 0 0) (.slice none 0 0) (.slice none 0 0)) _ rfl 31 (blk_new _ _) rfl infoRs (rsX_one _ _ _ _ _ _ _) ?_; intro w1 hb1 hk1)
    exact ret_blk rfl w.heap.size _ _ rfl hb1 Tryz.underlying31 infoRs rfl ⟨rfl, below_new' hk1⟩
end Go.Proofs.YtfdlbjibninakaaGreatDoor
