/- spec.Legal at a SETTINGS frame with nothing but its parameters. -/
import Derived.Test.YtfdlbjibninakaaDoorQEq
import Derived.Deep.RegionHeld3
import Derived.Deep.CutRange
import Derived.BigGuard
import Derived.Outline
set_option linter.unusedVariables false
set_option linter.unusedSimpArgs false
namespace Go.Proofs.YtfdlbjibninakaaDoor
open Go.RowKit
/-- A SETTINGS frame with nothing but its parameters. -/
def fS (l : List (Int × Int)) : Fr := { Fr.zero with ty := 4, set := l }
/-- Her cells. -/
abbrev fSc (sv : Value) : Array Value := #[.int .i64 4, .int .i64 0, .int .u32 0, .int .i64 0, .slice none 0 0, .int .u32 0, .int .u32 0, .int .u32 0, .int .u32 0, .bool false, .bool false, .int .u32 0, .int .i64 0, sv]
theorem frX_fS (l : List (Int × Int)) (sv : Value) : frX (fS l) (.slice none 0 0) sv = fSc sv := rfl
theorem rdB_nilL (w : World) : RdB w (.slice none 0 0) [] := ⟨none, 0, rfl, Nat.le_refl _, Nat.zero_le _, fun j x h => by simp at h⟩
def YesL (w : World) (e : Ending) (w' : World) : Prop := e = .returned (.bool true) ∧ Below w.heap.size w w'
set_option maxRecDepth 10000 in
set_option maxHeartbeats 4000000 in
theorem clean_set {w : World} {sv : Value} {l : List (Int × Int)} (hs : RdP w sv l) : Calls Tryd.prog 38 #[.agg (fSc sv)] w (YesL w) := by
  obtain ⟨sa, sc, rfl, hsc, hsm⟩ := hs.shape
  have HS := Lib.hid hs
  clear hs
  go_enter Tryd.func38, Tryd.ntmps38
  go_wp2_with (first
    | (refine wpList_store_blk rfl 35 _ _ rfl (w.heap.size + 1) rfl (fSc (.slice none 0 0)) _ rfl 35 (blk_at _ _ (by simp)) rfl infoFs (by simp [Value.oneCell']) ?_; intro w1 hb1 k1;
       have hF1 : w1.heap[w.heap.size]? = some (.cells (fSc (.slice sa l.length sc)) 35 (0, 0)) := k1.at (by simp) (blk_alloc (blk_new w _));
       have B1 : Below w.heap.size w w1 := ((((Kept.refl (· < w.heap.size) w).alloc _).alloc _).trans (k1.mono fun k h _ => by omega)).below (Nat.le_refl _);
       have e0 : w1.cell? ⟨w.heap.size, 0, none⟩ = some (.int .i64 4) := blk_cell hF1 0; have e13 : w1.cell? ⟨w.heap.size, 13, none⟩ = some (.slice sa l.length sc) := blk_cell hF1 13;
       have f13 := blk_free hb1 13; have g13 : w1.cell? ⟨w.heap.size + 1, 13, none⟩ = some (.slice none 0 0) := blk_cell hb1 13)
    | (refine wpList_load_blk rfl 35 _ rfl w.heap.size rfl (fSc (.slice sa l.length sc)) 35 (blk_set_other hF1 (by simp) _) Tryd.underlying35 infoFs ?_)
    | (refine wpList_load_blk rfl 35 _ rfl (w.heap.size + 1) rfl (fSc (.slice sa l.length sc)) 35 (blk_set hb1 13 (.slice sa l.length sc)) Tryd.underlying35 infoFs ?_))
  have B2 : Below w.heap.size w (w1.setCell ⟨w.heap.size + 1, 13, none⟩ (.slice sa l.length sc)) := B1.setCell (by simp) _
  refine (equal_yes (fS l) (.slice none 0 0) (.slice none 0 0) (.slice sa l.length sc) (.slice sa l.length sc) _ (rdB_nilL _) (rdB_nilL _) (HS.out.below B2) (HS.out.below B2)).mono ?_
  rintro e w3 ⟨rfl, b3⟩
  go_wp2
  go_ret
  exact ⟨rfl, Below.then B2 (Nat.le_refl _) b3⟩
/-- What Legal asks of parameters. -/
def SetOk (l : List (Int × Int)) : Prop := (∀ p ∈ l, 0 ≤ p.1 ∧ p.1 < 65536 ∧ 0 ≤ p.2 ∧ p.2 < 4294967296 ∧ (p.1 = 4 → p.2 ≤ 2147483647)) ∧ l.length < 1000
def LgEnd (w : World) (P : Prop) (e : Ending) (w' : World) : Prop := ∃ q : Bool, e = .returned (.bool q) ∧ (q = true → P) ∧ Below w.heap.size w w'
set_option maxRecDepth 10000 in
set_option maxHeartbeats 1000000 in
theorem flags_set (w : World) : Calls Tryd.prog 37 #[.int .i64 4] w fun e w' => e = .returned (.int .i64 1) ∧ w = w' := by
  go_enter Tryd.func37, Tryd.ntmps37
  go_wp2
  go_ret
  exact ⟨rfl, rfl⟩
set_option maxRecDepth 10000 in
set_option maxHeartbeats 1000000 in
theorem zero_nil (w : World) : Calls Tryd.prog 39 #[.slice none 0 0] w fun e w' => e = .returned (.bool true) ∧ w = w' := by
  go_enter Tryd.func39, Tryd.ntmps39
  go_wp2_with fail
  go_loopw [7] (fun i wr => i = .int .i64 0 ∧ w = wr) (fun _ _ => 0)
  case atStart => exact ⟨rfl, rfl⟩
  case round =>
    obtain ⟨rfl, rfl⟩ := hrel
    go_wp2
    go_ret
    exact ⟨rfl, rfl⟩
theorem fS_cells {w' : World} {b : Nat} {sv : Value} (h : w'.heap[b]? = some (.cells (fSc sv) 35 (0, 0))) : w'.cell? ⟨b, 0, none⟩ = some (.int .i64 4) ∧ w'.cell? ⟨b, 1, none⟩ = some (.int .i64 0) ∧ w'.cell? ⟨b, 2, none⟩ = some (.int .u32 0) ∧ w'.cell? ⟨b, 3, none⟩ = some (.int .i64 0) ∧ w'.cell? ⟨b, 4, none⟩ = some (.slice none 0 0) ∧ w'.cell? ⟨b, 5, none⟩ = some (.int .u32 0) ∧ w'.cell? ⟨b, 6, none⟩ = some (.int .u32 0) ∧ w'.cell? ⟨b, 7, none⟩ = some (.int .u32 0) ∧ w'.cell? ⟨b, 8, none⟩ = some (.int .u32 0) ∧ w'.cell? ⟨b, 9, none⟩ = some (.bool false) ∧ w'.cell? ⟨b, 10, none⟩ = some (.bool false) ∧ w'.cell? ⟨b, 11, none⟩ = some (.int .u32 0) ∧ w'.cell? ⟨b, 12, none⟩ = some (.int .i64 0) ∧ w'.cell? ⟨b, 13, none⟩ = some (sv) :=
  ⟨blk_cell h 0, blk_cell h 1, blk_cell h 2, blk_cell h 3, blk_cell h 4, blk_cell h 5, blk_cell h 6, blk_cell h 7, blk_cell h 8, blk_cell h 9, blk_cell h 10, blk_cell h 11, blk_cell h 12, blk_cell h 13⟩
set_option maxRecDepth 100000 in
set_option maxHeartbeats 8000000 in
theorem legal_set {w : World} {sv : Value} {l : List (Int × Int)} (hs : RdP w sv l) (hu : ∀ p ∈ l, 0 ≤ p.2 ∧ p.2 < 4294967296) : Calls Tryd.prog 19 #[.agg (fSc sv), .slice none 0 0, .bool false] w (LgEnd w (SetOk l)) := by
  obtain ⟨sa, sc, rfl, hsc, hsm⟩ := hs.shape
  unfold maxLen at hsm
  have HS := Lib.hid hs
  have HU := Lib.hid hu
  have hF0 : (w.alloc (.cells (fSc (.slice sa l.length sc)) 35)).drew.heap[w.heap.size]? = some (.cells (fSc (.slice sa l.length sc)) 35 (0, 0)) := blk_new w _
  have hB0 : Below w.heap.size w (w.alloc (.cells (fSc (.slice sa l.length sc)) 35)).drew := Below.drew (((Kept.refl (· < w.heap.size) w).alloc _).below (Nat.le_refl _))
  have HH0 : Hid ((fun w' => w'.heap[w.heap.size]? = some (.cells (fSc (.slice sa l.length sc)) 35 (0, 0)) ∧ Below w.heap.size w w' ∧ w'.cell? ⟨w.heap.size, 0, none⟩ = some (.int .i64 4) ∧ w'.cell? ⟨w.heap.size, 1, none⟩ = some (.int .i64 0) ∧ w'.cell? ⟨w.heap.size, 2, none⟩ = some (.int .u32 0) ∧ w'.cell? ⟨w.heap.size, 3, none⟩ = some (.int .i64 0) ∧ w'.cell? ⟨w.heap.size, 4, none⟩ = some (.slice none 0 0) ∧ w'.cell? ⟨w.heap.size, 5, none⟩ = some (.int .u32 0) ∧ w'.cell? ⟨w.heap.size, 6, none⟩ = some (.int .u32 0) ∧ w'.cell? ⟨w.heap.size, 7, none⟩ = some (.int .u32 0) ∧ w'.cell? ⟨w.heap.size, 8, none⟩ = some (.int .u32 0) ∧ w'.cell? ⟨w.heap.size, 9, none⟩ = some (.bool false) ∧ w'.cell? ⟨w.heap.size, 10, none⟩ = some (.bool false) ∧ w'.cell? ⟨w.heap.size, 11, none⟩ = some (.int .u32 0) ∧ w'.cell? ⟨w.heap.size, 12, none⟩ = some (.int .i64 0) ∧ w'.cell? ⟨w.heap.size, 13, none⟩ = some (.slice sa l.length sc)) (w.alloc (.cells (fSc (.slice sa l.length sc)) 35)).drew) := Lib.hid ⟨hF0, hB0, fS_cells hF0⟩
  clear hs hu hF0 hB0
  go_enter Tryd.func19, Tryd.ntmps19
  go_upto_region 1 with (fail)
  refine wp_region_held_drew (S := fun w' => w'.heap[w.heap.size]? = some (.cells (fSc (.slice sa l.length sc)) 35 (0, 0)) ∧ Below w.heap.size w w' ∧ w'.cell? ⟨w.heap.size, 0, none⟩ = some (.int .i64 4) ∧ w'.cell? ⟨w.heap.size, 1, none⟩ = some (.int .i64 0) ∧ w'.cell? ⟨w.heap.size, 2, none⟩ = some (.int .u32 0) ∧ w'.cell? ⟨w.heap.size, 3, none⟩ = some (.int .i64 0) ∧ w'.cell? ⟨w.heap.size, 4, none⟩ = some (.slice none 0 0) ∧ w'.cell? ⟨w.heap.size, 5, none⟩ = some (.int .u32 0) ∧ w'.cell? ⟨w.heap.size, 6, none⟩ = some (.int .u32 0) ∧ w'.cell? ⟨w.heap.size, 7, none⟩ = some (.int .u32 0) ∧ w'.cell? ⟨w.heap.size, 8, none⟩ = some (.int .u32 0) ∧ w'.cell? ⟨w.heap.size, 9, none⟩ = some (.bool false) ∧ w'.cell? ⟨w.heap.size, 10, none⟩ = some (.bool false) ∧ w'.cell? ⟨w.heap.size, 11, none⟩ = some (.int .u32 0) ∧ w'.cell? ⟨w.heap.size, 12, none⟩ = some (.int .i64 0) ∧ w'.cell? ⟨w.heap.size, 13, none⟩ = some (.slice sa l.length sc)) (by kernel_rfl) HH0.out (fun hHeld => ?_)
  refine wpAnyH_take (i := 0) (v := .pointer (some ⟨w.heap.size, 0, none⟩)) rfl (by kernel_rfl) (by kernel_rfl) (by kernel_rfl) (fun _ _ _ h => h) (Or.inl ⟨by kernel_rfl, ?_⟩) (by assumption) ?_
  · intro w' _; go_simp
  simp only [Act.put, List.setIfInBounds_toArray, List.set_cons_zero, List.set_cons_succ, List.getElem_toArray, List.getElem_cons_zero, List.getElem_cons_succ]
  refine wpAnyH_take (i := 1) (v := .int .i64 4) rfl (by kernel_rfl) (by kernel_rfl) (by kernel_rfl) (fun _ _ _ h => h) (Or.inl ⟨by kernel_rfl, ?_⟩) (by assumption) ?_
  · intro w' hSw; have hc : w'.cell? ⟨w.heap.size, 0, none⟩ = some (.int .i64 4) := blk_cell hSw.1 0; clear hSw; go_simp
  simp only [Act.put, List.setIfInBounds_toArray, List.set_cons_zero, List.set_cons_succ, List.getElem_toArray, List.getElem_cons_zero, List.getElem_cons_succ]
  refine wpAnyH_take (i := 2) (v := .bool false) rfl (by kernel_rfl) (by kernel_rfl) (by kernel_rfl) (fun _ _ _ h => h) (Or.inl ⟨by kernel_rfl, ?_⟩) (by assumption) ?_
  · intro w' _; go_simp
  simp only [Act.put, List.setIfInBounds_toArray, List.set_cons_zero, List.set_cons_succ, List.getElem_toArray, List.getElem_cons_zero, List.getElem_cons_succ]
  refine wpAnyH_take (i := 3) (v := .bool false) rfl (by kernel_rfl) (by kernel_rfl) (by kernel_rfl) (fun _ _ _ h => h) (Or.inl ⟨by kernel_rfl, ?_⟩) (by assumption) ?_
  · intro w' _; go_simp
  simp only [Act.put, List.setIfInBounds_toArray, List.set_cons_zero, List.set_cons_succ, List.getElem_toArray, List.getElem_cons_zero, List.getElem_cons_succ]
  refine wpAnyH_take (i := 4) (v := .pointer (some ⟨w.heap.size, 0, none⟩)) rfl (by kernel_rfl) (by kernel_rfl) (by kernel_rfl) (fun _ _ _ h => h) (Or.inl ⟨by kernel_rfl, ?_⟩) (by assumption) ?_
  · intro w' _; go_simp
  simp only [Act.put, List.setIfInBounds_toArray, List.set_cons_zero, List.set_cons_succ, List.getElem_toArray, List.getElem_cons_zero, List.getElem_cons_succ]
  refine wpAnyH_take (i := 5) (v := .int .i64 4) rfl (by kernel_rfl) (by kernel_rfl) (by kernel_rfl) (fun _ _ _ h => h) (Or.inl ⟨by kernel_rfl, ?_⟩) (by assumption) ?_
  · intro w' hSw; have hc : w'.cell? ⟨w.heap.size, 0, none⟩ = some (.int .i64 4) := blk_cell hSw.1 0; clear hSw; go_simp
  simp only [Act.put, List.setIfInBounds_toArray, List.set_cons_zero, List.set_cons_succ, List.getElem_toArray, List.getElem_cons_zero, List.getElem_cons_succ]
  refine wpAnyH_take (i := 6) (v := .bool false) rfl (by kernel_rfl) (by kernel_rfl) (by kernel_rfl) (fun _ _ _ h => h) (Or.inl ⟨by kernel_rfl, ?_⟩) (by assumption) ?_
  · intro w' _; go_simp
  simp only [Act.put, List.setIfInBounds_toArray, List.set_cons_zero, List.set_cons_succ, List.getElem_toArray, List.getElem_cons_zero, List.getElem_cons_succ]
  refine wpAnyH_take (i := 7) (v := .bool false) rfl (by kernel_rfl) (by kernel_rfl) (by kernel_rfl) (fun _ _ _ h => h) (Or.inl ⟨by kernel_rfl, ?_⟩) (by assumption) ?_
  · intro w' _; go_simp
  simp only [Act.put, List.setIfInBounds_toArray, List.set_cons_zero, List.set_cons_succ, List.getElem_toArray, List.getElem_cons_zero, List.getElem_cons_succ]
  refine wpAnyH_take (i := 8) (v := .bool false) rfl (by kernel_rfl) (by kernel_rfl) (by kernel_rfl) (fun _ _ _ h => h) (Or.inl ⟨by kernel_rfl, ?_⟩) (by assumption) ?_
  · intro w' _; go_simp
  simp only [Act.put, List.setIfInBounds_toArray, List.set_cons_zero, List.set_cons_succ, List.getElem_toArray, List.getElem_cons_zero, List.getElem_cons_succ]
  refine wpAnyH_take (i := 9) (v := .pointer (some ⟨w.heap.size, 1, none⟩)) rfl (by kernel_rfl) (by kernel_rfl) (by kernel_rfl) (fun _ _ _ h => h) (Or.inl ⟨by kernel_rfl, ?_⟩) (by assumption) ?_
  · intro w' _; go_simp
  simp only [Act.put, List.setIfInBounds_toArray, List.set_cons_zero, List.set_cons_succ, List.getElem_toArray, List.getElem_cons_zero, List.getElem_cons_succ]
  refine wpAnyH_take (i := 10) (v := .int .i64 0) rfl (by kernel_rfl) (by kernel_rfl) (by kernel_rfl) (fun _ _ _ h => h) (Or.inl ⟨by kernel_rfl, ?_⟩) (by assumption) ?_
  · intro w' hSw; have hc : w'.cell? ⟨w.heap.size, 1, none⟩ = some (.int .i64 0) := blk_cell hSw.1 1; clear hSw; go_simp
  simp only [Act.put, List.setIfInBounds_toArray, List.set_cons_zero, List.set_cons_succ, List.getElem_toArray, List.getElem_cons_zero, List.getElem_cons_succ]
  refine wpAnyH_take (i := 11) (v := .bool false) rfl (by kernel_rfl) (by kernel_rfl) (by kernel_rfl) (fun _ _ _ h => h) (Or.inl ⟨by kernel_rfl, ?_⟩) (by assumption) ?_
  · intro w' _; go_simp
  simp only [Act.put, List.setIfInBounds_toArray, List.set_cons_zero, List.set_cons_succ, List.getElem_toArray, List.getElem_cons_zero, List.getElem_cons_succ]
  refine wpAnyH_take (i := 12) (v := .bool false) rfl (by kernel_rfl) (by kernel_rfl) (by kernel_rfl) (fun _ _ _ h => h) (Or.inl ⟨by kernel_rfl, ?_⟩) (by assumption) ?_
  · intro w' _; go_simp
  simp only [Act.put, List.setIfInBounds_toArray, List.set_cons_zero, List.set_cons_succ, List.getElem_toArray, List.getElem_cons_zero, List.getElem_cons_succ]
  refine wpAnyH_take (i := 13) (v := .bool false) rfl (by kernel_rfl) (by kernel_rfl) (by kernel_rfl) (fun _ _ _ h => h) (Or.inl ⟨by kernel_rfl, ?_⟩) (by assumption) ?_
  · intro w' _; go_simp
  simp only [Act.put, List.setIfInBounds_toArray, List.set_cons_zero, List.set_cons_succ, List.getElem_toArray, List.getElem_cons_zero, List.getElem_cons_succ]
  refine wpAnyH_take (i := 14) (v := .pointer (some ⟨w.heap.size, 1, none⟩)) rfl (by kernel_rfl) (by kernel_rfl) (by kernel_rfl) (fun _ _ _ h => h) (Or.inl ⟨by kernel_rfl, ?_⟩) (by assumption) ?_
  · intro w' _; go_simp
  simp only [Act.put, List.setIfInBounds_toArray, List.set_cons_zero, List.set_cons_succ, List.getElem_toArray, List.getElem_cons_zero, List.getElem_cons_succ]
  refine wpAnyH_take (i := 15) (v := .int .i64 0) rfl (by kernel_rfl) (by kernel_rfl) (by kernel_rfl) (fun _ _ _ h => h) (Or.inl ⟨by kernel_rfl, ?_⟩) (by assumption) ?_
  · intro w' hSw; have hc : w'.cell? ⟨w.heap.size, 1, none⟩ = some (.int .i64 0) := blk_cell hSw.1 1; clear hSw; go_simp
  simp only [Act.put, List.setIfInBounds_toArray, List.set_cons_zero, List.set_cons_succ, List.getElem_toArray, List.getElem_cons_zero, List.getElem_cons_succ]
  refine wpAnyH_take (i := 16) (v := .pointer (some ⟨w.heap.size, 0, none⟩)) rfl (by kernel_rfl) (by kernel_rfl) (by kernel_rfl) (fun _ _ _ h => h) (Or.inl ⟨by kernel_rfl, ?_⟩) (by assumption) ?_
  · intro w' _; go_simp
  simp only [Act.put, List.setIfInBounds_toArray, List.set_cons_zero, List.set_cons_succ, List.getElem_toArray, List.getElem_cons_zero, List.getElem_cons_succ]
  refine wpAnyH_take (i := 17) (v := .int .i64 4) rfl (by kernel_rfl) (by kernel_rfl) (by kernel_rfl) (fun _ _ _ h => h) (Or.inl ⟨by kernel_rfl, ?_⟩) (by assumption) ?_
  · intro w' hSw; have hc : w'.cell? ⟨w.heap.size, 0, none⟩ = some (.int .i64 4) := blk_cell hSw.1 0; clear hSw; go_simp
  simp only [Act.put, List.setIfInBounds_toArray, List.set_cons_zero, List.set_cons_succ, List.getElem_toArray, List.getElem_cons_zero, List.getElem_cons_succ]
  refine wpAnyH_ready (rs := [18]) (by kernel_rfl) (by simp) ?_
  refine AllReadyH.cons rfl (fun K' hK => ?_) AllReadyH.nil
  go_simp
  refine (flags_set _).mono ?_
  rintro e w1 ⟨rfl, rfl⟩
  go_wp2_with fail
  refine hK.out _ _ hHeld (fun _ => ?_)
  clear hK K'
  try simp only [Act.put, List.setIfInBounds_toArray, List.set_cons_zero, List.set_cons_succ, List.getElem_toArray, List.getElem_cons_zero, List.getElem_cons_succ]
  refine wpAnyH_take (i := 19) (v := .int .i64 0) rfl (by kernel_rfl) (by kernel_rfl) (by kernel_rfl) (fun _ _ _ h => h) (Or.inl ⟨by kernel_rfl, ?_⟩) (by assumption) ?_
  · intro w' _; go_simp; try rfl
  simp only [Act.put, List.setIfInBounds_toArray, List.set_cons_zero, List.set_cons_succ, List.getElem_toArray, List.getElem_cons_zero, List.getElem_cons_succ]
  refine wpAnyH_take (i := 20) (v := .bool false) rfl (by kernel_rfl) (by kernel_rfl) (by kernel_rfl) (fun _ _ _ h => h) (Or.inl ⟨by kernel_rfl, ?_⟩) (by assumption) ?_
  · intro w' _; go_simp
  simp only [Act.put, List.setIfInBounds_toArray, List.set_cons_zero, List.set_cons_succ, List.getElem_toArray, List.getElem_cons_zero, List.getElem_cons_succ]
  refine wpAnyH_take (i := 21) (v := .bool false) rfl (by kernel_rfl) (by kernel_rfl) (by kernel_rfl) (fun _ _ _ h => h) (Or.inl ⟨by kernel_rfl, ?_⟩) (by assumption) ?_
  · intro w' _; go_simp
  simp only [Act.put, List.setIfInBounds_toArray, List.set_cons_zero, List.set_cons_succ, List.getElem_toArray, List.getElem_cons_zero, List.getElem_cons_succ]
  refine wpAnyH_take (i := 22) (v := .bool false) rfl (by kernel_rfl) (by kernel_rfl) (by kernel_rfl) (fun _ _ _ h => h) (Or.inl ⟨by kernel_rfl, ?_⟩) (by assumption) ?_
  · intro w' _; go_simp
  simp only [Act.put, List.setIfInBounds_toArray, List.set_cons_zero, List.set_cons_succ, List.getElem_toArray, List.getElem_cons_zero, List.getElem_cons_succ]
  refine wpAnyH_take (i := 23) (v := .agg (fSc (.slice sa l.length sc))) rfl (by kernel_rfl) (by kernel_rfl) (by kernel_rfl) (fun _ _ _ h => h) (Or.inl ⟨by kernel_rfl, ?_⟩) (by assumption) ?_
  · intro w' hSw; exact exec_load_at _ _ rfl w.heap.size 0 rfl (fSc (.slice sa l.length sc)) (fun j v hj => by rw [Nat.zero_add, blk_cell hSw.1]; exact hj) Tryd.underlying35 infoFs
  simp only [Act.put, List.setIfInBounds_toArray, List.set_cons_zero, List.set_cons_succ, List.getElem_toArray, List.getElem_cons_zero, List.getElem_cons_succ]
  refine wpAnyH_ready (rs := [24]) (by kernel_rfl) (by simp) ?_
  refine AllReadyH.cons rfl (fun K' hK => ?_) AllReadyH.nil
  go_simp
  refine (clean_set (HS.out.below hHeld.2.1)).mono ?_
  rintro e w1 ⟨rfl, b1⟩
  have hb1 := blk_below hHeld.1 b1
  have hB1 := Below.then hHeld.2.1 (Nat.le_refl _) b1
  go_wp2_with fail
  refine hK.out _ _ ⟨hb1, hB1, fS_cells hb1⟩ (fun hHeld1 => ?_)
  clear hK K' hHeld
  try simp only [Act.put, List.setIfInBounds_toArray, List.set_cons_zero, List.set_cons_succ, List.getElem_toArray, List.getElem_cons_zero, List.getElem_cons_succ]
  refine wpAnyH_take (i := 25) (v := .bool false) rfl (by kernel_rfl) (by kernel_rfl) (by kernel_rfl) (fun _ _ _ h => h) (Or.inl ⟨by kernel_rfl, ?_⟩) (by assumption) ?_
  · intro w' _; go_simp
  simp only [Act.put, List.setIfInBounds_toArray, List.set_cons_zero, List.set_cons_succ, List.getElem_toArray, List.getElem_cons_zero, List.getElem_cons_succ]
  refine wpAnyH_take (i := 26) (v := .bool false) rfl (by kernel_rfl) (by kernel_rfl) (by kernel_rfl) (fun _ _ _ h => h) (Or.inl ⟨by kernel_rfl, ?_⟩) (by assumption) ?_
  · intro w' _; go_simp
  simp only [Act.put, List.setIfInBounds_toArray, List.set_cons_zero, List.set_cons_succ, List.getElem_toArray, List.getElem_cons_zero, List.getElem_cons_succ]
  refine wpAnyH_take (i := 27) (v := .bool false) rfl (by kernel_rfl) (by kernel_rfl) (by kernel_rfl) (fun _ _ _ h => h) (Or.inl ⟨by kernel_rfl, ?_⟩) (by assumption) ?_
  · intro w' _; go_simp
  simp only [Act.put, List.setIfInBounds_toArray, List.set_cons_zero, List.set_cons_succ, List.getElem_toArray, List.getElem_cons_zero, List.getElem_cons_succ]
  refine wpAnyH_take (i := 28) (v := .pointer (some ⟨w.heap.size, 2, none⟩)) rfl (by kernel_rfl) (by kernel_rfl) (by kernel_rfl) (fun _ _ _ h => h) (Or.inl ⟨by kernel_rfl, ?_⟩) (by assumption) ?_
  · intro w' _; go_simp
  simp only [Act.put, List.setIfInBounds_toArray, List.set_cons_zero, List.set_cons_succ, List.getElem_toArray, List.getElem_cons_zero, List.getElem_cons_succ]
  refine wpAnyH_take (i := 29) (v := .int .u32 0) rfl (by kernel_rfl) (by kernel_rfl) (by kernel_rfl) (fun _ _ _ h => h) (Or.inl ⟨by kernel_rfl, ?_⟩) (by assumption) ?_
  · intro w' hSw; have hc : w'.cell? ⟨w.heap.size, 2, none⟩ = some (.int .u32 0) := blk_cell hSw.1 2; clear hSw; go_simp
  simp only [Act.put, List.setIfInBounds_toArray, List.set_cons_zero, List.set_cons_succ, List.getElem_toArray, List.getElem_cons_zero, List.getElem_cons_succ]
  refine wpAnyH_take (i := 30) (v := .bool false) rfl (by kernel_rfl) (by kernel_rfl) (by kernel_rfl) (fun _ _ _ h => h) (Or.inl ⟨by kernel_rfl, ?_⟩) (by assumption) ?_
  · intro w' _; go_simp
  simp only [Act.put, List.setIfInBounds_toArray, List.set_cons_zero, List.set_cons_succ, List.getElem_toArray, List.getElem_cons_zero, List.getElem_cons_succ]
  refine wpAnyH_take (i := 31) (v := .bool false) rfl (by kernel_rfl) (by kernel_rfl) (by kernel_rfl) (fun _ _ _ h => h) (Or.inl ⟨by kernel_rfl, ?_⟩) (by assumption) ?_
  · intro w' _; go_simp
  simp only [Act.put, List.setIfInBounds_toArray, List.set_cons_zero, List.set_cons_succ, List.getElem_toArray, List.getElem_cons_zero, List.getElem_cons_succ]
  refine wpAnyH_take (i := 32) (v := .bool false) rfl (by kernel_rfl) (by kernel_rfl) (by kernel_rfl) (fun _ _ _ h => h) (Or.inl ⟨by kernel_rfl, ?_⟩) (by assumption) ?_
  · intro w' _; go_simp
  simp only [Act.put, List.setIfInBounds_toArray, List.set_cons_zero, List.set_cons_succ, List.getElem_toArray, List.getElem_cons_zero, List.getElem_cons_succ]
  refine wpAnyH_take (i := 33) (v := .pointer (some ⟨w.heap.size, 4, none⟩)) rfl (by kernel_rfl) (by kernel_rfl) (by kernel_rfl) (fun _ _ _ h => h) (Or.inl ⟨by kernel_rfl, ?_⟩) (by assumption) ?_
  · intro w' _; go_simp
  simp only [Act.put, List.setIfInBounds_toArray, List.set_cons_zero, List.set_cons_succ, List.getElem_toArray, List.getElem_cons_zero, List.getElem_cons_succ]
  refine wpAnyH_take (i := 34) (v := .slice none 0 0) rfl (by kernel_rfl) (by kernel_rfl) (by kernel_rfl) (fun _ _ _ h => h) (Or.inl ⟨by kernel_rfl, ?_⟩) (by assumption) ?_
  · intro w' hSw; have hc : w'.cell? ⟨w.heap.size, 4, none⟩ = some (.slice none 0 0) := blk_cell hSw.1 4; clear hSw; go_simp
  simp only [Act.put, List.setIfInBounds_toArray, List.set_cons_zero, List.set_cons_succ, List.getElem_toArray, List.getElem_cons_zero, List.getElem_cons_succ]
  refine wpAnyH_take (i := 35) (v := .int .i64 0) rfl (by kernel_rfl) (by kernel_rfl) (by kernel_rfl) (fun _ _ _ h => h) (Or.inl ⟨by kernel_rfl, ?_⟩) (by assumption) ?_
  · intro w' _; go_simp; try rfl
  simp only [Act.put, List.setIfInBounds_toArray, List.set_cons_zero, List.set_cons_succ, List.getElem_toArray, List.getElem_cons_zero, List.getElem_cons_succ]
  refine wpAnyH_take (i := 36) (v := .bool false) rfl (by kernel_rfl) (by kernel_rfl) (by kernel_rfl) (fun _ _ _ h => h) (Or.inl ⟨by kernel_rfl, ?_⟩) (by assumption) ?_
  · intro w' _; go_simp
  simp only [Act.put, List.setIfInBounds_toArray, List.set_cons_zero, List.set_cons_succ, List.getElem_toArray, List.getElem_cons_zero, List.getElem_cons_succ]
  refine wpAnyH_take (i := 37) (v := .bool false) rfl (by kernel_rfl) (by kernel_rfl) (by kernel_rfl) (fun _ _ _ h => h) (Or.inl ⟨by kernel_rfl, ?_⟩) (by assumption) ?_
  · intro w' _; go_simp
  simp only [Act.put, List.setIfInBounds_toArray, List.set_cons_zero, List.set_cons_succ, List.getElem_toArray, List.getElem_cons_zero, List.getElem_cons_succ]
  refine wpAnyH_take (i := 38) (v := .bool false) rfl (by kernel_rfl) (by kernel_rfl) (by kernel_rfl) (fun _ _ _ h => h) (Or.inl ⟨by kernel_rfl, ?_⟩) (by assumption) ?_
  · intro w' _; go_simp
  simp only [Act.put, List.setIfInBounds_toArray, List.set_cons_zero, List.set_cons_succ, List.getElem_toArray, List.getElem_cons_zero, List.getElem_cons_succ]
  refine wpAnyH_take (i := 39) (v := .pointer (some ⟨w.heap.size, 3, none⟩)) rfl (by kernel_rfl) (by kernel_rfl) (by kernel_rfl) (fun _ _ _ h => h) (Or.inl ⟨by kernel_rfl, ?_⟩) (by assumption) ?_
  · intro w' _; go_simp
  simp only [Act.put, List.setIfInBounds_toArray, List.set_cons_zero, List.set_cons_succ, List.getElem_toArray, List.getElem_cons_zero, List.getElem_cons_succ]
  refine wpAnyH_take (i := 40) (v := .int .i64 0) rfl (by kernel_rfl) (by kernel_rfl) (by kernel_rfl) (fun _ _ _ h => h) (Or.inl ⟨by kernel_rfl, ?_⟩) (by assumption) ?_
  · intro w' hSw; have hc : w'.cell? ⟨w.heap.size, 3, none⟩ = some (.int .i64 0) := blk_cell hSw.1 3; clear hSw; go_simp
  simp only [Act.put, List.setIfInBounds_toArray, List.set_cons_zero, List.set_cons_succ, List.getElem_toArray, List.getElem_cons_zero, List.getElem_cons_succ]
  refine wpAnyH_take (i := 41) (v := .bool false) rfl (by kernel_rfl) (by kernel_rfl) (by kernel_rfl) (fun _ _ _ h => h) (Or.inl ⟨by kernel_rfl, ?_⟩) (by assumption) ?_
  · intro w' _; go_simp
  simp only [Act.put, List.setIfInBounds_toArray, List.set_cons_zero, List.set_cons_succ, List.getElem_toArray, List.getElem_cons_zero, List.getElem_cons_succ]
  refine wpAnyH_take (i := 42) (v := .bool false) rfl (by kernel_rfl) (by kernel_rfl) (by kernel_rfl) (fun _ _ _ h => h) (Or.inl ⟨by kernel_rfl, ?_⟩) (by assumption) ?_
  · intro w' _; go_simp
  simp only [Act.put, List.setIfInBounds_toArray, List.set_cons_zero, List.set_cons_succ, List.getElem_toArray, List.getElem_cons_zero, List.getElem_cons_succ]
  refine wpAnyH_take (i := 43) (v := .bool false) rfl (by kernel_rfl) (by kernel_rfl) (by kernel_rfl) (fun _ _ _ h => h) (Or.inl ⟨by kernel_rfl, ?_⟩) (by assumption) ?_
  · intro w' _; go_simp
  simp only [Act.put, List.setIfInBounds_toArray, List.set_cons_zero, List.set_cons_succ, List.getElem_toArray, List.getElem_cons_zero, List.getElem_cons_succ]
  refine wpAnyH_take (i := 44) (v := .pointer (some ⟨w.heap.size, 12, none⟩)) rfl (by kernel_rfl) (by kernel_rfl) (by kernel_rfl) (fun _ _ _ h => h) (Or.inl ⟨by kernel_rfl, ?_⟩) (by assumption) ?_
  · intro w' _; go_simp
  simp only [Act.put, List.setIfInBounds_toArray, List.set_cons_zero, List.set_cons_succ, List.getElem_toArray, List.getElem_cons_zero, List.getElem_cons_succ]
  refine wpAnyH_take (i := 45) (v := .int .i64 0) rfl (by kernel_rfl) (by kernel_rfl) (by kernel_rfl) (fun _ _ _ h => h) (Or.inl ⟨by kernel_rfl, ?_⟩) (by assumption) ?_
  · intro w' hSw; have hc : w'.cell? ⟨w.heap.size, 12, none⟩ = some (.int .i64 0) := blk_cell hSw.1 12; clear hSw; go_simp
  simp only [Act.put, List.setIfInBounds_toArray, List.set_cons_zero, List.set_cons_succ, List.getElem_toArray, List.getElem_cons_zero, List.getElem_cons_succ]
  refine wpAnyH_take (i := 46) (v := .bool false) rfl (by kernel_rfl) (by kernel_rfl) (by kernel_rfl) (fun _ _ _ h => h) (Or.inl ⟨by kernel_rfl, ?_⟩) (by assumption) ?_
  · intro w' _; go_simp
  simp only [Act.put, List.setIfInBounds_toArray, List.set_cons_zero, List.set_cons_succ, List.getElem_toArray, List.getElem_cons_zero, List.getElem_cons_succ]
  refine wpAnyH_take (i := 47) (v := .bool false) rfl (by kernel_rfl) (by kernel_rfl) (by kernel_rfl) (fun _ _ _ h => h) (Or.inl ⟨by kernel_rfl, ?_⟩) (by assumption) ?_
  · intro w' _; go_simp
  simp only [Act.put, List.setIfInBounds_toArray, List.set_cons_zero, List.set_cons_succ, List.getElem_toArray, List.getElem_cons_zero, List.getElem_cons_succ]
  refine wpAnyH_take (i := 48) (v := .bool false) rfl (by kernel_rfl) (by kernel_rfl) (by kernel_rfl) (fun _ _ _ h => h) (Or.inl ⟨by kernel_rfl, ?_⟩) (by assumption) ?_
  · intro w' _; go_simp
  simp only [Act.put, List.setIfInBounds_toArray, List.set_cons_zero, List.set_cons_succ, List.getElem_toArray, List.getElem_cons_zero, List.getElem_cons_succ]
  refine wpAnyH_take (i := 49) (v := .pointer (some ⟨w.heap.size, 12, none⟩)) rfl (by kernel_rfl) (by kernel_rfl) (by kernel_rfl) (fun _ _ _ h => h) (Or.inl ⟨by kernel_rfl, ?_⟩) (by assumption) ?_
  · intro w' _; go_simp
  simp only [Act.put, List.setIfInBounds_toArray, List.set_cons_zero, List.set_cons_succ, List.getElem_toArray, List.getElem_cons_zero, List.getElem_cons_succ]
  refine wpAnyH_take (i := 50) (v := .int .i64 0) rfl (by kernel_rfl) (by kernel_rfl) (by kernel_rfl) (fun _ _ _ h => h) (Or.inl ⟨by kernel_rfl, ?_⟩) (by assumption) ?_
  · intro w' hSw; have hc : w'.cell? ⟨w.heap.size, 12, none⟩ = some (.int .i64 0) := blk_cell hSw.1 12; clear hSw; go_simp
  simp only [Act.put, List.setIfInBounds_toArray, List.set_cons_zero, List.set_cons_succ, List.getElem_toArray, List.getElem_cons_zero, List.getElem_cons_succ]
  refine wpAnyH_take (i := 51) (v := .bool false) rfl (by kernel_rfl) (by kernel_rfl) (by kernel_rfl) (fun _ _ _ h => h) (Or.inl ⟨by kernel_rfl, ?_⟩) (by assumption) ?_
  · intro w' _; go_simp
  simp only [Act.put, List.setIfInBounds_toArray, List.set_cons_zero, List.set_cons_succ, List.getElem_toArray, List.getElem_cons_zero, List.getElem_cons_succ]
  refine wpAnyH_take (i := 52) (v := .bool false) rfl (by kernel_rfl) (by kernel_rfl) (by kernel_rfl) (fun _ _ _ h => h) (Or.inl ⟨by kernel_rfl, ?_⟩) (by assumption) ?_
  · intro w' _; go_simp
  simp only [Act.put, List.setIfInBounds_toArray, List.set_cons_zero, List.set_cons_succ, List.getElem_toArray, List.getElem_cons_zero, List.getElem_cons_succ]
  refine wpAnyH_done (by kernel_rfl) ?_ _
  obtain ⟨hF1, hB1, c0, c1, c2, c3, c4, c5, c6, c7, c8, c9, c10, c11, c12, c13⟩ := hHeld1
  clear hb1 b1 HH0
  have HF1 := Lib.hid hF1
  have HB1 := Lib.hid hB1
  clear hF1 hB1
  go_wp2_with (go_at_call 39; refine (zero_nil _).mono ?_; rintro e w2 ⟨rfl, rfl⟩)
  clear c0 c1 c2 c3 c4 c5 c6 c7 c8 c9 c10 c11 c12 c13
  go_loopw [146] (fun i wr => ∃ k : Nat, k ≤ l.length ∧ i = .int .i64 k ∧ (∀ p ∈ l.take k, 0 ≤ p.1 ∧ p.1 < 65536 ∧ 0 ≤ p.2 ∧ p.2 < 4294967296 ∧ (p.1 = 4 → p.2 ≤ 2147483647)) ∧ Below w.heap.size w wr ∧ wr.heap[w.heap.size]? = some (.cells (fSc (.slice sa l.length sc)) 35 (0, 0))) (fun i _ => l.length - (intOf i).toNat)
  case atStart => exact ⟨0, Nat.zero_le _, rfl, fun p hp => by simp at hp, HB1.out, HF1.out⟩
  case round =>
    obtain ⟨k, hk, rfl, hok, hbel, hF⟩ := hrel
    have HOK := Lib.hid hok
    have HF := Lib.hid hF
    clear hok hF
    by_cases hlt : k < l.length
    · obtain ⟨_, _, e, -, -, hq⟩ := HS.out.below hbel
      cases e
      obtain ⟨b, o, rfl, d1, d2⟩ := hq k _ (List.getElem?_eq_getElem hlt)
      obtain ⟨u0, u1⟩ := HU.out _ (List.getElem_mem hlt)
      have hsn : l.take (k + 1) = l.take k ++ [l[k]] := List.take_succ_eq_append_getElem hlt
      have hpr : l[k] = (l[k].1, l[k].2) := rfl
      have HSN : Hid (l.take (k + 1) = l.take k ++ [(l[k].1, l[k].2)]) := Lib.hid hsn
      have hbx : Below w.heap.size w (wr.alloc (.cells #[.int .i64 l[k].1, .int .u32 l[k].2] 101)) := Below.then hbel (Nat.le_refl _) (((Kept.refl (· < wr.heap.size) wr).alloc _).below (Nat.le_refl _))
      clear hq hsn hpr
      generalize l[k].1 = id at *
      generalize l[k].2 = vl at *
      by_cases h1 : id < 0
      · go_upto_region 12 with (refine wpList_load_at rfl 101 _ rfl b _ rfl #[.int .i64 id, .int .u32 vl] (two_at d1 d2 (by simp; omega)) Tryd.underlying101 infoSs' ?_)
        go_wp2_with fail
        go_ret
        exact ⟨false, rfl, by simp, hbx⟩
      by_cases h2 : 65535 < id
      · go_upto_region 12 with (refine wpList_load_at rfl 101 _ rfl b _ rfl #[.int .i64 id, .int .u32 vl] (two_at d1 d2 (by simp; omega)) Tryd.underlying101 infoSs' ?_)
        go_wp2_with fail
        go_ret
        exact ⟨false, rfl, by simp, hbx⟩
      by_cases h4 : id = 4
      · subst h4
        by_cases h5 : 2147483647 < vl
        · go_upto_region 12 with (refine wpList_load_at rfl 101 _ rfl b _ rfl #[.int .i64 4, .int .u32 vl] (two_at d1 d2 (by simp; omega)) Tryd.underlying101 infoSs' ?_)
          go_wp2_with fail
          go_ret
          exact ⟨false, rfl, by simp, hbx⟩
        · go_upto_region 12 with (refine wpList_load_at rfl 101 _ rfl b _ rfl #[.int .i64 4, .int .u32 vl] (two_at d1 d2 (by simp; omega)) Tryd.underlying101 infoSs' ?_)
          go_wp2_with fail
          go_roundw
          case rel =>
            refine ⟨k + 1, by omega, by go_num, fun p hp => ?_, hbx, blk_alloc HF.out⟩
            rw [HSN.out] at hp
            rcases List.mem_append.1 hp with h | h
            · exact HOK.out p h
            · rw [List.mem_singleton] at h
              subst h
              exact ⟨by omega, by omega, u0, u1, fun _ => by omega⟩
          case measure => simp [intOf]; omega
      · have h4b : (id == 4) = false := beq_false_of_ne h4
        have H4 := Lib.hid h4
        clear h4
        go_upto_region 12 with (refine wpList_load_at rfl 101 _ rfl b _ rfl #[.int .i64 id, .int .u32 vl] (two_at d1 d2 (by simp; omega)) Tryd.underlying101 infoSs' ?_)
        go_wp2_with fail
        go_roundw
        case rel =>
          refine ⟨k + 1, by omega, by go_num, fun p hp => ?_, hbx, blk_alloc HF.out⟩
          rw [HSN.out] at hp
          rcases List.mem_append.1 hp with h | h
          · exact HOK.out p h
          · rw [List.mem_singleton] at h
            subst h
            exact ⟨by omega, by omega, u0, u1, fun e => absurd e H4.out⟩
        case measure => simp [intOf]; omega
    · have hkl : k = l.length := by omega
      subst hkl
      have hall := HOK.out
      rw [List.take_length] at hall
      have HALL := Lib.hid hall
      obtain ⟨c0, c1, c2, c3, c4, c5, c6, c7, c8, c9, c10, c11, c12, c13⟩ := fS_cells HF.out
      clear hall
      go_wp2
      go_ret
      exact ⟨decide ((l.length : Int) < 1000), rfl, fun h => ⟨HALL.out, by have := of_decide_eq_true h; omega⟩, hbel⟩
end Go.Proofs.YtfdlbjibninakaaDoor
