/- spec.Bytes at a SETTINGS frame. -/
import Derived.Test.YtfdlbjibninakaaDoorQSb
import Derived.Test.YtfdlbjibninakaaDoorQCf
import Derived.Test.YtfdlbjibninakaaDoorQMw
import Derived.Deep.RegionHeld3
import Derived.Deep.CutRange
import Derived.Outline
set_option linter.unusedVariables false
set_option linter.unusedSimpArgs false
namespace Go.Proofs.YtfdlbjibninakaaDoor
open Go.RowKit
theorem infoSb : (Tryd.prog.info? 101).map (·.size) = some 2 := by kernel_rfl
theorem wSet_snoc' (l : List (Int × Int)) (p : Int × Int) : Pl.wSet (l ++ [p]) = Pl.wSet l ++ be16 p.1 ++ be32 p.2 := by
  induction l with
  | nil => simp [Pl.wSet, Pl.w16, Pl.w32, be16, be32]
  | cons q l ih => rw [List.cons_append, Pl.wSet, Pl.wSet, ih]; simp only [List.append_assoc]
theorem be32_len (v : Int) : (be32 v).length = 4 := rfl
theorem be16_len (v : Int) : (be16 v).length = 2 := rfl
/-- A slice of bytes that has grown by those of a call. -/
structure Grew (w : World) (v : Value) (l : List Int) (w' : World) : Prop where
  own : Row w' 5 1 v l.length (bv l)
  fr : Fresh w.heap.size v
  B : Below w.heap.size w w'
theorem Grew.below {w w1 w2 : World} {v : Value} {l : List Int} (h : Grew w v l w1) (hb : Below w1.heap.size w1 w2) : Grew w v l w2 := ⟨own_below h.own hb, h.fr, Below.then h.B (Nat.le_refl _) hb⟩
theorem blkEqB {w : World} {b : Nat} {cs cs' : Array Value} {t : TypeId} {fr : Nat × Nat} (h : w.heap[b]? = some (.cells cs t fr)) (e : cs = cs') : w.heap[b]? = some (.cells cs' t fr) := e ▸ h
theorem Grew.app {w w1 w2 : World} {v : Value} {l m : List Int} {a' : Option Addr} {c' : Nat} (h : Grew w v l w1) (own : Row w2 5 1 (.slice a' (l.length + m.length) c') (l.length + m.length) (bv l ++ bv m)) (hg : w1.grownBy w2 v.ownBlock)
    (hat : (Value.slice a' (l.length + m.length) c').ownBlock = v.ownBlock ∨ (Value.slice a' (l.length + m.length) c').ownBlock = some w1.heap.size) : Grew w (.slice a' (l.length + m.length) c') (l ++ m) w2 :=
  ⟨by rw [List.length_append, bv_append]; exact own, h.fr.app h.B.size hat, Below.app h.B h.B.size hg h.fr⟩
set_option maxRecDepth 100000 in
set_option maxHeartbeats 16000000 in
theorem bytes_set {w : World} {x : Fr} {dv : Value} {sv pv : Value} {q : Bool} (hs : RdP w sv x.set) (hl : x.set.length ≤ 1000) (ht : x.ty = 4) (hf0 : 0 ≤ x.fl) (hf1 : x.fl < 256) (hs0 : 0 ≤ x.st) (hs1 : x.st < 4294967296) (hb : ∀ p ∈ x.set, 0 ≤ p.1 ∧ p.1 < 65536 ∧ 0 ≤ p.2 ∧ p.2 < 4294967296) :
    Calls Tryd.prog 21 #[.agg (frX x dv sv), pv, .bool q] w (RetB w (hdrS (Pl.wSet x.set).length 4 x.fl x.st ++ Pl.wSet x.set)) := by
  obtain ⟨sa, sc, rfl, hsc, hsm, -⟩ := id hs
  have hB0 : Below w.heap.size w (w.alloc (.cells (frX x dv (.slice sa x.set.length sc)) 35)) := ((Kept.refl (· < w.heap.size) w).alloc _).below (Nat.le_refl _)
  have hF0 : (w.alloc (.cells (frX x dv (.slice sa x.set.length sc)) 35)).heap[w.heap.size]? = some (.cells (frX x dv (.slice sa x.set.length sc)) 35 (0, 0)) := blk_new w _
  have HS := Lib.hid hs
  have HB := Lib.hid hb
  have hwl : (Pl.wSet x.set).length = x.set.length * 6 := Pl.wSet_len _
  have HWL := Lib.hid hwl
  have HF := Lib.hid hF0
  clear hs hb hwl hF0
  have h20 : (0 : Int) ≤ 4 := by omega
  unfold frX frameC at HF hB0 ⊢
  rw [ht] at HF hB0 ⊢
  clear ht
  go_enter Tryd.func21, Tryd.ntmps21
  go_wp2_with fail
  obtain ⟨FC, hFC, q0, q2⟩ : ∃ FC : Array Value, #[.int .i64 4, .int .i64 x.fl, .int .u32 x.st, .int .i64 x.ln, dv, .int .u32 x.pr, .int .u32 x.la, .int .u32 x.co, .int .u32 x.inc, .bool x.hp, .bool x.ex, .int .u32 x.dep, .int .i64 x.wt, .slice sa x.set.length sc] = FC ∧ FC[0]? = some (.int .i64 4) ∧ FC[2]? = some (.int .u32 x.st) := ⟨_, rfl, rfl, rfl⟩
  have hF2 := blkEqB HF.out hFC
  have HF2 := Lib.hid hF2
  clear hF2
  have Q0 := Lib.hid q0
  have Q2 := Lib.hid q2
  clear q0 q2 hFC
  go_loopw [7, 73] (fun bvv i wr => ∃ k : Nat, k ≤ x.set.length ∧ i = .int .i64 k ∧ Grew w bvv (Pl.wSet (x.set.take k)) wr ∧ wr.heap[w.heap.size]? = some (.cells FC 35 (0, 0))) (fun _ i _ => x.set.length - (intOf i).toNat)
  case atStart => exact ⟨0, Nat.zero_le _, rfl, ⟨by rw [List.take_zero]; exact World.ownsRow_nil _ _ _ _, Fresh.nil _, hB0⟩, HF2.out⟩
  case round =>
    obtain ⟨k, hk, rfl, hG, hFr⟩ := hrel
    obtain ⟨B, hBd⟩ : ∃ B, Pl.wSet (x.set.take k) = B := ⟨_, rfl⟩
    rw [hBd] at hG
    have hBl : B.length ≤ 6000 := by rw [← hBd, Pl.wSet_len, List.length_take]; omega
    obtain ⟨ba, bc, rfl, hbc, hbm⟩ := own_shape hG.own
    have HG := Lib.hid hG
    have HFR := Lib.hid hFr
    by_cases hlt : k < x.set.length
    · obtain ⟨_, _, e, -, -, hq⟩ := HS.out.below hG.B
      cases e
      obtain ⟨b, o, rfl, d1, d2⟩ := hq k _ (List.getElem?_eq_getElem hlt)
      obtain ⟨b0, b1, b2, b3⟩ := HB.out _ (List.getElem_mem hlt)
      have hsn : Pl.wSet (x.set.take (k + 1)) = B ++ be16 x.set[k].1 ++ be32 x.set[k].2 := by rw [List.take_succ_eq_append_getElem hlt, wSet_snoc', hBd]
      have HSN := Lib.hid hsn
      clear hq hsn hBd hG hFr
      generalize x.set[k].1 = id at *
      generalize x.set[k].2 = vl at *
      have hwu : IntKind.u32.wrap id = id := by simp [IntKind.wrap, IntKind.bits, IntKind.signed, show (2 : Int) ^ 32 = 4294967296 from by decide]; omega
      go_upto_region 27 with (refine wpList_load_at rfl 101 _ rfl b _ rfl #[.int .i64 id, .int .u32 vl] (two_at d1 d2 (by simp; omega)) Tryd.underlying101 infoSb ?_)
      have hX : (wr.alloc (.cells #[.int .i64 id, .int .u32 vl] 101)).heap[wr.heap.size]? = some (.cells #[.int .i64 id, .int .u32 vl] 101 (0, 0)) := blk_new wr _
      have bx : Below wr.heap.size wr (wr.alloc (.cells #[.int .i64 id, .int .u32 vl] 101)) := ((Kept.refl (· < wr.heap.size) wr).alloc _).below (Nat.le_refl _)
      have hGx := HG.out.below bx
      obtain ⟨W, hW⟩ : ∃ W, wr.alloc (.cells #[.int .i64 id, .int .u32 vl] 101) = W := ⟨_, rfl⟩
      rw [hW] at hX hGx bx ⊢
      have HFW := Lib.hid (blk_below HFR.out bx)
      clear hW d1 d2
      have HGX := Lib.hid hGx
      clear hGx
      refine wp_region_held_drew (S := fun w' => w'.heap[wr.heap.size]? = some (.cells #[.int .i64 id, .int .u32 vl] 101 (0, 0)) ∧ w'.heap[w.heap.size]? = some (.cells FC 35 (0, 0))) (by kernel_rfl) ⟨hX, HFW.out⟩ (fun hHeld => ?_)
      refine wpAnyH_take (i := 0) (v := .slice ba B.length bc) rfl (by kernel_rfl) (by kernel_rfl) (by kernel_rfl) (fun _ _ _ h => h) (Or.inl ⟨by rfl, ?_⟩) (by assumption) ?_
      · intro w' _; go_simp
      try simp only [Act.put, List.setIfInBounds_toArray, List.set_cons_zero, List.set_cons_succ]
      refine wpAnyH_take (i := 1) (v := .pointer (some ⟨wr.heap.size, 0, none⟩)) rfl (by kernel_rfl) (by kernel_rfl) (by kernel_rfl) (fun _ _ _ h => h) (Or.inl ⟨by rfl, ?_⟩) (by assumption) ?_
      · intro w' _; go_simp
      try simp only [Act.put, List.setIfInBounds_toArray, List.set_cons_zero, List.set_cons_succ]
      refine wpAnyH_take (i := 2) (v := .int .i64 id) rfl (by kernel_rfl) (by kernel_rfl) (by kernel_rfl) (fun _ _ _ h => h) (Or.inl ⟨by rfl, ?_⟩) (by assumption) ?_
      · intro w' hSw; have hc : w'.cell? ⟨wr.heap.size, 0, none⟩ = some (.int .i64 id) := blk_cell hSw.1 0; clear hSw; go_simp
      try simp only [Act.put, List.setIfInBounds_toArray, List.set_cons_zero, List.set_cons_succ]
      refine wpAnyH_take (i := 3) (v := .int .u32 id) rfl (by kernel_rfl) (by kernel_rfl) (by kernel_rfl) (fun _ _ _ h => h) (Or.inl ⟨by rfl, ?_⟩) (by assumption) ?_
      · intro w' _; go_simp
      try simp only [Act.put, List.setIfInBounds_toArray, List.set_cons_zero, List.set_cons_succ]
      refine wpAnyH_take (i := 6) (v := .pointer (some ⟨wr.heap.size, 1, none⟩)) rfl (by kernel_rfl) (by kernel_rfl) (by kernel_rfl) (fun _ _ _ h => h) (Or.inl ⟨by rfl, ?_⟩) (by assumption) ?_
      · intro w' _; go_simp
      try simp only [Act.put, List.setIfInBounds_toArray, List.set_cons_zero, List.set_cons_succ]
      refine wpAnyH_take (i := 7) (v := .int .u32 vl) rfl (by kernel_rfl) (by kernel_rfl) (by kernel_rfl) (fun _ _ _ h => h) (Or.inl ⟨by rfl, ?_⟩) (by assumption) ?_
      · intro w' hSw; have hc : w'.cell? ⟨wr.heap.size, 1, none⟩ = some (.int .u32 vl) := blk_cell hSw.1 1; clear hSw; go_simp
      try simp only [Act.put, List.setIfInBounds_toArray, List.set_cons_zero, List.set_cons_succ]
      have bd : Below W.heap.size W W.drew := (Below.refl _ _).drew
      have G0 := Lib.hid (HGX.out.below bd)
      refine wpAnyH_ready (rs := [4]) (by kernel_rfl) (by simp) ?_
      refine AllReadyH.cons rfl (fun K' hK => ?_) AllReadyH.nil
      go_simp
      refine (bytes2 id _ b0 b1).mono ?_
      rintro e w1 ⟨v1, rfl, h1, o1, f1⟩
      have hh1 := (⟨blk_below hHeld.1 h1, blk_below hHeld.2 h1⟩ : _ ∧ _)
      have G1 := Lib.hid (G0.out.below h1)
      obtain ⟨a1, c1, rfl, -, -⟩ := own_shape o1
      go_wp2_with fail
      refine hK.out _ _ hh1 (fun hHeld1 => ?_)
      clear hK K'
      try simp only [Act.put, List.setIfInBounds_toArray, List.set_cons_zero, List.set_cons_succ]
      refine wpAnyH_ready (rs := [5]) (by kernel_rfl) (by simp) ?_
      refine AllReadyH.cons rfl (fun K' hK => ?_) AllReadyH.nil
      refine step_app E5 rfl _ _ rfl (.slice ba B.length bc) B.length (bv B) rfl G1.out.own (be16 id).length (bv (be16 id)) (src_of_row Tryd.underlying23 o1 (bv_one _)) (by rw [be16_len]; omega) (by rw [be16_len]; unfold maxLen; omega) ?_
      intro a2 c2 w2 own2 g2 t2
      have hh2 := (⟨blk_grown hHeld1.1 g2 (own_block G1.out.own hHeld1.1 (by decide)), blk_grown hHeld1.2 g2 (own_block G1.out.own hHeld1.2 (by decide))⟩ : _ ∧ _)
      have G2 := Lib.hid (G1.out.app own2 g2 t2)
      clear own2 g2 t2
      refine hK.out _ _ hh2 (fun hHeld2 => ?_)
      clear hK K'
      try simp only [Act.put, List.setIfInBounds_toArray, List.set_cons_zero, List.set_cons_succ]
      refine wpAnyH_ready (rs := [8]) (by kernel_rfl) (by simp) ?_
      refine AllReadyH.cons rfl (fun K' hK => ?_) AllReadyH.nil
      go_simp
      refine (bytes4 vl _ b2 b3).mono ?_
      rintro e w3 ⟨v3, rfl, h3, o3, f3⟩
      have hh3 := (⟨blk_below hHeld2.1 h3, blk_below hHeld2.2 h3⟩ : _ ∧ _)
      have G3 := Lib.hid (G2.out.below h3)
      obtain ⟨a3, c3, rfl, -, -⟩ := own_shape o3
      go_wp2_with fail
      refine hK.out _ _ hh3 (fun hHeld3 => ?_)
      clear hK K'
      try simp only [Act.put, List.setIfInBounds_toArray, List.set_cons_zero, List.set_cons_succ]
      refine wpAnyH_ready (rs := [9]) (by kernel_rfl) (by simp) ?_
      refine AllReadyH.cons rfl (fun K' hK => ?_) AllReadyH.nil
      refine step_app E5 rfl _ _ rfl (.slice a2 (B.length + (be16 id).length) c2) (B ++ be16 id).length (bv (B ++ be16 id)) rfl G3.out.own (be32 vl).length (bv (be32 vl)) (src_of_row Tryd.underlying23 o3 (bv_one _)) (by rw [List.length_append, be16_len, be32_len]; omega) (by rw [List.length_append, be16_len, be32_len]; unfold maxLen; omega) ?_
      intro a4 c4 w4 own4 g4 t4
      have hh4 := (⟨blk_grown hHeld3.1 g4 (own_block G3.out.own hHeld3.1 (by decide)), blk_grown hHeld3.2 g4 (own_block G3.out.own hHeld3.2 (by decide))⟩ : _ ∧ _)
      have G4 := Lib.hid (G3.out.app own4 g4 t4)
      clear own4 g4 t4
      refine hK.out _ _ hh4 (fun hHeld4 => ?_)
      clear hK K'
      try simp only [Act.put, List.setIfInBounds_toArray, List.set_cons_zero, List.set_cons_succ]
      refine wpAnyH_take (i := 10) (v := .slice a4 ((B ++ be16 id).length + (be32 vl).length) c4) rfl (by kernel_rfl) (by kernel_rfl) (by kernel_rfl) (fun _ _ _ h => h) (Or.inl ⟨by rfl, ?_⟩) (by assumption) ?_
      · intro w' _; go_simp
      try simp only [Act.put, List.setIfInBounds_toArray, List.set_cons_zero, List.set_cons_succ]
      refine wpAnyH_done (by kernel_rfl) ?_ _
      go_wp2_with fail
      go_roundw
      case rel => exact ⟨k + 1, by omega, by go_num, by rw [HSN.out]; have h := G4.out; rw [List.length_append] at h; exact h, hHeld4.2⟩
      case measure => simp [intOf]; omega
    · have hkl : k = x.set.length := by omega
      subst hkl
      rw [List.take_length] at hBd
      obtain rfl : B = Pl.wSet x.set := hBd.symm
      have hh := headerBytesS_any (Pl.wSet x.set).length 4 x.fl x.st wr (by omega) (by omega) h20 (by omega) hf0 hf1 hs0 hs1
      have hl9 : (hdrS (Pl.wSet x.set).length 4 x.fl x.st).length = 9 := rfl
      have c0 : wr.cell? ⟨w.heap.size, 0, none⟩ = some (.int .i64 4) := (blk_cell HFR.out 0).trans Q0.out
      have c2 : wr.cell? ⟨w.heap.size, 2, none⟩ = some (.int .u32 x.st) := (blk_cell HFR.out 2).trans Q2.out
      clear hFr hG hBd
      generalize hdrS (Pl.wSet x.set).length 4 x.fl x.st = H at *
      generalize Pl.wSet x.set = B at *
      have H9 := Lib.hid hl9
      clear hl9
      go_wp2_with (first
        | (go_at_call 13; refine hh.mono ?_; rintro e w1 ⟨r, rfl, h1, o1, f1⟩; obtain ⟨ra, rc, rfl, -, -⟩ := own_shape o1; have G1 := Lib.hid (HG.out.below h1))
        | (at_builtin; refine wpList_app E5 rfl _ _ rfl (.slice ra H.length rc) H.length _ rfl o1 B.length _ (src_of_row Tryd.underlying23 G1.out.own (bv_one _)) (by have := H9.out; omega) (by have := H9.out; unfold maxLen; omega) ?_; intro a' c' w2 o2 g2 t2))
      go_ret
      have f0 : Fresh w.heap.size (.slice ra H.length rc) := f1.mono HG.out.B.size
      refine ⟨.slice a' (H ++ B).length c', by (rw [List.length_append]; rfl), Below.app (Below.then HG.out.B (Nat.le_refl _) h1) (Nat.le_trans HG.out.B.size h1.size) g2 f0, by rw [List.length_append, bv_append]; exact o2, ?_⟩
      rw [List.length_append]
      exact f0.app (Nat.le_trans HG.out.B.size h1.size) t2
end Go.Proofs.YtfdlbjibninakaaDoor
