/- The writing side: the small methods that append to the buffer; the writer's Write; endWrite; a raw frame. -/
import Derived.Test.YtfdlbjibninakaaDoorQWs
import Derived.BigQuiet
import Derived.Deep.QuietTactic
import Derived.Deep.RegionHeld3
set_option linter.unusedVariables false
set_option linter.unusedSimpArgs false
namespace Go.Proofs.YtfdlbjibninakaaDoor
open Go.RowKit

set_option maxRecDepth 10000 in
set_option maxHeartbeats 800000 in
theorem writeByte_any {K : Nat → Prop} {w : World} {bF cl bW : Nat} {cur out : List Int} {wb al : Value} (h : WS K w bF cl bW cur out wb al) (t : Int) (hl : cur.length ≤ 1000000000) :
    Calls Tryd.prog 95 #[.pointer (some ⟨bF, 0, none⟩), .int .u8 t] w (Wrote K w bF cl bW (cur ++ [t]) out (.tuple #[])) := by
  obtain ⟨a, cap, rfl, hcap, hmax⟩ := own_shape h.own
  have hf := blk_free h.F 20
  have hc' : w.cell? ⟨bF, 20, none⟩ = some (.slice a cur.length cap) := blk_cell h.F 20
  go_enter Tryd.func95, Tryd.ntmps95
  go_wp2_with (at_builtin; refine wpList_app E5 rfl _ _ rfl (.slice a cur.length cap) cur.length (bv cur) rfl (own_alloc h.own _) 1 _ (src_of_block Tryd.underlying23 (blk_new w _) rfl (by simp [Value.oneCell'])) (by omega) (by unfold maxLen; omega) ?_; intro a' c' w1 hown1 hgrow hat; have hF1 := blk_grown (blk_alloc h.F) hgrow h.neF; have hc1 : w1.cell? ⟨bF, 20, none⟩ = some (.slice a cur.length cap) := blk_cell hF1 20; have hf1 := blk_free hF1 20; clear hF1)
  go_end0
  have hp := (h.alloc _).put (cur' := cur ++ [t]) hgrow (by simpa [bv] using hown1) hat
  exact ⟨rfl, ((Kept.refl K w).alloc _).trans hp.2, _, _, by simpa using hp.1⟩

def be16 (v : Int) : List Int := [v / 256, v % 256]
def be32 (v : Int) : List Int := [v / 16777216, v / 65536 % 256, v / 256 % 256, v % 256]
set_option maxRecDepth 10000 in
set_option maxHeartbeats 800000 in
theorem writeUint16_any {K : Nat → Prop} {w : World} {bF cl bW : Nat} {cur out : List Int} {wb al : Value} (h : WS K w bF cl bW cur out wb al) (t : Int) (_h0 : 0 ≤ t) (_h1 : t < 65536) (hl : cur.length ≤ 1000000000) :
    Calls Tryd.prog 99 #[.pointer (some ⟨bF, 0, none⟩), .int .u16 t] w (Wrote K w bF cl bW (cur ++ be16 t) out (.tuple #[])) := by
  obtain ⟨a, cap, rfl, hcap, hmax⟩ := own_shape h.own
  have hf := blk_free h.F 20
  have hc' : w.cell? ⟨bF, 20, none⟩ = some (.slice a cur.length cap) := blk_cell h.F 20
  go_enter Tryd.func99, Tryd.ntmps99
  go_wp2_with (at_builtin; refine wpList_app E5 rfl _ _ rfl (.slice a cur.length cap) cur.length (bv cur) rfl (own_alloc h.own _) 2 _ (src_of_block Tryd.underlying23 (blk_new w _) rfl (by simp [Value.oneCell'])) (by omega) (by unfold maxLen; omega) ?_; intro a' c' w1 hown1 hgrow hat; have hF1 := blk_grown (blk_alloc h.F) hgrow h.neF; have hc1 : w1.cell? ⟨bF, 20, none⟩ = some (.slice a cur.length cap) := blk_cell hF1 20; have hf1 := blk_free hF1 20; clear hF1)
  go_end0
  have hp := (h.alloc _).put (cur' := cur ++ be16 t) hgrow (by simpa [bv, be16] using hown1) hat
  exact ⟨rfl, ((Kept.refl K w).alloc _).trans hp.2, _, _, by simpa using hp.1⟩
set_option maxRecDepth 10000 in
set_option maxHeartbeats 800000 in
theorem writeUint32_any {K : Nat → Prop} {w : World} {bF cl bW : Nat} {cur out : List Int} {wb al : Value} (h : WS K w bF cl bW cur out wb al) (t : Int) (_h0 : 0 ≤ t) (_h1 : t < 4294967296) (hl : cur.length ≤ 1000000000) :
    Calls Tryd.prog 97 #[.pointer (some ⟨bF, 0, none⟩), .int .u32 t] w (Wrote K w bF cl bW (cur ++ be32 t) out (.tuple #[])) := by
  obtain ⟨a, cap, rfl, hcap, hmax⟩ := own_shape h.own
  have hf := blk_free h.F 20
  have hc' : w.cell? ⟨bF, 20, none⟩ = some (.slice a cur.length cap) := blk_cell h.F 20
  go_enter Tryd.func97, Tryd.ntmps97
  go_wp2_with (at_builtin; refine wpList_app E5 rfl _ _ rfl (.slice a cur.length cap) cur.length (bv cur) rfl (own_alloc h.own _) 4 _ (src_of_block Tryd.underlying23 (blk_new w _) rfl (by simp [Value.oneCell'])) (by omega) (by unfold maxLen; omega) ?_; intro a' c' w1 hown1 hgrow hat; have hF1 := blk_grown (blk_alloc h.F) hgrow h.neF; have hc1 : w1.cell? ⟨bF, 20, none⟩ = some (.slice a cur.length cap) := blk_cell hF1 20; have hf1 := blk_free hF1 20; clear hF1)
  go_end0
  have hp := (h.alloc _).put (cur' := cur ++ be32 t) hgrow (by simpa [bv, be32] using hown1) hat
  exact ⟨rfl, ((Kept.refl K w).alloc _).trans hp.2, _, _, by simpa using hp.1⟩
set_option maxRecDepth 10000 in
set_option maxHeartbeats 800000 in
theorem writeBytes_any {K : Nat → Prop} {w : World} {bF cl bW : Nat} {cur out l : List Int} {wb al v : Value} (h : WS K w bF cl bW cur out wb al) (hv : RdB w v l) (hl : cur.length ≤ 1000000000) (hl2 : l.length ≤ 1000000000) :
    Calls Tryd.prog 52 #[.pointer (some ⟨bF, 0, none⟩), v] w (Wrote K w bF cl bW (cur ++ l) out (.tuple #[])) := by
  obtain ⟨a, cap, rfl, hcap, hmax⟩ := own_shape h.own
  have hf := blk_free h.F 20
  have hc' : w.cell? ⟨bF, 20, none⟩ = some (.slice a cur.length cap) := blk_cell h.F 20
  go_enter Tryd.func52, Tryd.ntmps52
  go_wp2_with (at_builtin; refine wpList_app E5 rfl _ _ rfl (.slice a cur.length cap) cur.length (bv cur) rfl h.own l.length (bv l) (src_of_rd hv) (by omega) (by unfold maxLen; omega) ?_; intro a' c' w1 hown1 hgrow hat; have hF1 := blk_grown h.F hgrow h.neF; have hc1 : w1.cell? ⟨bF, 20, none⟩ = some (.slice a cur.length cap) := blk_cell hF1 20; have hf1 := blk_free hF1 20; clear hF1)
  go_end0
  have hp := h.put (cur' := cur ++ l) hgrow (by simpa [bv] using hown1) hat
  exact ⟨rfl, hp.2, _, _, by simpa using hp.1⟩

theorem WS.push {K : Nat → Prop} {w w1 : World} {bF cl bW : Nat} {cur out out' : List Int} {wb al v' : Value} (h : WS K w bF cl bW cur out wb al) (hg : w.grownBy w1 al.ownBlock)
    (hown : Row w1 5 1 v' out'.length (bv out')) (hv : v'.ownBlock = al.ownBlock ∨ v'.ownBlock = some w.heap.size) :
    WS K (w1.setCell ⟨bW, 0, none⟩ v') bF cl bW cur out' wb v' ∧ Kept K w (w1.setCell ⟨bW, 0, none⟩ v') := by
  have hF1 := blk_grown h.F hg h.aeF
  have hW1 := blk_grown h.W hg h.aeW
  have hW2 := blk_set hW1 0 v'
  have hwb : Row w1 5 1 wb cur.length (bv cur) := own_grown h.own hg (by
    cases hb : wb.ownBlock with
    | none => exact .inl rfl
    | some g => exact .inr fun e => h.ne g hb e.symm)
  have hv2 : v'.ownBlock ≠ some bW := own_block hown hW1 (by decide)
  refine ⟨⟨blk_set_other hF1 h.FW _, hW2, own_set hwb (own_block hwb hW1 (by decide)) _, own_set hown hv2 _, h.kF, h.kW, h.kw, ?_, ?_, ?_⟩, ?_⟩
  · intro g hg'
    rcases hv with e | e
    · exact h.ka g (by rw [← e]; exact hg')
    · intro hk
      have := h.lt g hk
      rw [e] at hg'
      cases hg'
      omega
  · intro g hg' ha
    rcases hv with e | e
    · exact h.ne g hg' (by rw [← e]; exact ha)
    · rw [e] at ha
      cases ha
      have := own_lt h.own _ hg'
      omega
  · intro k hk
    have h1 := h.lt k hk
    have h2 := hg.size
    simp
    omega
  · exact (Kept.grown (Kept.refl K w) hg (fun k e hk => absurd hk (h.ka k e))).setCell (fun hk => absurd hk h.kW) v'

set_option maxRecDepth 10000 in
set_option maxHeartbeats 800000 in
theorem write_any {K : Nat → Prop} {w : World} {bF cl bW : Nat} {cur out : List Int} {wb al : Value} (h : WS K w bF cl bW cur out wb al) (hl : cur.length ≤ 1000000000) (hl2 : out.length ≤ 1000000000) :
    Calls Tryd.prog 147 #[.pointer (some ⟨bW, 0, none⟩), wb] w fun e w' => e = .returned (.tuple #[.int .i64 cur.length, .nilIface]) ∧ Kept K w w' ∧ ∃ al', WS K w' bF cl bW cur (out ++ cur) wb al' := by
  obtain ⟨a, cap, rfl, hcap, hmax⟩ := own_shape h.own
  obtain ⟨a2, cap2, rfl, hcap2, hmax2⟩ := own_shape h.all
  have hf := blk_free h.W 0
  have hc' : w.cell? ⟨bW, 0, none⟩ = some (.slice a2 out.length cap2) := blk_cell h.W 0
  go_enter Tryd.func147, Tryd.ntmps147
  go_wp2_with (at_builtin; refine wpList_app E5 rfl _ _ rfl (.slice a2 out.length cap2) out.length (bv out) rfl h.all cur.length (bv cur) (src_of_row Tryd.underlying23 h.own (bv_one _)) (by omega) (by unfold maxLen; omega) ?_; intro a' c' w1 hown1 hgrow hat; have hF1 := blk_grown h.W hgrow h.aeW; have hc1 : w1.cell? ⟨bW, 0, none⟩ = some (.slice a2 out.length cap2) := blk_cell hF1 0; have hf1 := blk_free hF1 0; clear hF1)
  go_ret2
  have hp := h.push (out' := out ++ cur) hgrow (by simpa [bv] using hown1) hat
  exact ⟨rfl, hp.2, _, by simpa using hp.1⟩

theorem run_over {P : Program} {T e size bytes : Nat} {z : Value} (E : Elem P T e size bytes z) (w : World) (tx ty : Nat) (a : Option Addr) (n cap : Nat) (xs : List Value) (hown : Row w e size (.slice a n cap) n xs) (x : Value) (m : Nat) (news : List Value) (hs : Src P size tx x m news w)
    (hm : m ≤ n) (hm0 : 0 < m) :
    ∃ w', (Builtin.append_ #[T, tx] ty #[.slice a 0 cap, x]).run P w = .ok (.slice a m cap) w' ∧ Row w' e size (.slice a n cap) n (news ++ xs.drop (m * size)) ∧ w.grownBy w' (Value.slice a n cap).ownBlock := by
  obtain ⟨i, hi, hz, hsize, hby⟩ := info_parts E.info
  subst hsize
  rcases hown.2 with ⟨h0, h1⟩ | ⟨g, cap', cur, h0, hbg, hg, hnc, hcm, hcs, htake⟩
  · omega
  · cases h0
    have hl : m * i.size ≤ n * i.size := Nat.mul_le_mul_right _ hm
    have hl2 : n * i.size ≤ cap * i.size := Nat.mul_le_mul_right _ hnc
    have hst := run_storeCells_at P g 0 e news 0 cur w hg (by simpa [hcs, hs.newsLen] using Nat.le_trans hl hl2) hs.one
    simp only [Nat.add_zero, List.take_zero, List.nil_append, Nat.zero_add] at hst
    have hroom : m ≤ cap := Nat.le_trans hm hnc
    refine ⟨w.setRow g (news ++ cur.toList.drop news.length).toArray, ?_, ⟨?_, .inr ⟨g, cap, _, rfl, hbg, setRow_heap w g cur _ e _ hg, hnc, hcm, ?_, ?_⟩⟩,
        ⟨rfl, rfl, rfl, by simp, fun k _ hk => setRow_other w g k _ (fun e => hk (by simp [Value.ownBlock, e]))⟩⟩
    · rcases hs.kind with ⟨e', hk⟩ | hk <;> simp [Builtin.append_, run_underlying E.sl, run_underlying hk, sizeOf, typeInfo, hi, hs.len, hroom, hs.cells, Addr.add_lit, hst]
    · rw [List.length_append, hs.newsLen, List.length_drop, hown.1]
      omega
    · simp only [List.size_toArray, List.length_append, List.length_drop, Array.length_toList, hs.newsLen]
      omega
    · simp only [List.take_append, hs.newsLen, List.take_drop]
      rw [List.take_of_length_le (by rw [hs.newsLen]; exact hl), ← htake]
      congr 1
      rw [List.drop_take, List.take_drop]
      congr 2
      omega
end Go.Proofs.YtfdlbjibninakaaDoor
