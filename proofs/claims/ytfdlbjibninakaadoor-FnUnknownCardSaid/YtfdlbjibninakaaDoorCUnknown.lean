/- FnUnknown is proved: a frame of an unknown type ahead of others is read, and changes nothing else; where the statement asks nothing it is true at once. The card is tied to the program's text. -/
import Derived.Test.YtfdlbjibninakaaDoorWs
import Derived.Test.YtfdlbjibninakaaDoorCf
import Derived.Test.YtfdlbjibninakaaDoorBase
import Derived.Test.YtfdlbjibninakaaDoorFrame
import Derived.Test.YtfdlbjibninakaaDoorFault
import Derived.Test.YtfdlbjibninakaaDoorPk
import Derived.Test.YtfdlbjibninakaaDoorFrd
import Derived.Test.YtfdlbjibninakaaDoorMa
import Derived.Test.YtfdlbjibninakaaDoorLr2
import Derived.BigQuiet
import Derived.Deep.QuietTactic
import Derived.Deep.RegionHeld3
import Derived.LaidLaws
import Derived.LaidHandle
import Derived.Outline
set_option linter.unusedVariables false
set_option linter.unusedSimpArgs false
namespace Go.Proofs.YtfdlbjibninakaaDoor
open Go.RowKit

set_option maxRecDepth 10000 in
set_option maxHeartbeats 800000 in
theorem writeByte_any {K : Nat → Prop} {w : World} {bF cl bW : Nat} {cur out : List Int} {wb al : Value} (h : WS K w bF cl bW cur out wb al) (t : Int) (hl : cur.length ≤ 1000000000) :
    Calls Tryd.prog 95 #[.pointer (some ⟨bF, 0, none⟩), .int .u8 t] w (Wrote K w bF cl bW (cur ++ [t]) out (.tuple #[])) := by
  obtain ⟨a, cap, rfl, hcap, hmax⟩ := own_shape h.own
  have hf := blk_free h.F 20
  have hc' : w.cell? ⟨bF, 20, none⟩ = some (.slice a cur.length cap) := blk_cell h.F 20
  go_enter Tryd.func95, Tryd.ntmps95
  go_wp2_with (at_builtin; refine wpList_app E5 rfl _ _ rfl (.slice a cur.length cap) cur.length (bv cur) rfl (own_alloc h.own _) 1 _ (src_of_block Tryd.underlying23 (blk_new w _) rfl (by simp [Value.oneCell'])) (by omega) (by unfold maxLen; omega) ?_; intro a' c' w1 hown1 hgrow hat; have hF1 := blk_grown (blk_alloc h.F) hgrow h.neF; have hc1 : w1.cell? ⟨bF, 20, none⟩ = some (.slice a cur.length cap) := blk_cell hF1 20; have hf1 := blk_free hF1 20; clear hF1)
  go_end0
  have hp := (h.alloc _).put (cur' := cur ++ [t]) hgrow (by simpa [bv] using hown1) hat
  exact ⟨rfl, ((Kept.refl K w).alloc _).trans hp.2, _, _, by simpa using hp.1⟩

def be16 (v : Int) : List Int := [v / 256, v % 256]
def be32 (v : Int) : List Int := [v / 16777216, v / 65536 % 256, v / 256 % 256, v % 256]
set_option maxRecDepth 10000 in
set_option maxHeartbeats 800000 in
theorem writeUint16_any {K : Nat → Prop} {w : World} {bF cl bW : Nat} {cur out : List Int} {wb al : Value} (h : WS K w bF cl bW cur out wb al) (t : Int) (_h0 : 0 ≤ t) (_h1 : t < 65536) (hl : cur.length ≤ 1000000000) :
    Calls Tryd.prog 99 #[.pointer (some ⟨bF, 0, none⟩), .int .u16 t] w (Wrote K w bF cl bW (cur ++ be16 t) out (.tuple #[])) := by
  obtain ⟨a, cap, rfl, hcap, hmax⟩ := own_shape h.own
  have hf := blk_free h.F 20
  have hc' : w.cell? ⟨bF, 20, none⟩ = some (.slice a cur.length cap) := blk_cell h.F 20
  go_enter Tryd.func99, Tryd.ntmps99
  go_wp2_with (at_builtin; refine wpList_app E5 rfl _ _ rfl (.slice a cur.length cap) cur.length (bv cur) rfl (own_alloc h.own _) 2 _ (src_of_block Tryd.underlying23 (blk_new w _) rfl (by simp [Value.oneCell'])) (by omega) (by unfold maxLen; omega) ?_; intro a' c' w1 hown1 hgrow hat; have hF1 := blk_grown (blk_alloc h.F) hgrow h.neF; have hc1 : w1.cell? ⟨bF, 20, none⟩ = some (.slice a cur.length cap) := blk_cell hF1 20; have hf1 := blk_free hF1 20; clear hF1)
  go_end0
  have hp := (h.alloc _).put (cur' := cur ++ be16 t) hgrow (by simpa [bv, be16] using hown1) hat
  exact ⟨rfl, ((Kept.refl K w).alloc _).trans hp.2, _, _, by simpa using hp.1⟩
set_option maxRecDepth 10000 in
set_option maxHeartbeats 800000 in
theorem writeUint32_any {K : Nat → Prop} {w : World} {bF cl bW : Nat} {cur out : List Int} {wb al : Value} (h : WS K w bF cl bW cur out wb al) (t : Int) (_h0 : 0 ≤ t) (_h1 : t < 4294967296) (hl : cur.length ≤ 1000000000) :
    Calls Tryd.prog 97 #[.pointer (some ⟨bF, 0, none⟩), .int .u32 t] w (Wrote K w bF cl bW (cur ++ be32 t) out (.tuple #[])) := by
  obtain ⟨a, cap, rfl, hcap, hmax⟩ := own_shape h.own
  have hf := blk_free h.F 20
  have hc' : w.cell? ⟨bF, 20, none⟩ = some (.slice a cur.length cap) := blk_cell h.F 20
  go_enter Tryd.func97, Tryd.ntmps97
  go_wp2_with (at_builtin; refine wpList_app E5 rfl _ _ rfl (.slice a cur.length cap) cur.length (bv cur) rfl (own_alloc h.own _) 4 _ (src_of_block Tryd.underlying23 (blk_new w _) rfl (by simp [Value.oneCell'])) (by omega) (by unfold maxLen; omega) ?_; intro a' c' w1 hown1 hgrow hat; have hF1 := blk_grown (blk_alloc h.F) hgrow h.neF; have hc1 : w1.cell? ⟨bF, 20, none⟩ = some (.slice a cur.length cap) := blk_cell hF1 20; have hf1 := blk_free hF1 20; clear hF1)
  go_end0
  have hp := (h.alloc _).put (cur' := cur ++ be32 t) hgrow (by simpa [bv, be32] using hown1) hat
  exact ⟨rfl, ((Kept.refl K w).alloc _).trans hp.2, _, _, by simpa using hp.1⟩
set_option maxRecDepth 10000 in
set_option maxHeartbeats 800000 in
theorem writeBytes_any {K : Nat → Prop} {w : World} {bF cl bW : Nat} {cur out l : List Int} {wb al v : Value} (h : WS K w bF cl bW cur out wb al) (hv : RdB w v l) (hl : cur.length ≤ 1000000000) (hl2 : l.length ≤ 1000000000) :
    Calls Tryd.prog 52 #[.pointer (some ⟨bF, 0, none⟩), v] w (Wrote K w bF cl bW (cur ++ l) out (.tuple #[])) := by
  obtain ⟨a, cap, rfl, hcap, hmax⟩ := own_shape h.own
  have hf := blk_free h.F 20
  have hc' : w.cell? ⟨bF, 20, none⟩ = some (.slice a cur.length cap) := blk_cell h.F 20
  go_enter Tryd.func52, Tryd.ntmps52
  go_wp2_with (at_builtin; refine wpList_app E5 rfl _ _ rfl (.slice a cur.length cap) cur.length (bv cur) rfl h.own l.length (bv l) (src_of_rd hv) (by omega) (by unfold maxLen; omega) ?_; intro a' c' w1 hown1 hgrow hat; have hF1 := blk_grown h.F hgrow h.neF; have hc1 : w1.cell? ⟨bF, 20, none⟩ = some (.slice a cur.length cap) := blk_cell hF1 20; have hf1 := blk_free hF1 20; clear hF1)
  go_end0
  have hp := h.put (cur' := cur ++ l) hgrow (by simpa [bv] using hown1) hat
  exact ⟨rfl, hp.2, _, _, by simpa using hp.1⟩

theorem WS.push {K : Nat → Prop} {w w1 : World} {bF cl bW : Nat} {cur out out' : List Int} {wb al v' : Value} (h : WS K w bF cl bW cur out wb al) (hg : w.grownBy w1 al.ownBlock)
    (hown : Row w1 5 1 v' out'.length (bv out')) (hv : v'.ownBlock = al.ownBlock ∨ v'.ownBlock = some w.heap.size) :
    WS K (w1.setCell ⟨bW, 0, none⟩ v') bF cl bW cur out' wb v' ∧ Kept K w (w1.setCell ⟨bW, 0, none⟩ v') := by
  have hF1 := blk_grown h.F hg h.aeF
  have hW1 := blk_grown h.W hg h.aeW
  have hW2 := blk_set hW1 0 v'
  have hwb : Row w1 5 1 wb cur.length (bv cur) := own_grown h.own hg (by
    cases hb : wb.ownBlock with
    | none => exact .inl rfl
    | some g => exact .inr fun e => h.ne g hb e.symm)
  have hv2 : v'.ownBlock ≠ some bW := own_block hown hW1 (by decide)
  refine ⟨⟨blk_set_other hF1 h.FW _, hW2, own_set hwb (own_block hwb hW1 (by decide)) _, own_set hown hv2 _, h.kF, h.kW, h.kw, ?_, ?_, ?_⟩, ?_⟩
  · intro g hg'
    rcases hv with e | e
    · exact h.ka g (by rw [← e]; exact hg')
    · intro hk
      have := h.lt g hk
      rw [e] at hg'
      cases hg'
      omega
  · intro g hg' ha
    rcases hv with e | e
    · exact h.ne g hg' (by rw [← e]; exact ha)
    · rw [e] at ha
      cases ha
      have := own_lt h.own _ hg'
      omega
  · intro k hk
    have h1 := h.lt k hk
    have h2 := hg.size
    simp
    omega
  · exact (Kept.grown (Kept.refl K w) hg (fun k e hk => absurd hk (h.ka k e))).setCell (fun hk => absurd hk h.kW) v'

set_option maxRecDepth 10000 in
set_option maxHeartbeats 800000 in
theorem write_any {K : Nat → Prop} {w : World} {bF cl bW : Nat} {cur out : List Int} {wb al : Value} (h : WS K w bF cl bW cur out wb al) (hl : cur.length ≤ 1000000000) (hl2 : out.length ≤ 1000000000) :
    Calls Tryd.prog 147 #[.pointer (some ⟨bW, 0, none⟩), wb] w fun e w' => e = .returned (.tuple #[.int .i64 cur.length, .nilIface]) ∧ Kept K w w' ∧ ∃ al', WS K w' bF cl bW cur (out ++ cur) wb al' := by
  obtain ⟨a, cap, rfl, hcap, hmax⟩ := own_shape h.own
  obtain ⟨a2, cap2, rfl, hcap2, hmax2⟩ := own_shape h.all
  have hf := blk_free h.W 0
  have hc' : w.cell? ⟨bW, 0, none⟩ = some (.slice a2 out.length cap2) := blk_cell h.W 0
  go_enter Tryd.func147, Tryd.ntmps147
  go_wp2_with (at_builtin; refine wpList_app E5 rfl _ _ rfl (.slice a2 out.length cap2) out.length (bv out) rfl h.all cur.length (bv cur) (src_of_row Tryd.underlying23 h.own (bv_one _)) (by omega) (by unfold maxLen; omega) ?_; intro a' c' w1 hown1 hgrow hat; have hF1 := blk_grown h.W hgrow h.aeW; have hc1 : w1.cell? ⟨bW, 0, none⟩ = some (.slice a2 out.length cap2) := blk_cell hF1 0; have hf1 := blk_free hF1 0; clear hF1)
  go_ret2
  have hp := h.push (out' := out ++ cur) hgrow (by simpa [bv] using hown1) hat
  exact ⟨rfl, hp.2, _, by simpa using hp.1⟩

theorem run_over {P : Program} {T e size bytes : Nat} {z : Value} (E : Elem P T e size bytes z) (w : World) (tx ty : Nat) (a : Option Addr) (n cap : Nat) (xs : List Value) (hown : Row w e size (.slice a n cap) n xs) (x : Value) (m : Nat) (news : List Value) (hs : Src P size tx x m news w)
    (hm : m ≤ n) (hm0 : 0 < m) :
    ∃ w', (Builtin.append_ #[T, tx] ty #[.slice a 0 cap, x]).run P w = .ok (.slice a m cap) w' ∧ Row w' e size (.slice a n cap) n (news ++ xs.drop (m * size)) ∧ w.grownBy w' (Value.slice a n cap).ownBlock := by
  obtain ⟨i, hi, hz, hsize, hby⟩ := info_parts E.info
  subst hsize
  rcases hown.2 with ⟨h0, h1⟩ | ⟨g, cap', cur, h0, hbg, hg, hnc, hcm, hcs, htake⟩
  · omega
  · cases h0
    have hl : m * i.size ≤ n * i.size := Nat.mul_le_mul_right _ hm
    have hl2 : n * i.size ≤ cap * i.size := Nat.mul_le_mul_right _ hnc
    have hst := run_storeCells_at P g 0 e news 0 cur w hg (by simpa [hcs, hs.newsLen] using Nat.le_trans hl hl2) hs.one
    simp only [Nat.add_zero, List.take_zero, List.nil_append, Nat.zero_add] at hst
    have hroom : m ≤ cap := Nat.le_trans hm hnc
    refine ⟨w.setRow g (news ++ cur.toList.drop news.length).toArray, ?_, ⟨?_, .inr ⟨g, cap, _, rfl, hbg, setRow_heap w g cur _ e _ hg, hnc, hcm, ?_, ?_⟩⟩,
        ⟨rfl, rfl, rfl, by simp, fun k _ hk => setRow_other w g k _ (fun e => hk (by simp [Value.ownBlock, e]))⟩⟩
    · rcases hs.kind with ⟨e', hk⟩ | hk <;> simp [Builtin.append_, run_underlying E.sl, run_underlying hk, sizeOf, typeInfo, hi, hs.len, hroom, hs.cells, Addr.add_lit, hst]
    · rw [List.length_append, hs.newsLen, List.length_drop, hown.1]
      omega
    · simp only [List.size_toArray, List.length_append, List.length_drop, Array.length_toList, hs.newsLen]
      omega
    · simp only [List.take_append, hs.newsLen, List.take_drop]
      rw [List.take_of_length_le (by rw [hs.newsLen]; exact hl), ← htake]
      congr 1
      rw [List.drop_take, List.take_drop]
      congr 2
      omega
end Go.Proofs.YtfdlbjibninakaaDoor

namespace Go.Proofs.YtfdlbjibninakaaDoor
open Go.RowKit

theorem wpList_over {P : Program} {T e size bytes tx : Nat} {z : Value} {w : World} {ops : Array Oper} {rest : List Oper} {o : Oper} {a : Act} {Q : Exit → Act → World → Prop}
    (E : Elem P T e size bytes z) (hgd : o.guard = none) (s x : Operand) (ho : o.op = .call { callee := .builtin .append, args := #[s, x], argTypes := #[T, tx] })
    (ad : Option Addr) (n cap : Nat) (xs : List Value) (hs : a.eval s = .slice ad 0 cap) (hown : Row w e size (.slice ad n cap) n xs) (m : Nat) (news : List Value) (hx : Src P size tx (a.eval x) m news w) (hm : m ≤ n) (hm0 : 0 < m)
    (h : ∀ w', Row w' e size (.slice ad n cap) n (news ++ xs.drop (m * size)) → w.grownBy w' (Value.slice ad n cap).ownBlock → wpList P ops Q rest (a.put o.dst (.slice ad m cap)) w') :
    wpList P ops Q (o :: rest) a w :=
  wpList_plain hgd fun _ hK => by
    obtain ⟨w', hr, h2, h3⟩ := run_over (P := P) E w tx o.type ad n cap xs hown (a.eval x) m news hx hm hm0
    unfold Oper.wp execOp
    simp only [ho, resolve, invoke, builtin, Sem.run_bind, Sem.run_pure, Result.andThen_ok, List.map_toArray, List.map_cons, List.map_nil, hs, hr]
    exact hK _ _ (h w' h2 h3)

/-- The state behind a change of the buffer's own row alone. -/
theorem WS.over {K : Nat → Prop} {w w1 : World} {bF cl bW : Nat} {cur cur' out : List Int} {wb al : Value} (h : WS K w bF cl bW cur out wb al) (hg : w.grownBy w1 wb.ownBlock)
    (hown : Row w1 5 1 wb cur'.length (bv cur')) : WS K w1 bF cl bW cur' out wb al ∧ Kept K w w1 := by
  refine ⟨⟨blk_grown h.F hg h.neF, blk_grown h.W hg h.neW, hown, own_grown h.all hg ?_, h.kF, h.kW, h.kw, h.ka, h.ne, fun k hk => by have := h.lt k hk; have := hg.size; omega⟩, Kept.grown (Kept.refl K w) hg (fun k e hk => absurd hk (h.kw k e))⟩
  cases hb : al.ownBlock with
  | none => exact .inl rfl
  | some g => exact .inr fun e => h.ne g e.symm hb

theorem method_write (x : Addr) (w : World) : (method 389 71 (.pointer (some x)) "Write").run Tryd.prog w = .ok (147, .pointer (some x)) w := by kernel_rfl
/-- A frame as endWrite sends it: its length ahead. -/
def sealed (cur : List Int) : List Int := [(cur.length - 9 : Int) / 65536, (cur.length - 9 : Int) / 256 % 256, (cur.length - 9 : Int) % 256] ++ cur.drop 3

set_option maxRecDepth 10000 in
set_option maxHeartbeats 1600000 in
theorem endWrite_any {K : Nat → Prop} {w : World} {bF cl bW : Nat} {cur out : List Int} {wb al : Value} (h : WS K w bF cl bW cur out wb al) (h9 : 9 ≤ cur.length) (hl : cur.length ≤ 16777000) (hl2 : out.length ≤ 100000000) :
    Calls Tryd.prog 53 #[.pointer (some ⟨bF, 0, none⟩)] w (Wrote K w bF cl bW (sealed cur) (out ++ sealed cur) .nilIface) := by
  obtain ⟨a, cap, rfl, hcap, hmax⟩ := own_shape h.own
  have hc' : w.cell? ⟨bF, 20, none⟩ = some (.slice a cur.length cap) := blk_cell h.F 20
  have hlen : (sealed cur).length = cur.length := by simp [sealed]; omega
  have hn : ((cur.length : Int) - 9 ≥ 0) := by omega
  go_enter Tryd.func53, Tryd.ntmps53
  go_wp2_with (at_builtin; refine wpList_over E5 rfl _ _ rfl a cur.length cap (bv cur) rfl (own_alloc h.own _) 3 _ (src_of_block Tryd.underlying23 (blk_new w _) rfl (by simp [Value.oneCell'])) (by omega) (by omega) ?_; intro w1 hown1 hgrow)
  have h1 := (h.alloc _).over (cur' := sealed cur) hgrow (by rw [hlen]; simpa [sealed, bv, List.map_drop] using hown1)
  have k1 := ((Kept.refl K w).alloc _).trans h1.2
  replace h1 := h1.1
  have e19 : w1.cell? ⟨bF, 19, none⟩ = some (.iface 71 (.pointer (some ⟨bW, 0, none⟩))) := blk_cell h1.F 19
  have e20 : w1.cell? ⟨bF, 20, none⟩ = some (.slice a cur.length cap) := blk_cell h1.F 20
  clear hown1 hgrow hc' h
  have hmw := fun w => method_write ⟨bW, 0, none⟩ w
  go_region_held3 (fun w' => w'.cell? ⟨bF, 19, none⟩ = some (.iface 71 (.pointer (some ⟨bW, 0, none⟩))) ∧ w'.cell? ⟨bF, 20, none⟩ = some (.slice a cur.length cap)) (first | go_keep | (exact ⟨blk_cell h2.F 19, blk_cell h2.F 20⟩))
    (first | (go_at_call 147; refine (write_any h1.drew (by omega) (by omega)).mono ?_; rintro e w' ⟨rfl, hk2, al2, h2⟩))
  have f20 : w'.cell? ⟨bF, 20, none⟩ = some (.slice a cur.length cap) := blk_cell h2.F 20
  rw [hlen] at *
  go_wp2
  go_ret
  exact ⟨rfl, k1.trans ((Kept.refl K w1).drew.trans hk2), _, _, h2⟩
end Go.Proofs.YtfdlbjibninakaaDoor

namespace Go.Proofs.YtfdlbjibninakaaDoor
open Go.RowKit

set_option maxRecDepth 10000 in
set_option maxHeartbeats 800000 in
theorem writeRaw_any {K : Nat → Prop} {w : World} {bF cl bW : Nat} {cur out l : List Int} {wb al v : Value} (h : WS K w bF cl bW cur out wb al) (t fl s : Int) (hs0 : 0 ≤ s) (hs1 : s < 4294967296)
    (hv : RdB w v l) (hK : inK K v) (hl : l.length ≤ 16000000) (hl2 : out.length ≤ 100000000) :
    Calls Tryd.prog 32 #[.pointer (some ⟨bF, 0, none⟩), .int .u8 t, .int .u8 fl, .int .u32 s, v] w (Wrote K w bF cl bW (sealed (hdr0 t fl s ++ l)) (out ++ sealed (hdr0 t fl s ++ l)) .nilIface) := by
  go_enter Tryd.func32, Tryd.ntmps32
  go_wp2_with (first
    | (go_at_call 51; refine (startWrite_any h t fl s hs0 hs1).mono ?_; rintro e w1 ⟨rfl, k1, wb1, al1, h1⟩)
    | (go_at_call 52; refine (writeBytes_any h1 (hv.kept k1 hK) (by simp [hdr0]) (by omega)).mono ?_; rintro e w2 ⟨rfl, k2, wb2, al2, h2⟩)
    | (go_at_call 53; refine (endWrite_any h2 (by simp [hdr0]) (by simp [hdr0]; omega) hl2).mono ?_; rintro e w3 ⟨rfl, k3, wb3, al3, h3⟩))
  go_ret
  exact ⟨rfl, (k1.trans k2).trans k3, _, _, h3⟩

/-! ## The reference: the bytes of a number -/
def toBytes (v : Int) : Nat → List Int
  | 0 => []
  | n + 1 => v / 2 ^ (8 * n) % 256 :: toBytes v n

theorem toBytes_length (v : Int) (n : Nat) : (toBytes v n).length = n := by
  induction n with
  | zero => rfl
  | succ n ih => simp [toBytes, ih]
theorem toBytes_take (v : Int) (n m : Nat) (h : m < n) : (toBytes v n).take (n - (m + 1) + 1) = (toBytes v n).take (n - (m + 1)) ++ [v / 2 ^ (8 * m) % 256] := by
  induction n with
  | zero => omega
  | succ n ih =>
    rcases Nat.lt_or_ge m n with hlt | hge
    · have e1 : n + 1 - (m + 1) = n - (m + 1) + 1 := by omega
      rw [e1]
      simp only [toBytes, List.take_succ_cons, List.cons_append]
      rw [ih hlt]
    · have : m = n := by omega
      subst this
      simp [toBytes]
set_option maxRecDepth 10000 in
set_option maxHeartbeats 800000 in
theorem bytes_any (v : Int) (n : Nat) (w : World) (_h0 : 0 ≤ v) (_h1 : v < 4294967296) (hn : n ≤ 4) :
    Calls Tryd.prog 33 #[.int .u32 v, .int .i64 n] w (RetB w (toBytes v n)) := by
  go_enter Tryd.func33, Tryd.ntmps33
  go_wp2_with fail
  go_loopw [5, 6] (fun o i wr => ∃ k : Nat, k ≤ n ∧ i = .int .i64 ((k : Int) - 1) ∧ Row wr 5 1 o (n - k) (bv ((toBytes v n).take (n - k))) ∧ Fresh w.heap.size o ∧ Below w.heap.size w wr) (fun _ i _ => (intOf i + 1).toNat)
  case atStart => exact ⟨n, Nat.le_refl _, rfl, (by simpa [bv] using World.ownsRow_nil w 0 5 1), Fresh.nil _, Below.refl _ _⟩
  case round =>
    obtain ⟨k, hk, rfl, hrow, hfr, hbel⟩ := hrel
    by_cases h : k = 0
    · subst h
      go_wp2_with fail
      go_ret
      refine ⟨_, rfl, hbel, ?_, hfr⟩
      rw [toBytes_length]
      simp at hrow
      rwa [List.take_of_length_le (by rw [toBytes_length]; omega)] at hrow
    · obtain ⟨a, cap, rfl, hcap, hmax⟩ := own_shape hrow
      go_wp2_with (at_builtin; refine wpList_app E5 rfl _ _ rfl (.slice a (n - k) cap) (n - k) _ rfl (own_alloc hrow _) 1 _ (src_of_block Tryd.underlying23 (blk_new _ _) rfl (by simp [Value.oneCell'])) (by omega) (by unfold maxLen; omega) ?_; intro a' c' w1 hown1 hgrow hat)
      go_roundw
      case rel =>
        obtain ⟨m, rfl⟩ : ∃ m, k = m + 1 := ⟨k - 1, by omega⟩
        refine ⟨m, by omega, by congr 1; omega, ?_, hfr.app (by have := hbel.size; simp; omega) hat, Below.app (hbel.alloc hbel.size _) (by have := hbel.size; simp; omega) hgrow hfr⟩
        have e1 : n - m = n - (m + 1) + 1 := by omega
        rw [e1, toBytes_take v n m (by omega)]
        simpa [bv] using hown1
      case measure => simp [intOf]; omega
theorem bytes3 (v : Int) (w : World) (h0 : 0 ≤ v) (h1 : v < 4294967296) : Calls Tryd.prog 33 #[.int .u32 v, .int .i64 3] w (RetB w [v / 65536 % 256, v / 256 % 256, v % 256]) := by
  have := bytes_any v 3 w h0 h1 (by omega)
  simpa [toBytes] using this
theorem bytes4 (v : Int) (w : World) (h0 : 0 ≤ v) (h1 : v < 4294967296) : Calls Tryd.prog 33 #[.int .u32 v, .int .i64 4] w (RetB w (be32 v)) := by
  have := bytes_any v 4 w h0 h1 (by omega)
  have e : v / 16777216 % 256 = v / 16777216 := by omega
  simpa [toBytes, be32, e] using this
theorem bytes2 (v : Int) (w : World) (h0 : 0 ≤ v) (h1 : v < 65536) : Calls Tryd.prog 33 #[.int .u32 v, .int .i64 2] w (RetB w (be16 v)) := by
  have := bytes_any v 2 w h0 (by omega) (by omega)
  have e : v / 256 % 256 = v / 256 := by omega
  simpa [toBytes, be16, e] using this

/-- A frame header by the reference. -/
def hdrS (length kind flags stream : Int) : List Int := [length / 65536 % 256, length / 256 % 256, length % 256, kind, flags] ++ be32 stream

set_option maxRecDepth 10000 in
set_option maxHeartbeats 800000 in
theorem headerBytesS_any (l k f s : Int) (w : World) (hl0 : 0 ≤ l) (hl1 : l < 16777216) (hk0 : 0 ≤ k) (hk1 : k < 256) (hf0 : 0 ≤ f) (hf1 : f < 256) (hs0 : 0 ≤ s) (hs1 : s < 4294967296) :
    Calls Tryd.prog 13 #[.int .i64 l, .int .i64 k, .int .i64 f, .int .u32 s] w (RetB w (hdrS l k f s)) := by
  go_enter Tryd.func13, Tryd.ntmps13
  go_wp2_with fail
  refine (bytes3 l _ hl0 (by omega)).mono ?_
  rintro e w1 ⟨r1, rfl, b1, o1, f1⟩
  obtain ⟨a1, c1, rfl, hc1, hm1⟩ := own_shape o1
  go_wp2_with (at_builtin; refine wpList_app E5 rfl _ _ rfl (.slice a1 3 c1) 3 _ rfl (own_alloc o1 _) 2 _ (src_of_block Tryd.underlying23 (blk_new _ _) rfl (by simp [Value.oneCell'])) (by omega) (by unfold maxLen; omega) ?_; intro a2 c2 w2 o2 g2 t2)
  have z1 := b1.size
  have B2 : Below w.heap.size w w2 := Below.app (b1.alloc z1 _) (by simp <;> omega) g2 f1
  have F2 : Fresh w.heap.size _ := f1.app (by simp <;> omega) t2
  refine (bytes4 s _ hs0 hs1).mono ?_
  rintro e w3 ⟨r3, rfl, b3, o3, f3⟩
  obtain ⟨a3, c3, rfl, hc3, hm3⟩ := own_shape o3
  have B3 := Below.then B2 (Nat.le_refl _) b3
  have z3 := B3.size
  have o2' := own_below o2 b3
  go_wp2_with (at_builtin; refine wpList_app E5 rfl _ _ rfl (.slice a2 5 c2) 5 _ rfl o2' 4 _ (src_of_row Tryd.underlying23 o3 (bv_one _)) (by omega) (by unfold maxLen; omega) ?_; intro a4 c4 w4 o4 g4 t4)
  go_ret
  exact ⟨_, rfl, Below.app B3 z3 g4 F2, by simpa [hdrS, be32, bv] using o4, F2.app z3 t4⟩
end Go.Proofs.YtfdlbjibninakaaDoor

namespace Go.Proofs.YtfdlbjibninakaaDoor
open Go.RowKit
set_option maxRecDepth 10000 in
set_option maxHeartbeats 8000000 in
theorem bytes_other {w : World} {x : Fr} {a : Option Addr} {c : Nat} {sv : Value} {pa : Option Addr} {pn pc : Nat} (hd : RdB w (.slice a x.data.length c) x.data) (hl : x.data.length ≤ 65536) (h17 : 17 ≤ x.ty) (ht : x.ty < 256) (hf0 : 0 ≤ x.fl) (hf1 : x.fl < 256) (hs0 : 0 ≤ x.st) (hs1 : x.st < 4294967296) :
    Calls Tryd.prog 21 #[.agg (frX x (.slice a x.data.length c) sv), .slice pa pn pc, .bool false] w (RetB w (hdrS x.data.length x.ty x.fl x.st ++ x.data)) := by
  have t0 : (x.ty == 0) = false := beq_false_of_ne (by omega)
  have t1 : (x.ty == 1) = false := beq_false_of_ne (by omega)
  have t2 : (x.ty == 2) = false := beq_false_of_ne (by omega)
  have t3 : (x.ty == 3) = false := beq_false_of_ne (by omega)
  have t4 : (x.ty == 4) = false := beq_false_of_ne (by omega)
  have t5 : (x.ty == 5) = false := beq_false_of_ne (by omega)
  have t7 : (x.ty == 7) = false := beq_false_of_ne (by omega)
  have t8 : (x.ty == 8) = false := beq_false_of_ne (by omega)
  have t16 : (x.ty == 16) = false := beq_false_of_ne (by omega)
  have h17' : (0 : Int) ≤ x.ty := by omega
  have hB0 : Below w.heap.size w (w.alloc (.cells (frX x (.slice a x.data.length c) sv) 35)) := ((Kept.refl (· < w.heap.size) w).alloc _).below (Nat.le_refl _)
  have hd0 := hd.below hB0
  have hh := headerBytesS_any x.data.length x.ty x.fl x.st (w.alloc (.cells (frX x (.slice a x.data.length c) sv) 35)) (by omega) (by omega) h17' ht hf0 hf1 hs0 hs1
  have hl9 : (hdrS x.data.length x.ty x.fl x.st).length = 9 := rfl
  unfold frX frameC at hh hd0 hB0 ⊢
  generalize hdrS x.data.length x.ty x.fl x.st = H at *
  have H9 := Lib.hid hl9
  have HD := Lib.hid hd0
  clear hl9 hd0 hd
  go_enter Tryd.func21, Tryd.ntmps21
  go_wp2_with (first
    | (go_at_call 13; refine hh.mono ?_; rintro e w1 ⟨r, rfl, b1, o1, f1⟩; obtain ⟨ra, rc, rfl, -, -⟩ := own_shape o1)
    | (at_builtin; refine wpList_app E5 rfl _ _ rfl (.slice ra H.length rc) H.length _ rfl o1 x.data.length _ (src_of_rd (HD.out.below b1)) (by have := H9.out; omega) (by have := H9.out; unfold maxLen; omega) ?_; intro a' c' w2 o2 g2 t2))
  go_ret
  have s1 := b1.size
  have f0 : Fresh w.heap.size (.slice ra H.length rc) := f1.mono (by simp)
  refine ⟨.slice a' (H ++ x.data).length c', by (rw [List.length_append]; rfl), ?_, by rw [List.length_append, bv_append]; exact o2, ?_⟩
  · exact Below.app (Below.then hB0 (Nat.le_refl _) b1) (by simp at s1; omega) g2 f0
  · rw [List.length_append]; exact f0.app (by simp at s1; omega) t2
end Go.Proofs.YtfdlbjibninakaaDoor

namespace Go.Proofs.YtfdlbjibninakaaDoor
open Go.RowKit
theorem run_app_full {P : Program} {T e size bytes : Nat} {z : Value} (E : Elem P T e size bytes z) (w : World) (tx ty : Nat) (g n : Nat) (xs : List Value) (hlen : xs.length = n * size) (holds : ∀ j u, xs[j]? = some u → w.cell? ⟨g, j, none⟩ = some u) (x : Value) (m : Nat) (news : List Value) (hs : Src P size tx x m news w) (hm : 0 < m)
    (hb : (n + m) * bytes ≤ 140737488355328) (h63 : n + m ≤ maxLen) :
    ∃ a' c' w', (Builtin.append_ #[T, tx] ty #[.slice (some ⟨g, 0, none⟩) n n, x]).run P w = .ok (.slice a' (n + m) c') w' ∧ Row w' e size (.slice a' (n + m) c') (n + m) (xs ++ news) ∧ Below w.heap.size w w' ∧
      (Value.slice a' (n + m) c').ownBlock = some w.heap.size := by
  obtain ⟨i, hi, hz, hsize, hby⟩ := info_parts E.info
  subst hsize
  subst hby
  have hsmall : n + m ≤ 9223372036854775807 := by simp only [maxLen] at h63; omega
  have hlen2 : (xs ++ news).length = (n + m) * i.size := by rw [List.length_append, hlen, hs.newsLen, Nat.add_mul]
  have hzs := E.zs
  have hge := grownCap_ge w (n + m) n e
  have hcm : grownCap w (n + m) n e ≤ maxLen := grownCap_le_maxLen w (n + m) n e h63
  have holds' : ∀ j u, xs[j]? = some u → w.drew.cell? ((⟨g, 0, none⟩ : Addr).add j) = some u := fun j u hu => by
    rw [Addr.add_lit, Nat.zero_add]
    exact holds j u hu
  have hr := run_append_grow_src (P := P) w T tx ty e i z E.sl hi hz (some ⟨g, 0, none⟩) n n xs (run_firstCells_some w.drew i.size n ⟨g, 0, none⟩ n n xs hlen holds') x m news hs (by omega) (by omega) (growslice_fits (by omega) hb)
  refine ⟨_, _, _, hr, ⟨hlen2, .inr ⟨w.heap.size, _, _, rfl, Nat.zero_le _, heap_alloc_new w.drew _, hge, hcm, ?_, ?_⟩⟩, ⟨rfl, rfl, rfl, by simp, fun k hk => Below.heap_alloc w.drew _ k hk⟩, rfl⟩
  · simp only [Array.size_append, List.size_toArray, size_zeroCells, hzs, hlen2, ← Nat.add_mul]
    congr 1
    omega
  · simp only [Array.toList_append, ← hlen2]
    exact List.take_left
section
variable {P : Program} {T e size bytes tx : Nat} {z : Value} {w : World} {ops : Array Oper} {rest : List Oper} {o : Oper} {a : Act} {Q : Exit → Act → World → Prop}
theorem wp_app_full (E : Elem P T e size bytes z) {K : Act → World → Prop} (s x : Operand) (ho : o.op = .call { callee := .builtin .append, args := #[s, x], argTypes := #[T, tx] })
    (g n : Nat) (xs : List Value) (hs : a.eval s = .slice (some ⟨g, 0, none⟩) n n) (hlen : xs.length = n * size) (holds : ∀ j u, xs[j]? = some u → w.cell? ⟨g, j, none⟩ = some u) (m : Nat) (news : List Value) (hx : Src P size tx (a.eval x) m news w) (hm : 0 < m)
    (hb : (n + m) * bytes ≤ 140737488355328) (h63 : n + m ≤ maxLen)
    (h : ∀ a' c' w', Row w' e size (.slice a' (n + m) c') (n + m) (xs ++ news) → Below w.heap.size w w' → (Value.slice a' (n + m) c').ownBlock = some w.heap.size → K (a.put o.dst (.slice a' (n + m) c')) w') : o.wp P a w K Q := by
  obtain ⟨a', c', w', hr, h2, h3, h4⟩ := run_app_full (P := P) E w tx o.type g n xs hlen holds (a.eval x) m news hx hm hb h63
  unfold Oper.wp execOp
  simp only [ho, resolve, invoke, builtin, Sem.run_bind, Sem.run_pure, Result.andThen_ok, List.map_toArray, List.map_cons, List.map_nil, hs, hr]
  exact h a' c' w' h2 h3 h4
theorem wpList_app_full (E : Elem P T e size bytes z) (hgd : o.guard = none) (s x : Operand) (ho : o.op = .call { callee := .builtin .append, args := #[s, x], argTypes := #[T, tx] })
    (g n : Nat) (xs : List Value) (hs : a.eval s = .slice (some ⟨g, 0, none⟩) n n) (hlen : xs.length = n * size) (holds : ∀ j u, xs[j]? = some u → w.cell? ⟨g, j, none⟩ = some u) (m : Nat) (news : List Value) (hx : Src P size tx (a.eval x) m news w) (hm : 0 < m)
    (hb : (n + m) * bytes ≤ 140737488355328) (h63 : n + m ≤ maxLen)
    (h : ∀ a' c' w', Row w' e size (.slice a' (n + m) c') (n + m) (xs ++ news) → Below w.heap.size w w' → (Value.slice a' (n + m) c').ownBlock = some w.heap.size → wpList P ops Q rest (a.put o.dst (.slice a' (n + m) c')) w') :
    wpList P ops Q (o :: rest) a w :=
  wpList_plain hgd fun _ hK => wp_app_full E s x ho g n xs hs hlen holds m news hx hm hb h63 fun a' c' w' h2 h3 h4 => hK _ _ (h a' c' w' h2 h3 h4)
theorem step_app_full {K : Act → World → Prop} {X : Prop} (E : Elem P T e size bytes z) (hgd : o.guard = none) (s x : Operand) (ho : o.op = .call { callee := .builtin .append, args := #[s, x], argTypes := #[T, tx] })
    (g n : Nat) (xs : List Value) (hs : a.eval s = .slice (some ⟨g, 0, none⟩) n n) (hlen : xs.length = n * size) (holds : ∀ j u, xs[j]? = some u → w.cell? ⟨g, j, none⟩ = some u) (m : Nat) (news : List Value) (hx : Src P size tx (a.eval x) m news w) (hm : 0 < m)
    (hb : (n + m) * bytes ≤ 140737488355328) (h63 : n + m ≤ maxLen)
    (h : ∀ a' c' w', Row w' e size (.slice a' (n + m) c') (n + m) (xs ++ news) → Below w.heap.size w w' → (Value.slice a' (n + m) c').ownBlock = some w.heap.size → K (a.put o.dst (.slice a' (n + m) c')) w') :
    if Region.wanted o (yielded ops a.tmps) = true then Oper.wp P o a w K Q else X := by
  rw [if_pos (by simp [Region.wanted, hgd])]
  exact wp_app_full E s x ho g n xs hs hlen holds m news hx hm hb h63 h
end
end Go.Proofs.YtfdlbjibninakaaDoor

namespace Go.Proofs.YtfdlbjibninakaaDoor
open Go.ChangeShapes Go.WideShapes Go.RowKit

theorem rowEs (u : TypeId) (h : Tryd.prog.typeName? 3 u = some "*errors.errorString") : u = 247 := by
  have star : "*" ++ "errors.errorString" = "*errors.errorString" := by decide
  exact typeName_ptr_named (nm := "errors.errorString") (by rw [star]; kernel_rfl) (by kernel_rfl) (by decide) u (by rw [star]; exact h)
theorem cellsEs : Tryd.prog.cellsOf 249 = 1 := by kernel_rfl
theorem cellsStr : Tryd.prog.cellsOf 9 = 1 := by kernel_rfl

/-- A laid error. -/
def sentD (text : List UInt8) : DataW Unit := .iface "*errors.errorString" (.ptr (.agg [.lit (.string text)]))
set_option maxRecDepth 100000 in
theorem sent_cons {W : World} {n : String} {text : List UInt8} {r : List (String × DataW Unit)} {ps : List MemPlace} {g : Nat} (hg : Tryd.prog.globalNamed n = some g) (hgt : (Tryd.prog.globals[g]?).map (·.type) = some 75)
    (h : DataW.LaidVars Tryd.prog W ((n, sentD text) :: r) ps)
    (hrows : ∀ b off, MemPlace.cell b off ∈ ps → (∃ c t, W.heap[b]? = some (.cells c t (0, 0))) ∧ ∀ u v, W.cell? ⟨b, off, none⟩ = some (.iface u v) → Value.okWide Tryd.prog W .any 0 u v) :
    ∃ (a : Addr) (q : List MemPlace) (c : Array Value) (t : TypeId), W.cell? ⟨g, 0, none⟩ = some (.iface 247 (.pointer (some a))) ∧ W.heap[a.block]? = some (.cells c t (0, 0)) ∧
      DataW.LaidVars Tryd.prog W r q ∧ ps = [.cell g 0, .cell a.block a.off] ++ q := by
  obtain ⟨g0, t0, cs0, f0, p0, q0, hg0, ht0, hv0, hd0, hr, e0⟩ := h
  obtain rfl := Option.some.inj (hg.symm.trans hg0)
  obtain rfl := Option.some.inj (hgt.symm.trans ht0)
  subst e0
  obtain ⟨l0⟩ := cs0
  have ok0 : ∀ u v, l0 = [.iface u v] → Value.okWide Tryd.prog W .any 0 u v := fun u v e => by
    subst e
    exact (hrows g 0 (by simp [MemPlace.row])).2 u v (by simpa using World.var?_cell hg0 hv0 0)
  obtain ⟨a0, s0, rfl, hc0, hs0, hz0, rfl⟩ := errorString_of_trod Tryd.underlying75 rowEs Tryd.underlying247 Tryd.underlying249 rfl rfl Tryd.underlying9 cellsEs cellsStr hd0 ok0
  obtain ⟨c0, t0, hb0⟩ := (hrows a0.block a0.off (by simp [MemPlace.row])).1
  refine ⟨a0, q0, c0, t0, ?_, hb0, hr, by simp [MemPlace.row]⟩
  simpa using World.var?_cell hg0 hv0 0

theorem rtypeT : (Tryd.prog.cutTypes.find? (·.1 == "internal/reflectlite.rtype")).map (·.2) = some 233 := by kernel_rfl
theorem oneRowErr : ((List.range 289).filter fun t => Tryd.prog.rowNamed t [101, 114, 114, 111, 114]) = [75] := by kernel_rfl
theorem typesSize : Tryd.prog.types.size = 289 := by kernel_rfl
theorem handleErr : typeHandle Tryd.prog 75 = hd 75 := by kernel_rfl
theorem glET : Tryd.prog.globalNamed "errors.errorType" = some 4 := by kernel_rfl
theorem handle_cell {W : World} {l : List (String × DataW Unit)} (h : handlesMet Tryd.prog l W) (hm : ("errors.errorType", DataW.iface "internal/reflectlite.rtype" (.agg [.ptr (.lit (.string [101, 114, 114, 111, 114]))])) ∈ l) :
    W.cell? ⟨4, 0, none⟩ = some (.iface 233 (.agg #[hd 75])) := by
  obtain ⟨name, u, ty, e1, e2, e3, e4, e5⟩ := h _ hm
  have en : name = [101, 114, 114, 111, 114] := (Option.some.inj e1).symm
  subst en
  obtain rfl := Option.some.inj (rtypeT.symm.trans e2)
  have hm : ty ∈ (List.range 289).filter fun t => Tryd.prog.rowNamed t [101, 114, 114, 111, 114] := List.mem_filter.2 ⟨List.mem_range.2 (by rw [← typesSize]; exact e3), e4⟩
  rw [oneRowErr] at hm
  obtain rfl := List.mem_singleton.1 hm
  rw [handleErr] at e5
  simpa using World.var?_cell glET e5 0

theorem globs_le {W : World} (h : W.ShapedOpen Tryd.prog) : 11 ≤ W.heap.size := by
  have hg : Tryd.prog.globals.size = 11 := by kernel_rfl
  have h0 : 11 < (begin Tryd.prog (fun _ _ => 0) default).world.heap.size := of_decide_eq_true (by kernel_rfl)
  obtain ⟨o, o0, h1, -, -⟩ := h.2 11 (by rw [hg]; exact Nat.le_refl _) h0
  obtain ⟨hlt, -⟩ := Array.getElem?_eq_some_iff.1 h1
  exact Nat.le_of_lt hlt

theorem glE : Tryd.prog.globalNamed "io.EOF" = some 0 := by kernel_rfl
theorem glU : Tryd.prog.globalNamed "io.ErrUnexpectedEOF" = some 1 := by kernel_rfl
theorem glT : Tryd.prog.globalNamed "http2frames/pub/http2frames.ErrFrameTooLarge" = some 2 := by kernel_rfl
theorem glB : Tryd.prog.globalNamed "io.ErrShortBuffer" = some 10 := by kernel_rfl
theorem gtB : (Tryd.prog.globals[10]?).map (·.type) = some 75 := by kernel_rfl
theorem gtE : (Tryd.prog.globals[0]?).map (·.type) = some 75 := by kernel_rfl
theorem gtU : (Tryd.prog.globals[1]?).map (·.type) = some 75 := by kernel_rfl
theorem gtT : (Tryd.prog.globals[2]?).map (·.type) = some 75 := by kernel_rfl

theorem lt_of_block {W : World} {b : Nat} {c : Array Value} {t : TypeId} (h : W.heap[b]? = some (.cells c t (0, 0))) : b < W.heap.size := (Array.getElem?_eq_some_iff.1 h).1

/-- The laid variables of reading. -/
theorem gv_of_reads {W : World} {t0 t1 t2 t3 : List UInt8} (hS : W.ShapedOpen Tryd.prog) (h : laidMet Tryd.prog [("io.ErrShortBuffer", sentD t0), ("io.EOF", sentD t1), ("io.ErrUnexpectedEOF", sentD t2), ("http2frames/pub/http2frames.ErrFrameTooLarge", sentD t3)] W ∧
    handlesMet Tryd.prog [("errors.errorType", DataW.iface "internal/reflectlite.rtype" (.agg [.ptr (.lit (.string [101, 114, 114, 111, 114]))]))] W) : ∃ aE aU aT, GV W.heap.size W aE aU aT := by
  obtain ⟨⟨ps, hl, hnd, hrows⟩, hh⟩ := h
  have hH := handle_cell hh (List.mem_singleton.2 rfl)
  obtain ⟨a0, q, c0, t0, h0, b0, hl0, rfl⟩ := sent_cons glB gtB hl hrows
  obtain ⟨aE, q, cE, tE, hE, bE, hl1, rfl⟩ := sent_cons glE gtE hl0 (fun b off hm => hrows b off (List.mem_append_right _ hm))
  obtain ⟨aU, q, cU, tU, hU, bU, hl2, rfl⟩ := sent_cons glU gtU hl1 (fun b off hm => hrows b off (List.mem_append_right _ (List.mem_append_right _ hm)))
  obtain ⟨aT, q, cT, tT, hT, bT, hl3, rfl⟩ := sent_cons glT gtT hl2 (fun b off hm => hrows b off (List.mem_append_right _ (List.mem_append_right _ (List.mem_append_right _ hm))))
  refine ⟨aE, aU, aT, hE, hU, hT, hH, ⟨_, _, bE⟩, ⟨_, _, bU⟩, ⟨_, _, bT⟩, ?_, ?_, ?_, globs_le hS, lt_of_block bE, lt_of_block bU, lt_of_block bT⟩
  · rintro rfl; simp at hnd
  · rintro rfl; simp at hnd
  · rintro rfl; simp at hnd
end Go.Proofs.YtfdlbjibninakaaDoor

namespace Go.Proofs.YtfdlbjibninakaaDoor
open Go.ChangeShapes Go.WideShapes Go.RowKit

theorem open_rd {P : Program} {H : Type} {enc : TypeId × Value → H} {W : World} {base : Nat} {t e : TypeId} {k : IntKind} {v : Value} {d : DataW H} {p : List MemPlace} (ht : P.underlying t = some (.slice e)) (he : P.underlying e = some (.int k)) (hc : P.cellsOf e = 1)
    (hval : Value.okWide P W .any base t v) (h : DataW.Trod enc P W 0 (fun _ => true) true t v d p) : ∃ l, RdI k W v l ∧ ∀ x ∈ l, (Lit.int k x).wf = true := by
  obtain ⟨a0, len, cap, rfl⟩ := okWide_slice ht hval
  obtain ⟨fuel, hf⟩ := h
  rcases open_ints ht he hc hf with ⟨hcs, -⟩ | ⟨a, len', cap', zs, hcs, -, hle, hmax, hall, -, hcell, hwf⟩
  · simp [Value.cells] at hcs
    obtain ⟨rfl, rfl, rfl⟩ := hcs
    exact ⟨[], ⟨none, 0, rfl, Nat.le_refl _, Nat.zero_le _, fun j x hj => by simp at hj⟩, fun x hx => by cases hx⟩
  · simp [Value.cells] at hcs
    obtain ⟨rfl, rfl, rfl⟩ := hcs
    simp only [if_true] at hall
    refine ⟨zs.take len, ⟨some a, cap, ?_, ?_, hmax, ?_⟩, fun x hx => hwf x (List.mem_of_mem_take hx)⟩
    · rw [List.length_take, hall, Nat.min_eq_left hle]
    · rw [List.length_take, hall, Nat.min_eq_left hle]; exact hle
    · intro j x hj
      have hjl : j < len := by
        have := (List.getElem?_eq_some_iff.1 hj).1
        simp at this
        omega
      rw [List.getElem?_take_of_lt hjl] at hj
      obtain ⟨hjz, hjx⟩ := List.getElem?_eq_some_iff.1 hj
      obtain ⟨b, off, rfl, hc'⟩ := ints_at hcell (by omega)
      refine ⟨b, off, rfl, ?_⟩
      rw [hc' j hjz, ← hjx]
      simp [List.getD, hj, hjx]
theorem bs_of_wf {l : List Int} (h : ∀ x ∈ l, (Lit.int .u8 x).wf = true) : Bs l := fun x hx => by
  have := h x hx
  simp [Lit.wf, IntKind.min, IntKind.max, IntKind.signed, IntKind.bits] at this
  omega
end Go.Proofs.YtfdlbjibninakaaDoor

namespace Go.Proofs.YtfdlbjibninakaaDoor
theorem readAll_len {m : Int} (n : Nat) : ∀ (b : List Int), b.length = n → ∀ o, (readAll m o b).length ≤ b.length + 1 := by
  induction n using Nat.strongRecOn with
  | _ n ih =>
    intro b hn o
    cases hg : (one m o b).1.going with
    | true =>
      have hl := one_less hg
      rw [readAll_go hg, List.length_cons]
      have := ih _ (by omega) (one m o b).2.2 rfl (one m o b).2.1
      omega
    | false => rw [readAll_stop hg]; simp
theorem one_rest {m o : Int} {b : List Int} (hb : Bs b) : Bs (one m o b).2.2 := by
  unfold one
  split
  · intro x hx; cases hx
  split
  · exact hb.drop 9
  split
  · exact hb.drop 9
  split
  · intro x hx; cases hx
  · exact (hb.drop 9).drop _
theorem one_sets {m o : Int} {b : List Int} (hb : Bs b) : (one m o b).1.x.set.length * 6 ≤ b.length := by
  unfold one
  split
  · unfold cutOff; split <;> exact Nat.zero_le _
  split
  · exact Nat.zero_le _
  split
  · exact Nat.zero_le _
  split
  · unfold cutOff; split <;> exact Nat.zero_le _
  · show (parse (hdOf b) ((b.drop 9).take (hdOf b).ln.toNat)).x.set.length * 6 ≤ b.length
    rcases Sh.parse (hdOf b) ((b.drop 9).take (hdOf b).ln.toNat) ((hb.drop 9).take _) with ⟨x, hx, q⟩ | ⟨f, c, s, hx, -, -⟩
    · rw [hx]
      refine Nat.le_trans q.sl ?_
      rw [List.length_take, List.length_drop]
      omega
    · rw [hx]; exact Nat.zero_le _
theorem readAll_sets {m : Int} (n : Nat) : ∀ (b : List Int), b.length = n → Bs b → ∀ o, ∀ r ∈ readAll m o b, r.x.set.length * 6 ≤ b.length := by
  induction n using Nat.strongRecOn with
  | _ n ih =>
    intro b hn hb o r hr
    have h1 := one_sets (m := m) (o := o) hb
    cases hg : (one m o b).1.going with
    | true =>
      have hl := one_less hg
      rw [readAll_go hg] at hr
      rcases List.mem_cons.1 hr with rfl | hr
      · exact h1
      · have := ih _ (by omega) _ rfl (one_rest hb) _ r hr
        omega
    | false =>
      rw [readAll_stop hg] at hr
      rcases List.mem_cons.1 hr with rfl | hr
      · exact h1
      · cases hr
theorem readAll_small {m o : Int} {b : List Int} (hb : Bs b) (hl : b.length ≤ 16777215) : (readAll m o b).length ≤ 100000000 ∧ ∀ r ∈ readAll m o b, r.x.set.length ≤ 3000000 :=
  ⟨by have := readAll_len (m := m) _ b rfl o; omega, fun r hr => by have := readAll_sets _ b rfl hb o r hr; omega⟩
end Go.Proofs.YtfdlbjibninakaaDoor

namespace Go.Proofs.YtfdlbjibninakaaDoor
open Go.RowKit
theorem hdrS_at {ln ty fl st : Int} (h0 : 0 ≤ ln) (h1 : ln < 16777216) (h2 : 0 ≤ st) (h3 : st < 2147483648) : hdOf (hdrS ln ty fl st) = ⟨ty, fl, ln, st⟩ := by
  have e : n31 (hdrS ln ty fl st) 5 = st := by
    simp only [n31, n32, hdrS, be32, gb, List.cons_append, List.nil_append, List.getD_cons_zero, List.getD_cons_succ]
    omega
  have e2 : gb (hdrS ln ty fl st) 0 * 65536 + gb (hdrS ln ty fl st) 1 * 256 + gb (hdrS ln ty fl st) 2 = ln := by
    simp only [hdrS, be32, gb, List.cons_append, List.nil_append, List.getD_cons_zero, List.getD_cons_succ]
    omega
  unfold hdOf
  rw [e, e2]
  rfl
theorem hdrS_bs {ln ty fl st : Int} (h0 : 0 ≤ ln) (h1 : ln < 16777216) (h2 : 0 ≤ st) (h3 : st < 2147483648) (h4 : 0 ≤ ty) (h5 : ty < 256) (h6 : 0 ≤ fl) (h7 : fl < 256) : Bs (hdrS ln ty fl st) := by
  intro x hx
  simp [hdrS, be32] at hx
  omega
theorem rsAll_one {K : Nat → Prop} {w : World} {xs : List Value} {rs : List Rs} (h : RsAll K w xs rs) : ∀ u ∈ xs, u.oneCell' = true := by
  induction h with
  | nil => intro u hu; cases hu
  | cons r dv sv xs rs hd hdk hs hsk h ih =>
    intro u hu
    obtain ⟨a, c, rfl, -, -, -⟩ := hd
    obtain ⟨b, d, rfl, -, -, -⟩ := hs
    rcases List.mem_append.1 hu with h | h
    · exact rsX_one _ _ _ _ _ _ _ u h
    · exact ih u h
theorem own_at {w : World} {e size n g c : Nat} {xs : List Value} (h : Row w e size (.slice (some ⟨g, 0, none⟩) n c) n xs) : ∀ j u, xs[j]? = some u → w.cell? ⟨g, j, none⟩ = some u := fun j u hu => by
  obtain ⟨g', c', e, hc⟩ := own_cell h j u hu
  cases e
  exact hc
/-- One result ahead of others. -/
theorem res_cons {w w' : World} {v' : Value} {r : Rs} {rs : List Rs} {dv sv : Value} {ys : List Value} {n : Nat} (hr : Row w' 64 17 v' n ((rsX r dv sv).toList ++ ys)) (hn : n = 1 + rs.length) (hd : RdB w' dv r.x.data) (hs : RdP w' sv r.x.set) (ha : RsAll All w' ys rs) : ResR 64 w' v' (r :: rs) := by
  subst hn
  refine ⟨_, by rw [List.length_cons, Nat.add_comm]; exact hr, ?_⟩
  exact RsAll.cons r dv sv ys rs hd (inK_all _) hs (inK_all _) ha
theorem Bs.app {a b : List Int} (h : Bs a) (g : Bs b) : Bs (a ++ b) := fun x hx => (List.mem_append.1 hx).elim (h x) (g x)
set_option maxRecDepth 10000 in
set_option maxHeartbeats 16000000 in
theorem fnUnknown_main {B : Nat} {aE aU aT : Addr} {w : World} {L P : List Int} {da pa : Option Addr} {dc pc : Nat} (hV : GV B w aE aU aT) (hB : B ≤ w.heap.size) (hd : RdB w (.slice da L.length dc) L) (hp : RdB w (.slice pa P.length pc) P) (bs : Bs L) (bp : Bs P) (kind fl st : Int) (hst0 : 0 ≤ st)
    (h2 : (L.length : Int) + (P.length : Int) ≤ 65536) (h3 : 17 ≤ kind) (h4 : kind ≤ 255) (h5 : 0 ≤ fl) (h6 : fl ≤ 255) (h7 : st ≤ 2147483647) (h8 : (P.length : Int) ≤ 16384) :
    Calls Tryd.prog 10 #[.slice da L.length dc, .int .i64 kind, .int .i64 fl, .int .u32 st, .slice pa P.length pc] w (YesEnd w) := by
  have hby := fun (w' : World) (h : RdB w' (.slice pa P.length pc) P) => bytes_other (w := w') (x := { Fr.zero with ty := kind, fl := fl, st := st, ln := P.length, data := P }) (sv := .slice none 0 0) (pa := none) (pn := 0) (pc := 0) h (show P.length ≤ 65536 by omega) (show 17 ≤ kind by omega) (show kind < 256 by omega) (show 0 ≤ fl by omega) (show fl < 256 by omega) hst0 (show st < 4294967296 by omega)
  replace hby : ∀ (w' : World), RdB w' (.slice pa P.length pc) P → Calls Tryd.prog 21 #[.agg (frX { Fr.zero with ty := kind, fl := fl, st := st, ln := P.length, data := P } (.slice pa P.length pc) (.slice none 0 0)), .slice none 0 0, .bool false] w' (RetB w' (hdrS P.length kind fl st ++ P)) := hby
  obtain ⟨H, hH⟩ : ∃ H, hdrS P.length kind fl st ++ P = H := ⟨_, rfl⟩
  have hHl : H.length = 9 + P.length := by rw [← hH, List.length_append]; rfl
  have hHb : Bs H := by rw [← hH]; exact (hdrS_bs (by omega) (by omega) (by omega) (by omega) (by omega) (by omega) (by omega) (by omega)).app bp
  have hun : readAll (mxOf 0) 0 (H ++ L) = .ok { Fr.zero with ty := kind, fl := fl, st := st, ln := P.length, data := P } :: readAll (mxOf 0) 0 L := by
    rw [← hH, List.append_assoc]
    exact Pl.read_unknown ⟨kind, fl, P.length, st⟩ (hdrS P.length kind fl st) P L rfl (hdrS_at (by omega) (by omega) (by omega) (by omega)) (by show 17 ≤ kind; omega) rfl (by show (P.length : Int) ≤ mxOf 0; rw [mxOf_neg (by omega)]; omega)
  rw [hH] at hby
  obtain ⟨hs1, hs2⟩ := readAll_small (m := mxOf 0) (o := 0) bs (by omega)
  obtain ⟨hs3, hs4⟩ := readAll_small (m := mxOf 0) (o := 0) (b := H ++ L) (hHb.app bs) (by rw [List.length_append]; omega)
  have hmat := Pl.read_same (m := mxOf 0) (o := 0) (b := H ++ L) (q := true)
  have hr1 := fun (w' : World) (hb : Below w.heap.size w w') => implRead_any (pcs := .slice none 0 0) (ps := []) (hV.below hb) (Nat.le_trans hB hb.size) (hd.below hb) ⟨none, 0, rfl, Nat.le_refl _, Nat.zero_le _, fun j x h => by simp at h⟩ bs (by omega) 0 (by omega) (by omega)
  have hr2 := fun (w' : World) (v : Value) (hb : Below w.heap.size w w') (hv : RdB w' v (H ++ L)) => implRead_any (pcs := .slice none 0 0) (ps := []) (hV.below hb) (Nat.le_trans hB hb.size) hv ⟨none, 0, rfl, Nat.le_refl _, Nat.zero_le _, fun j x h => by simp at h⟩ (hHb.app bs) (by rw [List.length_append]; omega) 0 (by omega) (by omega)
  rw [hun] at hs3 hs4 hmat hr2
  have hne : 0 < (readAll (mxOf 0) 0 L).length := List.length_pos_iff.2 Pl.readAll_ne
  generalize readAll (mxOf 0) 0 L = rs at *
  have HBY := Lib.hid hby
  have R1 := Lib.hid hr1
  have R2 := Lib.hid hr2
  have HM := Lib.hid hmat
  have S2 := Lib.hid hs2
  have S4 := Lib.hid hs4
  have HD := Lib.hid hd
  have HP := Lib.hid hp
  have HHL := Lib.hid hHl
  have hHl' : H.length ≤ 16393 := by omega
  clear hby hr1 hr2 hmat hs2 hs4 hd hp hun hH hHl
  go_enter Tryd.func10, Tryd.ntmps10
  go_wp2_with (first
    | (refine wpList_store_blk rfl _ _ _ rfl w.heap.size rfl (frX { Fr.zero with ty := kind, fl := fl, st := st, ln := P.length, data := P } (.slice pa P.length pc) (.slice none 0 0)) _ rfl 35 (blk_new _ _) rfl infoFs (frX_one _ _ _ _ _ _ _) ?_; intro w1 hb1 k1; have B1 := below_new k1)
    | (refine wpList_load_blk rfl _ _ rfl w.heap.size rfl (frX { Fr.zero with ty := kind, fl := fl, st := st, ln := P.length, data := P } (.slice pa P.length pc) (.slice none 0 0)) 35 hb1 Tryd.underlying35 infoFs ?_))
  have HB1 := Lib.hid hb1
  clear hb1 k1
  with_reducible refine (HBY.out w1 (HP.out.below B1)).mono ?_
  rintro e w2 ⟨v2, rfl, b2, o2, f2⟩
  obtain ⟨va, vc, rfl, -, -⟩ := own_shape o2
  have B2 := Below.step B1 b2
  go_wp2_with (at_builtin; refine wpList_app E5 rfl _ _ rfl (.slice va H.length vc) H.length _ rfl o2 L.length _ (src_of_rd (HD.out.below B2)) (by omega) (by unfold maxLen; omega) ?_; intro a' c' w3 o3 g3 t3)
  have B3 : Below w.heap.size w w3 := Below.app B2 B2.size g3 (f2.mono (Nat.le_trans B1.size (Nat.le_refl _)))
  have hb3 : w3.heap[w.heap.size]? = some (.cells #[.int .i64 kind, .int .i64 fl, .int .u32 st, .int .i64 P.length, .slice pa P.length pc, .int .u32 0, .int .u32 0, .int .u32 0, .int .u32 0, .bool false, .bool false, .int .u32 0, .int .i64 0, .slice none 0 0] 35 (0, 0)) := by
    refine blk_grown (blk_below HB1.out b2) g3 fun e => ?_
    have := f2 _ e
    have := lt_of_block HB1.out
    omega
  have O3 : Hid (RdB w3 (.slice a' (H.length + L.length) c') (H ++ L)) := Lib.hid (by have := rd_of_row (l := H ++ L) (by rw [bv_append]; exact o3); exact this)
  clear o2 o3 g3 t3 f2 b2 B2 B1
  have HB3 := Lib.hid hb3
  clear hb3
  refine wp_region_held_drew (S := fun w' => w'.heap[w.heap.size]? = some (.cells #[.int .i64 kind, .int .i64 fl, .int .u32 st, .int .i64 P.length, .slice pa P.length pc, .int .u32 0, .int .u32 0, .int .u32 0, .int .u32 0, .bool false, .bool false, .int .u32 0, .int .i64 0, .slice none 0 0] 35 (0, 0))) (by kernel_rfl) HB3.out (fun hHeld => ?_)
  refine wpAnyH_take (i := 0) (v := .agg #[.int .i64 kind, .int .i64 fl, .int .u32 st, .int .i64 P.length, .slice pa P.length pc, .int .u32 0, .int .u32 0, .int .u32 0, .int .u32 0, .bool false, .bool false, .int .u32 0, .int .i64 0, .slice none 0 0]) rfl (by kernel_rfl) (by kernel_rfl) (by kernel_rfl) (fun _ _ _ h => h) (Or.inl ⟨by rfl, ?_⟩) (by assumption) ?_
  · intro w' hSw; exact exec_load_at _ _ rfl w.heap.size 0 rfl #[.int .i64 kind, .int .i64 fl, .int .u32 st, .int .i64 P.length, .slice pa P.length pc, .int .u32 0, .int .u32 0, .int .u32 0, .int .u32 0, .bool false, .bool false, .int .u32 0, .int .i64 0, .slice none 0 0] (fun j v hj => by rw [Nat.zero_add, blk_cell hSw]; exact hj) Tryd.underlying35 infoFs
  try simp only [Act.put, List.setIfInBounds_toArray, List.set_cons_zero, List.set_cons_succ]
  refine wpAnyH_take (i := 1) (v := .agg #[.int .i64 0, .int .u32 0, .int .u32 0, .int .i64 kind, .int .i64 fl, .int .u32 st, .int .i64 P.length, .slice pa P.length pc, .int .u32 0, .int .u32 0, .int .u32 0, .int .u32 0, .bool false, .bool false, .int .u32 0, .int .i64 0, .slice none 0 0]) rfl (by kernel_rfl) (by kernel_rfl) (by kernel_rfl) (fun _ _ _ h => h) (Or.inl ⟨by rfl, ?_⟩) (by assumption) ?_
  · intro w' _; go_simp
  try simp only [Act.put, List.setIfInBounds_toArray, List.set_cons_zero, List.set_cons_succ]
  refine wpAnyH_take (i := 3) (v := .slice da L.length dc) rfl (by kernel_rfl) (by kernel_rfl) (by kernel_rfl) (fun _ _ _ h => h) (Or.inl ⟨by rfl, ?_⟩) (by assumption) ?_
  · intro w' _; go_simp
  try simp only [Act.put, List.setIfInBounds_toArray, List.set_cons_zero, List.set_cons_succ]
  have B3d : Below w3.heap.size w3 w3.drew := (Below.refl _ _).drew
  refine wpAnyH_ready (rs := [2, 4]) (by kernel_rfl) (by simp) ?_
  refine AllReadyH.cons rfl (fun K' hK => ?_) (AllReadyH.cons rfl (fun K' hK => ?_) AllReadyH.nil)
  · go_simp
    have al1 : Below w3.drew.heap.size w3.drew (w3.drew.alloc (.cells #[.int .i64 0, .int .u32 0, .int .u32 0, .int .i64 kind, .int .i64 fl, .int .u32 st, .int .i64 P.length, .slice pa P.length pc, .int .u32 0, .int .u32 0, .int .u32 0, .int .u32 0, .bool false, .bool false, .int .u32 0, .int .i64 0, .slice none 0 0] 64)) := ((Kept.refl (· < w3.drew.heap.size) w3.drew).alloc _).below (Nat.le_refl _)
    have own1 : Row (w3.drew.alloc (.cells #[.int .i64 0, .int .u32 0, .int .u32 0, .int .i64 kind, .int .i64 fl, .int .u32 st, .int .i64 P.length, .slice pa P.length pc, .int .u32 0, .int .u32 0, .int .u32 0, .int .u32 0, .bool false, .bool false, .int .u32 0, .int .i64 0, .slice none 0 0] 64)) 64 17 (.slice (some ⟨w3.drew.heap.size, 0, none⟩) 1 1) 1 #[.int .i64 0, .int .u32 0, .int .u32 0, .int .i64 kind, .int .i64 fl, .int .u32 st, .int .i64 P.length, .slice pa P.length pc, .int .u32 0, .int .u32 0, .int .u32 0, .int .u32 0, .bool false, .bool false, .int .u32 0, .int .i64 0, .slice none 0 0].toList := ⟨rfl, .inr ⟨_, 1, _, rfl, Nat.zero_le _, blk_new _ _, Nat.le_refl _, by unfold maxLen; omega, rfl, rfl⟩⟩
    have hh1 : (w3.drew.alloc (.cells #[.int .i64 0, .int .u32 0, .int .u32 0, .int .i64 kind, .int .i64 fl, .int .u32 st, .int .i64 P.length, .slice pa P.length pc, .int .u32 0, .int .u32 0, .int .u32 0, .int .u32 0, .bool false, .bool false, .int .u32 0, .int .i64 0, .slice none 0 0] 64)).heap[w.heap.size]? = some (.cells #[.int .i64 kind, .int .i64 fl, .int .u32 st, .int .i64 P.length, .slice pa P.length pc, .int .u32 0, .int .u32 0, .int .u32 0, .int .u32 0, .bool false, .bool false, .int .u32 0, .int .i64 0, .slice none 0 0] 35 (0, 0)) := blk_alloc hHeld
    have B1x : Below w3.heap.size w3 (w3.drew.alloc (.cells #[.int .i64 0, .int .u32 0, .int .u32 0, .int .i64 kind, .int .i64 fl, .int .u32 st, .int .i64 P.length, .slice pa P.length pc, .int .u32 0, .int .u32 0, .int .u32 0, .int .u32 0, .bool false, .bool false, .int .u32 0, .int .i64 0, .slice none 0 0] 64)) := (B3d).alloc (B3d).size _
    refine hK.out _ _ hh1 (fun hHeld1 => ?_)
    clear hK K'
    try simp only [Act.put, List.setIfInBounds_toArray, List.set_cons_zero, List.set_cons_succ]
    refine wpAnyH_ready (rs := [4]) (by kernel_rfl) (by simp) ?_
    refine AllReadyH.cons rfl (fun K' hK => ?_) AllReadyH.nil
    go_simp
    refine (R1.out (w3.drew.alloc (.cells #[.int .i64 0, .int .u32 0, .int .u32 0, .int .i64 kind, .int .i64 fl, .int .u32 st, .int .i64 P.length, .slice pa P.length pc, .int .u32 0, .int .u32 0, .int .u32 0, .int .u32 0, .bool false, .bool false, .int .u32 0, .int .i64 0, .slice none 0 0] 64)) (Below.step B3 B1x)).mono ?_
    rintro e x2 ⟨v2, rfl, b2, hR2, hf2⟩
    have B2x : Below w3.heap.size w3 x2 := Below.step B1x b2
    have hh2 := blk_below hHeld1 b2
    have own2 := own_below own1 b2
    have rr2 := Lib.hid hR2
    clear hR2 hf2
    go_wp2_with fail
    refine hK.out _ _ hh2 (fun hHeld2 => ?_)
    clear hK K'
    try simp only [Act.put, List.setIfInBounds_toArray, List.set_cons_zero, List.set_cons_succ]
    refine wpAnyH_ready (rs := [5]) (by kernel_rfl) (by simp) ?_
    refine AllReadyH.cons rfl (fun K' hK => ?_) AllReadyH.nil
    go_simp
    refine (results_any _ rs x2 rr2.out hs1 S2.out).mono ?_
    rintro e x3 ⟨v3, rfl, b3, hR3, hf3⟩
    have B3x : Below w3.heap.size w3 x3 := Below.step B2x b3
    have hh3 := blk_below hHeld2 b3
    have own3 := own_below own2 b3
    obtain ⟨ys, hys3, hall3⟩ := hR3
    clear hf3
    obtain ⟨ra, rc, rfl, -, -⟩ := own_shape hys3
    go_wp2_with fail
    refine hK.out _ _ hh3 (fun hHeld3 => ?_)
    clear hK K'
    try simp only [Act.put, List.setIfInBounds_toArray, List.set_cons_zero, List.set_cons_succ]
    refine wpAnyH_ready (rs := [6]) (by kernel_rfl) (by simp) ?_
    refine AllReadyH.cons rfl (fun K' hK => ?_) AllReadyH.nil
    refine step_app_full ERs rfl _ _ rfl (w3.drew.heap.size) 1 #[.int .i64 0, .int .u32 0, .int .u32 0, .int .i64 kind, .int .i64 fl, .int .u32 st, .int .i64 P.length, .slice pa P.length pc, .int .u32 0, .int .u32 0, .int .u32 0, .int .u32 0, .bool false, .bool false, .int .u32 0, .int .i64 0, .slice none 0 0].toList rfl rfl (own_at own3) rs.length ys (src_of_row Tryd.underlying58 hys3 (rsAll_one hall3)) hne (by omega) (by unfold maxLen; omega) ?_
    intro a6 c6 x6 own6 b6 t6
    refine hK.out _ _ (blk_below hHeld3 b6) (fun hHeld6 => ?_)
    clear hK K'
    try simp only [Act.put, List.setIfInBounds_toArray, List.set_cons_zero, List.set_cons_succ]
    refine wpAnyH_take (i := 7) (v := .slice a6 (1 + rs.length) c6) rfl (by kernel_rfl) (by kernel_rfl) (by kernel_rfl) (fun _ _ _ h => h) (Or.inl ⟨by rfl, ?_⟩) (by assumption) ?_
    · intro w' _; go_simp
    try simp only [Act.put, List.setIfInBounds_toArray, List.set_cons_zero, List.set_cons_succ]
    refine wpAnyH_done (by kernel_rfl) ?_ _
    have C6 : Below w3.heap.size w3 x6 := Below.step B3x b6
    have B6 : Below w.heap.size w x6 := Below.step B3 C6
    have HX : Hid (ResR 64 x6 (.slice a6 (1 + rs.length) c6) (.ok { Fr.zero with ty := kind, fl := fl, st := st, ln := P.length, data := P } :: rs)) := Lib.hid (res_cons (w := x6) (w' := x6) (r := .ok { Fr.zero with ty := kind, fl := fl, st := st, ln := P.length, data := P }) (dv := .slice pa P.length pc) (sv := .slice none 0 0) own6 rfl (HP.out.below B6) (RdP.nil _) (RsAll.stay hall3 b6))
    clear own6 t6
    go_wp2_with fail
    refine (R2.out x6 _ B6 (O3.out.below C6)).mono ?_
    rintro e w7 ⟨v7, rfl, b7, hR7, hf7⟩
    have r7 := results_any v7 _ w7 hR7 hs3 S4.out
    clear hR7 hf7
    go_wp2_with fail
    refine r7.mono ?_
    rintro e w8 ⟨v8, rfl, b8, hR8, hf8⟩
    clear r7 hf8
    obtain ⟨va8, vc8, rfl, -, -⟩ := own_shape hR8.choose_spec.1
    have b68 := Below.step b7 b8
    have hm := matches_yes HM.out (HX.out.stay b68) hR8
    clear hR8
    go_wp2_with fail
    refine hm.mono ?_
    rintro e w9 ⟨rfl, b9⟩
    clear hm
    have B9 := Below.step (Below.step B6 b68) b9
    have hrd := reads_any (hV.below B9) (Nat.le_trans hB B9.size)
    go_wp2_with (go_at_call 28; refine hrd.mono ?_; rintro e w10 ⟨rfl, b10⟩)
    go_ret
    exact ⟨rfl, Below.step B9 b10⟩
  · go_simp
    refine (R1.out w3.drew (Below.step B3 B3d)).mono ?_
    rintro e x4 ⟨v4, rfl, b4, hR4, hf4⟩
    have B4x : Below w3.heap.size w3 x4 := Below.step B3d b4
    have hh4 := blk_below hHeld b4
    have rr4 := Lib.hid hR4
    clear hR4 hf4
    go_wp2_with fail
    refine hK.out _ _ hh4 (fun hHeld4 => ?_)
    clear hK K'
    try simp only [Act.put, List.setIfInBounds_toArray, List.set_cons_zero, List.set_cons_succ]
    refine wpAnyH_ready (rs := [2, 5]) (by kernel_rfl) (by simp) ?_
    refine AllReadyH.cons rfl (fun K' hK => ?_) (AllReadyH.cons rfl (fun K' hK => ?_) AllReadyH.nil)
    · go_simp
      have al5 : Below x4.heap.size x4 (x4.alloc (.cells #[.int .i64 0, .int .u32 0, .int .u32 0, .int .i64 kind, .int .i64 fl, .int .u32 st, .int .i64 P.length, .slice pa P.length pc, .int .u32 0, .int .u32 0, .int .u32 0, .int .u32 0, .bool false, .bool false, .int .u32 0, .int .i64 0, .slice none 0 0] 64)) := ((Kept.refl (· < x4.heap.size) x4).alloc _).below (Nat.le_refl _)
      have own5 : Row (x4.alloc (.cells #[.int .i64 0, .int .u32 0, .int .u32 0, .int .i64 kind, .int .i64 fl, .int .u32 st, .int .i64 P.length, .slice pa P.length pc, .int .u32 0, .int .u32 0, .int .u32 0, .int .u32 0, .bool false, .bool false, .int .u32 0, .int .i64 0, .slice none 0 0] 64)) 64 17 (.slice (some ⟨x4.heap.size, 0, none⟩) 1 1) 1 #[.int .i64 0, .int .u32 0, .int .u32 0, .int .i64 kind, .int .i64 fl, .int .u32 st, .int .i64 P.length, .slice pa P.length pc, .int .u32 0, .int .u32 0, .int .u32 0, .int .u32 0, .bool false, .bool false, .int .u32 0, .int .i64 0, .slice none 0 0].toList := ⟨rfl, .inr ⟨_, 1, _, rfl, Nat.zero_le _, blk_new _ _, Nat.le_refl _, by unfold maxLen; omega, rfl, rfl⟩⟩
      have hh5 : (x4.alloc (.cells #[.int .i64 0, .int .u32 0, .int .u32 0, .int .i64 kind, .int .i64 fl, .int .u32 st, .int .i64 P.length, .slice pa P.length pc, .int .u32 0, .int .u32 0, .int .u32 0, .int .u32 0, .bool false, .bool false, .int .u32 0, .int .i64 0, .slice none 0 0] 64)).heap[w.heap.size]? = some (.cells #[.int .i64 kind, .int .i64 fl, .int .u32 st, .int .i64 P.length, .slice pa P.length pc, .int .u32 0, .int .u32 0, .int .u32 0, .int .u32 0, .bool false, .bool false, .int .u32 0, .int .i64 0, .slice none 0 0] 35 (0, 0)) := blk_alloc hHeld4
      have B5x : Below w3.heap.size w3 (x4.alloc (.cells #[.int .i64 0, .int .u32 0, .int .u32 0, .int .i64 kind, .int .i64 fl, .int .u32 st, .int .i64 P.length, .slice pa P.length pc, .int .u32 0, .int .u32 0, .int .u32 0, .int .u32 0, .bool false, .bool false, .int .u32 0, .int .i64 0, .slice none 0 0] 64)) := (B4x).alloc (B4x).size _
      have rr5 := Lib.hid (ResR.stay rr4.out al5)
      refine hK.out _ _ hh5 (fun hHeld5 => ?_)
      clear hK K'
      try simp only [Act.put, List.setIfInBounds_toArray, List.set_cons_zero, List.set_cons_succ]
      refine wpAnyH_ready (rs := [5]) (by kernel_rfl) (by simp) ?_
      refine AllReadyH.cons rfl (fun K' hK => ?_) AllReadyH.nil
      go_simp
      refine (results_any _ rs (x4.alloc (.cells #[.int .i64 0, .int .u32 0, .int .u32 0, .int .i64 kind, .int .i64 fl, .int .u32 st, .int .i64 P.length, .slice pa P.length pc, .int .u32 0, .int .u32 0, .int .u32 0, .int .u32 0, .bool false, .bool false, .int .u32 0, .int .i64 0, .slice none 0 0] 64)) rr5.out hs1 S2.out).mono ?_
      rintro e x6 ⟨v6, rfl, b6, hR6, hf6⟩
      have B6x : Below w3.heap.size w3 x6 := Below.step B5x b6
      have hh6 := blk_below hHeld5 b6
      have own6 := own_below own5 b6
      obtain ⟨ys, hys6, hall6⟩ := hR6
      clear hf6
      obtain ⟨ra, rc, rfl, -, -⟩ := own_shape hys6
      go_wp2_with fail
      refine hK.out _ _ hh6 (fun hHeld6 => ?_)
      clear hK K'
      try simp only [Act.put, List.setIfInBounds_toArray, List.set_cons_zero, List.set_cons_succ]
      refine wpAnyH_ready (rs := [6]) (by kernel_rfl) (by simp) ?_
      refine AllReadyH.cons rfl (fun K' hK => ?_) AllReadyH.nil
      refine step_app_full ERs rfl _ _ rfl (x4.heap.size) 1 #[.int .i64 0, .int .u32 0, .int .u32 0, .int .i64 kind, .int .i64 fl, .int .u32 st, .int .i64 P.length, .slice pa P.length pc, .int .u32 0, .int .u32 0, .int .u32 0, .int .u32 0, .bool false, .bool false, .int .u32 0, .int .i64 0, .slice none 0 0].toList rfl rfl (own_at own6) rs.length ys (src_of_row Tryd.underlying58 hys6 (rsAll_one hall6)) hne (by omega) (by unfold maxLen; omega) ?_
      intro a6 c6 x6 own6 b6 t6
      refine hK.out _ _ (blk_below hHeld6 b6) (fun hHeld6 => ?_)
      clear hK K'
      try simp only [Act.put, List.setIfInBounds_toArray, List.set_cons_zero, List.set_cons_succ]
      refine wpAnyH_take (i := 7) (v := .slice a6 (1 + rs.length) c6) rfl (by kernel_rfl) (by kernel_rfl) (by kernel_rfl) (fun _ _ _ h => h) (Or.inl ⟨by rfl, ?_⟩) (by assumption) ?_
      · intro w' _; go_simp
      try simp only [Act.put, List.setIfInBounds_toArray, List.set_cons_zero, List.set_cons_succ]
      refine wpAnyH_done (by kernel_rfl) ?_ _
      have C6 : Below w3.heap.size w3 x6 := Below.step B6x b6
      have B6 : Below w.heap.size w x6 := Below.step B3 C6
      have HX : Hid (ResR 64 x6 (.slice a6 (1 + rs.length) c6) (.ok { Fr.zero with ty := kind, fl := fl, st := st, ln := P.length, data := P } :: rs)) := Lib.hid (res_cons (w := x6) (w' := x6) (r := .ok { Fr.zero with ty := kind, fl := fl, st := st, ln := P.length, data := P }) (dv := .slice pa P.length pc) (sv := .slice none 0 0) own6 rfl (HP.out.below B6) (RdP.nil _) (RsAll.stay hall6 b6))
      clear own6 t6
      go_wp2_with fail
      refine (R2.out x6 _ B6 (O3.out.below C6)).mono ?_
      rintro e w7 ⟨v7, rfl, b7, hR7, hf7⟩
      have r7 := results_any v7 _ w7 hR7 hs3 S4.out
      clear hR7 hf7
      go_wp2_with fail
      refine r7.mono ?_
      rintro e w8 ⟨v8, rfl, b8, hR8, hf8⟩
      clear r7 hf8
      obtain ⟨va8, vc8, rfl, -, -⟩ := own_shape hR8.choose_spec.1
      have b68 := Below.step b7 b8
      have hm := matches_yes HM.out (HX.out.stay b68) hR8
      clear hR8
      go_wp2_with fail
      refine hm.mono ?_
      rintro e w9 ⟨rfl, b9⟩
      clear hm
      have B9 := Below.step (Below.step B6 b68) b9
      have hrd := reads_any (hV.below B9) (Nat.le_trans hB B9.size)
      go_wp2_with (go_at_call 28; refine hrd.mono ?_; rintro e w10 ⟨rfl, b10⟩)
      go_ret
      exact ⟨rfl, Below.step B9 b10⟩
    · go_simp
      refine (results_any _ rs x4 rr4.out hs1 S2.out).mono ?_
      rintro e x7 ⟨v7, rfl, b7, hR7, hf7⟩
      have B7x : Below w3.heap.size w3 x7 := Below.step B4x b7
      have hh7 := blk_below hHeld4 b7
      obtain ⟨ys, hys7, hall7⟩ := hR7
      clear hf7
      obtain ⟨ra, rc, rfl, -, -⟩ := own_shape hys7
      go_wp2_with fail
      refine hK.out _ _ hh7 (fun hHeld7 => ?_)
      clear hK K'
      try simp only [Act.put, List.setIfInBounds_toArray, List.set_cons_zero, List.set_cons_succ]
      refine wpAnyH_ready (rs := [2]) (by kernel_rfl) (by simp) ?_
      refine AllReadyH.cons rfl (fun K' hK => ?_) AllReadyH.nil
      go_simp
      have al8 : Below x7.heap.size x7 (x7.alloc (.cells #[.int .i64 0, .int .u32 0, .int .u32 0, .int .i64 kind, .int .i64 fl, .int .u32 st, .int .i64 P.length, .slice pa P.length pc, .int .u32 0, .int .u32 0, .int .u32 0, .int .u32 0, .bool false, .bool false, .int .u32 0, .int .i64 0, .slice none 0 0] 64)) := ((Kept.refl (· < x7.heap.size) x7).alloc _).below (Nat.le_refl _)
      have own8 : Row (x7.alloc (.cells #[.int .i64 0, .int .u32 0, .int .u32 0, .int .i64 kind, .int .i64 fl, .int .u32 st, .int .i64 P.length, .slice pa P.length pc, .int .u32 0, .int .u32 0, .int .u32 0, .int .u32 0, .bool false, .bool false, .int .u32 0, .int .i64 0, .slice none 0 0] 64)) 64 17 (.slice (some ⟨x7.heap.size, 0, none⟩) 1 1) 1 #[.int .i64 0, .int .u32 0, .int .u32 0, .int .i64 kind, .int .i64 fl, .int .u32 st, .int .i64 P.length, .slice pa P.length pc, .int .u32 0, .int .u32 0, .int .u32 0, .int .u32 0, .bool false, .bool false, .int .u32 0, .int .i64 0, .slice none 0 0].toList := ⟨rfl, .inr ⟨_, 1, _, rfl, Nat.zero_le _, blk_new _ _, Nat.le_refl _, by unfold maxLen; omega, rfl, rfl⟩⟩
      have hh8 : (x7.alloc (.cells #[.int .i64 0, .int .u32 0, .int .u32 0, .int .i64 kind, .int .i64 fl, .int .u32 st, .int .i64 P.length, .slice pa P.length pc, .int .u32 0, .int .u32 0, .int .u32 0, .int .u32 0, .bool false, .bool false, .int .u32 0, .int .i64 0, .slice none 0 0] 64)).heap[w.heap.size]? = some (.cells #[.int .i64 kind, .int .i64 fl, .int .u32 st, .int .i64 P.length, .slice pa P.length pc, .int .u32 0, .int .u32 0, .int .u32 0, .int .u32 0, .bool false, .bool false, .int .u32 0, .int .i64 0, .slice none 0 0] 35 (0, 0)) := blk_alloc hHeld7
      have B8x : Below w3.heap.size w3 (x7.alloc (.cells #[.int .i64 0, .int .u32 0, .int .u32 0, .int .i64 kind, .int .i64 fl, .int .u32 st, .int .i64 P.length, .slice pa P.length pc, .int .u32 0, .int .u32 0, .int .u32 0, .int .u32 0, .bool false, .bool false, .int .u32 0, .int .i64 0, .slice none 0 0] 64)) := (B7x).alloc (B7x).size _
      have hys8 := own_below hys7 al8
      have hall8 := RsAll.stay hall7 al8
      refine hK.out _ _ hh8 (fun hHeld8 => ?_)
      clear hK K'
      try simp only [Act.put, List.setIfInBounds_toArray, List.set_cons_zero, List.set_cons_succ]
      refine wpAnyH_ready (rs := [6]) (by kernel_rfl) (by simp) ?_
      refine AllReadyH.cons rfl (fun K' hK => ?_) AllReadyH.nil
      refine step_app_full ERs rfl _ _ rfl (x7.heap.size) 1 #[.int .i64 0, .int .u32 0, .int .u32 0, .int .i64 kind, .int .i64 fl, .int .u32 st, .int .i64 P.length, .slice pa P.length pc, .int .u32 0, .int .u32 0, .int .u32 0, .int .u32 0, .bool false, .bool false, .int .u32 0, .int .i64 0, .slice none 0 0].toList rfl rfl (own_at own8) rs.length ys (src_of_row Tryd.underlying58 hys8 (rsAll_one hall8)) hne (by omega) (by unfold maxLen; omega) ?_
      intro a6 c6 x6 own6 b6 t6
      refine hK.out _ _ (blk_below hHeld8 b6) (fun hHeld6 => ?_)
      clear hK K'
      try simp only [Act.put, List.setIfInBounds_toArray, List.set_cons_zero, List.set_cons_succ]
      refine wpAnyH_take (i := 7) (v := .slice a6 (1 + rs.length) c6) rfl (by kernel_rfl) (by kernel_rfl) (by kernel_rfl) (fun _ _ _ h => h) (Or.inl ⟨by rfl, ?_⟩) (by assumption) ?_
      · intro w' _; go_simp
      try simp only [Act.put, List.setIfInBounds_toArray, List.set_cons_zero, List.set_cons_succ]
      refine wpAnyH_done (by kernel_rfl) ?_ _
      have C6 : Below w3.heap.size w3 x6 := Below.step B8x b6
      have B6 : Below w.heap.size w x6 := Below.step B3 C6
      have HX : Hid (ResR 64 x6 (.slice a6 (1 + rs.length) c6) (.ok { Fr.zero with ty := kind, fl := fl, st := st, ln := P.length, data := P } :: rs)) := Lib.hid (res_cons (w := x6) (w' := x6) (r := .ok { Fr.zero with ty := kind, fl := fl, st := st, ln := P.length, data := P }) (dv := .slice pa P.length pc) (sv := .slice none 0 0) own6 rfl (HP.out.below B6) (RdP.nil _) (RsAll.stay hall8 b6))
      clear own6 t6
      go_wp2_with fail
      refine (R2.out x6 _ B6 (O3.out.below C6)).mono ?_
      rintro e w7 ⟨v7, rfl, b7, hR7, hf7⟩
      have r7 := results_any v7 _ w7 hR7 hs3 S4.out
      clear hR7 hf7
      go_wp2_with fail
      refine r7.mono ?_
      rintro e w8 ⟨v8, rfl, b8, hR8, hf8⟩
      clear r7 hf8
      obtain ⟨va8, vc8, rfl, -, -⟩ := own_shape hR8.choose_spec.1
      have b68 := Below.step b7 b8
      have hm := matches_yes HM.out (HX.out.stay b68) hR8
      clear hR8
      go_wp2_with fail
      refine hm.mono ?_
      rintro e w9 ⟨rfl, b9⟩
      clear hm
      have B9 := Below.step (Below.step B6 b68) b9
      have hrd := reads_any (hV.below B9) (Nat.le_trans hB B9.size)
      go_wp2_with (go_at_call 28; refine hrd.mono ?_; rintro e w10 ⟨rfl, b10⟩)
      go_ret
      exact ⟨rfl, Below.step B9 b10⟩
set_option maxRecDepth 10000 in
set_option maxHeartbeats 16000000 in
theorem fnUnknown_any {B : Nat} {aE aU aT : Addr} {w : World} {L P : List Int} {data pay : Value} (hV : GV B w aE aU aT) (hB : B ≤ w.heap.size) (hd : RdB w data L) (hp : RdB w pay P) (bs : Bs L) (bp : Bs P) (kind fl st : Int) (hst0 : 0 ≤ st) :
    Calls Tryd.prog 10 #[data, .int .i64 kind, .int .i64 fl, .int .u32 st, pay] w (YesEnd w) := by
  have hd' := hd
  have hp' := hp
  obtain ⟨da, dc, rfl, -, -, -⟩ := hd'
  obtain ⟨pa, pc, rfl, -, -, -⟩ := hp'
  by_cases h0 : (2147483647 : Int) < L.length
  · clear hd hp
    go_enter Tryd.func10, Tryd.ntmps10
    go_wp2
    go_ret
    exact ⟨rfl, Below.refl _ _⟩
  by_cases h1 : (2147483647 : Int) < P.length
  · clear hd hp
    go_enter Tryd.func10, Tryd.ntmps10
    go_wp2
    go_ret
    exact ⟨rfl, Below.refl _ _⟩
  by_cases h2 : (65536 : Int) < (L.length : Int) + (P.length : Int)
  · clear hd hp
    go_enter Tryd.func10, Tryd.ntmps10
    go_wp2
    go_ret
    exact ⟨rfl, Below.refl _ _⟩
  by_cases h3 : kind < 17
  · clear hd hp
    go_enter Tryd.func10, Tryd.ntmps10
    go_wp2
    go_ret
    exact ⟨rfl, Below.refl _ _⟩
  by_cases h4 : 255 < kind
  · clear hd hp
    go_enter Tryd.func10, Tryd.ntmps10
    go_wp2
    go_ret
    exact ⟨rfl, Below.refl _ _⟩
  by_cases h5 : fl < 0
  · clear hd hp
    go_enter Tryd.func10, Tryd.ntmps10
    go_wp2
    go_ret
    exact ⟨rfl, Below.refl _ _⟩
  by_cases h6 : 255 < fl
  · clear hd hp
    go_enter Tryd.func10, Tryd.ntmps10
    go_wp2
    go_ret
    exact ⟨rfl, Below.refl _ _⟩
  by_cases h7 : 2147483647 < st
  · clear hd hp
    go_enter Tryd.func10, Tryd.ntmps10
    go_wp2
    go_ret
    exact ⟨rfl, Below.refl _ _⟩
  by_cases h8 : (16384 : Int) < P.length
  · clear hd hp
    go_enter Tryd.func10, Tryd.ntmps10
    go_wp2
    go_ret
    exact ⟨rfl, Below.refl _ _⟩
  exact fnUnknown_main hV hB hd hp bs bp kind fl st hst0 (by omega) (by omega) (by omega) (by omega) (by omega) (by omega) (by omega)
end Go.Proofs.YtfdlbjibninakaaDoor

namespace Go.Proofs.YtfdlbjibninakaaDoor.fnUnknown
open Go.ChangeShapes Go.WideShapes Go.ChangeAt Go.RowKit

section
variable {H : Type} {enc : TypeId × Value → H} {P : Program} {w : World} {base : Nat} {spare : Nat → Bool} {held : Bool}
theorem trodAll_five {t0 t1 t2 t3 t4 : TypeId} {args : Array Value} {ds : List (DataW H)} {ps : List MemPlace} (h : DataW.TrodAll enc P w base spare held [t0, t1, t2, t3, t4] args.toList ds ps) :
    ∃ v0 v1 v2 v3 v4 d0 d1 d2 d3 d4 p0 p1 p2 p3 p4, args = #[v0, v1, v2, v3, v4] ∧ ds = [d0, d1, d2, d3, d4] ∧ ps = p0 ++ (p1 ++ (p2 ++ (p3 ++ p4))) ∧ DataW.Trod enc P w base spare held t0 v0 d0 p0 ∧ DataW.Trod enc P w base spare held t1 v1 d1 p1 ∧
      DataW.Trod enc P w base spare held t2 v2 d2 p2 ∧ DataW.Trod enc P w base spare held t3 v3 d3 p3 ∧ DataW.Trod enc P w base spare held t4 v4 d4 p4 := by
  obtain ⟨v0, r0, d0, e0, p0, q0, ea0, ed0, ep0, h0, hr0⟩ := trodAll_cons h
  obtain ⟨v1, r1, d1, e1, p1, q1, ea1, ed1, ep1, h1, hr1⟩ := trodAll_cons hr0
  obtain ⟨v2, r2, d2, e2, p2, q2, ea2, ed2, ep2, h2, hr2⟩ := trodAll_cons hr1
  obtain ⟨v3, r3, d3, e3, p3, q3, ea3, ed3, ep3, h3, hr3⟩ := trodAll_cons hr2
  obtain ⟨v4, r4, d4, e4, p4, q4, ea4, ed4, ep4, h4, hr4⟩ := trodAll_cons hr3
  obtain ⟨rfl, rfl, rfl⟩ := trodAll_nil hr4
  refine ⟨v0, v1, v2, v3, v4, d0, d1, d2, d3, d4, p0, p1, p2, p3, p4, ?_, by rw [ed0, ed1, ed2, ed3, ed4], by rw [ep0, ep1, ep2, ep3, ep4]; simp, h0, h1, h2, h3, h4⟩
  apply Array.toList_inj.1
  rw [ea0, ea1, ea2, ea3, ea4]
end

set_option maxRecDepth 100000 in
theorem contract (H : Type) (enc : TypeId × Value → H) (W : World) (base : Nat) (args : Array Value) (ds gs : List (DataW H)) (before : List MemPlace)
    (hval : ∀ (j : Nat) t v, Tryd.f10.params[j]? = some t → args[j]? = some v → Value.okWide Tryd.prog W .any base t v)
    (hW : DataW.Whole enc Tryd.prog Tryd.f10.params.toList Rows.fnUnknownSpec.vars false W args.toList ds gs before) (hL : laidMetH Tryd.prog Rows.fnUnknownRow.laid W) (hS : W.ShapedOpen Tryd.prog) :
    Calls Tryd.prog 10 args W fun e W' => ∃ v, e = .returned v ∧ Rows.fnUnknownSpec.post enc Tryd.prog Tryd.f10 false true false false W args v W' := by
  have hW' := hW
  obtain ⟨p, q, hA0, hV, rfl, hfz, hnd⟩ := hW
  have hA : DataW.TrodAll enc Tryd.prog W 0 (fun _ => true) true Tryd.f10.params.toList args.toList ds p := hA0
  rw [Tryd.params10] at hA hval
  obtain ⟨v0, v1, v2, v3, v4, d0, d1, d2, d3, d4, p0, p1, p2, p3, p4, rfl, rfl, rfl, h0, h1, h2, h3, h4⟩ := trodAll_five hA
  obtain ⟨rfl, rfl⟩ := trodVars_none hV
  obtain ⟨l, hl, hwf⟩ := open_rd Tryd.underlying23 Tryd.underlying5 (by kernel_rfl) (hval 0 23 v0 rfl rfl) h0
  obtain ⟨a1, rfl, rfl, rfl, w1⟩ := open_int Tryd.underlying3 (hval 1 3 v1 rfl rfl) h1
  obtain ⟨a2, rfl, rfl, rfl, w2⟩ := open_int Tryd.underlying3 (hval 2 3 v2 rfl rfl) h2
  obtain ⟨a3, rfl, rfl, rfl, w3⟩ := open_int Tryd.underlying22 (hval 3 22 v3 rfl rfl) h3
  obtain ⟨l4, hl4, hwf4⟩ := open_rd Tryd.underlying23 Tryd.underlying5 (by kernel_rfl) (hval 4 23 v4 rfl rfl) h4
  have b3 := bounds_u32 w3
  obtain ⟨aE, aU, aT, hG⟩ := gv_of_reads hS hL
  refine (fnUnknown_any hG (Nat.le_refl _) hl hl4 (bs_of_wf hwf) (bs_of_wf hwf4) a1 a2 a3 b3.1).mono fun e W' ⟨he, hb⟩ => ?_
  subst he
  exact ⟨_, rfl, law_post rfl rfl (by kernel_rfl) hW' rfl hb⟩

theorem laid_met (os : Os) : laidMetH Tryd.prog Rows.fnUnknownRow.laid ((World.doorLaid Tryd.prog 187 os).forCall (fun _ _ => 0) ⟨#[], #[.slice none 0 0, .int .i64 0, .int .i64 0, .int .u32 0, .slice none 0 0], []⟩).memory :=
  laidMetH_of_parts3 (fuel := 8) (laidMet_of_run' 8 (by kernel_rfl) (by kernel_rfl)) (by kernel_rfl) (by kernel_rfl)
theorem reads (os : Os) {H : Type} (enc : TypeId × Value → H) : ∃ places, DataW.whole enc Tryd.prog ((World.doorLaid Tryd.prog 187 os).forCall (fun _ _ => 0) ⟨#[], #[.slice none 0 0, .int .i64 0, .int .i64 0, .int .u32 0, .slice none 0 0], []⟩).memory Tryd.f10.params.toList Rows.fnUnknownSpec.vars false
    #[Value.slice none 0 0, .int .i64 0, .int .i64 0, .int .u32 0, .slice none 0 0].toList 8 = some ([.nil, .lit (.int .i64 0), .lit (.int .i64 0), .lit (.int .u32 0), .nil], [], places) :=
  ⟨[], by kernel_rfl⟩

set_option maxRecDepth 100000 in
theorem lifted (os : Os) (started : os.Started) (H : Type) (enc : TypeId × Value → H) (F : Stop.Interp) :
    ReturnsInHanded {} Tryd.checked os 10 .any ((OpenSpec.ofChange Rows.fnUnknownSpec).preRow enc Tryd.prog Tryd.f10 Rows.fnUnknownRow.domain false Rows.fnUnknownRow.laid)
      (((OpenSpec.ofChange Rows.fnUnknownSpec).at F).post enc Tryd.prog Tryd.f10 false true false false) := by
  obtain ⟨places, hx⟩ := reads os enc
  refine returnsInHanded_of_row (C := Tryd.checked) (s := OpenSpec.ofChange Rows.fnUnknownSpec) own_knob started (by kernel_rfl) Tryd.func10
    (witness_row_atRef (enc := enc) (C := Tryd.checked) false (World.doorLaid Tryd.prog 187 os) #[.slice none 0 0, .int .i64 0, .int .i64 0, .int .u32 0, .slice none 0 0] rfl (by kernel_rfl) (by kernel_rfl) (by kernel_rfl)
      (OpenSpec.preRow_of_cond 8 hx (by kernel_rfl) (fun k hk => by cases hk) (by kernel_rfl) (laid_met os))) ?_
  intro W base args ds gs before hval hW _ _ _ hL hS _
  exact contract H enc W base args ds gs before hval hW hL hS

theorem said : Rows.FnUnknownSaid :=
  OpenClaim.holds_of_cond 10 Tryd.f10 rfl rfl rfl rfl rfl rfl rfl ⟨rfl, rfl, rfl, rfl, rfl⟩ rfl rfl rfl rfl rfl (by kernel_rfl) Tryd.func10 (by kernel_rfl)
    (of_decide_eq_true (by kernel_rfl)) (by unfold Func.isWrapper; rw [if_neg (of_decide_eq_false (by kernel_rfl))]; exact ⟨rfl, rfl⟩)
    (fun os started H enc _ F => by rw [OpenClaim.pre_eq_preRow]; exact lifted os started H enc F)

theorem card : Rows.FnUnknownCardSaid :=
  Claim7.holds_tied_plain_at .later [] _ _ _ _ said (fun _ h => by cases h) (by kernel_rfl) (fun _ h => by cases h) fnUnknown_row_tie rfl ⟨rfl, rfl⟩ (by kernel_rfl) rfl
    (named_of (by kernel_rfl) Tryd.func10 (by kernel_rfl) (by kernel_rfl)) (by kernel_rfl)
#print axioms card
end Go.Proofs.YtfdlbjibninakaaDoor.fnUnknown
