/- impl.plain: settings. -/
import Derived.Test.YtfdlbjibninakaaDoorIp1
import Derived.Outline
set_option linter.unusedVariables false
set_option linter.unusedSimpArgs false
namespace Go.Proofs.YtfdlbjibninakaaDoor
open Go.RowKit
theorem EIs : Elem Tryd.prog 40 29 2 16 (.agg #[.int .i64 0, .int .u32 0]) := ⟨Tryd.underlying40, by kernel_rfl, rfl, by decide⟩
theorem pairs_len (N : Nat) (b : List Int) : (pairs N b).length = N := by
  induction N generalizing b with
  | zero => rfl
  | succ N ih => simp [pairs, ih]
theorem pairs_at (N : Nat) (b : List Int) (k : Nat) (h : k < N) : (pairs N b)[k]? = some (n16 b (6 * k), n32 b (6 * k + 2)) := by
  induction N generalizing b k with
  | zero => omega
  | succ N ih =>
    cases k with
    | zero => rfl
    | succ k =>
      show (pairs N (b.drop 6))[k]? = _
      rw [ih _ _ (by omega), ← n16_drop (b.drop 6), ← n32_drop (b.drop 6), List.drop_drop, List.drop_drop, n16_drop, n32_drop]
      congr 3 <;> omega
theorem prV_snoc (l : List (Int × Int)) (k : Nat) (p : Int × Int) (h : l[k]? = some p) : prV (l.take (k + 1)) = prV (l.take k) ++ [.int .i64 p.1, .int .u32 p.2] := by
  obtain ⟨hlt, he⟩ := List.getElem?_eq_some_iff.1 h
  rw [List.take_succ_eq_append_getElem hlt, prV_app, he]; rfl
/-- What the closure that collects settings leaves. -/
def SetEnd (B : Nat) (w : World) (o : Nat) (x : Fr) (dv : Value) (k : Nat) (xs : List Value) (i v : Int) (e : Ending) (w' : World) : Prop :=
  ∃ sv, e = .returned .nilIface ∧ w'.heap[o]? = some (.cells (frX x dv sv) 42 (0, 0)) ∧ Row w' 29 2 sv (k + 1) (xs ++ [.int .i64 i, .int .u32 v]) ∧ Fresh B sv ∧ Below B w w'
set_option maxRecDepth 10000 in
set_option maxHeartbeats 8000000 in
theorem setApp_any {B : Nat} {w : World} {o : Nat} {x : Fr} {dv sv : Value} {k : Nat} {xs : List Value} (ho : w.heap[o]? = some (.cells (frX x dv sv) 42 (0, 0))) (hr : Row w 29 2 sv k xs) (hk : k ≤ 3000000) (hf : Fresh B sv) (hB : B ≤ o) (i v : Int) (i0 : 0 ≤ i) (i1 : i < 65536) :
    Calls Tryd.prog 80 #[.agg #[.int .u16 i, .int .u32 v], .pointer (some ⟨o, 0, none⟩)] w (SetEnd B w o x dv k xs i v) := by
  obtain ⟨va, vc, rfl, hvc, hvm⟩ := own_shape hr
  have hlt := lt_of_block ho
  have hne := own_block hr ho (by decide)
  have c13 : w.cell? ⟨o, 13, none⟩ = some (.slice va k vc) := blk_cell ho 13
  have HO := Lib.hid ho
  clear ho
  go_enter Tryd.func80, Tryd.ntmps80
  go_wp2_with (at_builtin; refine wpList_app EIs rfl _ _ rfl (.slice va k vc) k _ rfl (own_alloc (own_alloc hr _) _) 1 _ (src_of_block Tryd.underlying40 (blk_at _ _ (by simp)) rfl (by simp [Value.oneCell'])) (by omega) (by unfold maxLen; omega) ?_; intro a' c' w2 hown2 hgrow hat; have hb2 : w2.heap[o]? = _ := blk_grown (blk_alloc (blk_alloc HO.out)) hgrow hne; have hd13 : w2.cell? ⟨o, 13, none⟩ = some (.slice va k vc) := blk_cell hb2 13; have hf13 := blk_free hb2 13)
  go_ret
  refine ⟨.slice a' (k + 1) c', rfl, blk_set hb2 13 _, own_set hown2 (own_block hown2 hb2 (by decide)) _, hf.app (by simp; omega) hat, ?_⟩
  exact (Below.app (((Below.refl _ _).alloc (by omega) _).alloc (by simp; omega) _) (by simp; omega) hgrow hf).setCell (by simp; omega) _
/-- What ForeachSetting leaves. -/
def EachEnd (w : World) (o : Nat) (x : Fr) (dv : Value) (l : List (Int × Int)) (e : Ending) (w' : World) : Prop :=
  ∃ sv, e = .returned .nilIface ∧ w'.heap[o]? = some (.cells (frX x dv sv) 42 (0, 0)) ∧ Row w' 29 2 sv l.length (prV l) ∧ Fresh o sv ∧ Below o w w'
set_option maxRecDepth 10000 in
set_option maxHeartbeats 8000000 in
theorem foreach_any {w0 w : World} {p o n c : Nat} {a : Option Addr} {b : List Int} {x : Fr} {dv : Value} (hv : w0.cell? ⟨p, 0, none⟩ = some (.bool true)) (hc : w0.cell? ⟨p, 5, none⟩ = some (.slice a n c)) (h : RdB w0 (.slice a n c) b) (hb : Bs b) (hn : n ≤ 16777216)
    (hB : Below w0.heap.size w0 w) (ho0 : w0.heap.size ≤ o) (ho : w.heap[o]? = some (.cells (frX x dv (.slice none 0 0)) 42 (0, 0))) :
    Calls Tryd.prog 79 #[.pointer (some ⟨p, 0, none⟩), .func (.func 80) #[] #[.pointer (some ⟨o, 0, none⟩)]] w (EachEnd w o x dv (pairs (n / 6) b)) := by
  have hcv := checkValid_any (cell_below hv hB)
  have hbl : b.length = n := by obtain ⟨_, _, e, -⟩ := h; cases e; rfl
  have HL := Lib.hid hbl
  have hlo := lt_of_block ho
  clear hbl
  go_enter Tryd.func79, Tryd.ntmps79
  go_wp2_with (go_at_call 108; refine hcv.mono ?_; rintro e w' ⟨rfl, rfl⟩)
  clear hcv
  go_loopw [5] (fun i wr => ∃ k : Nat, i = .int .i64 (k : Int) ∧ k ≤ n / 6 ∧ ∃ sv, wr.heap[o]? = some (.cells (frX x dv sv) 42 (0, 0)) ∧ Row wr 29 2 sv k (prV ((pairs (n / 6) b).take k)) ∧ Fresh o sv ∧ Below o w wr) (fun i _ => n / 6 - (intOf i).toNat)
  case atStart => exact ⟨0, rfl, Nat.zero_le _, _, ho, World.ownsRow_nil _ _ _ _, Fresh.nil _, Below.refl _ _⟩
  case round =>
    obtain ⟨k, rfl, hk, sv, hbo, hrow, hfr, hbel⟩ := hrel
    have hB2 : Below w0.heap.size w0 wr := hB.trans (hbel.mono ho0)
    have hc2 := cell_below hc hB2
    have h2 := h.below hB2
    have hns := numSettings_any hc2 (by omega)
    by_cases hkm : k = n / 6
    · have hlt : ¬ (k : Int) < ((n / 6 : Nat) : Int) := by omega
      have HK := Lib.hid hkm
      clear hkm hk
      go_wp2_with (go_at_call 72; refine hns.mono ?_; rintro e w' ⟨rfl, rfl⟩)
      go_ret
      refine ⟨sv, rfl, hbo, ?_, hfr, hbel⟩
      rw [pairs_len]
      have := hrow
      rwa [List.take_of_length_le (by rw [pairs_len]; have := HK.out; omega), HK.out] at this
    · have hlt : (k : Int) < ((n / 6 : Nat) : Int) := by omega
      have hst := setting_any hc2 h2 hb k (by have := HL.out; omega)
      have hkn : k < n / 6 := by omega
      have hp := pairs_at (n / 6) b k hkn
      have i0 : 0 ≤ n16 b (6 * k) := by have := hb.at (6 * k); have := hb.at (6 * k + 1); unfold n16; omega
      have i1 : n16 b (6 * k) < 65536 := by have := hb.at (6 * k); have := hb.at (6 * k + 1); unfold n16; omega
      have hps := prV_snoc _ _ _ hp
      have HP := Lib.hid hps
      clear hp hps hkm
      have hlr := lt_of_block hbo
      generalize n16 b (6 * k) = i at *
      generalize n32 b (6 * k + 2) = v at *
      go_wp2_with (first
        | (go_at_call 72; refine hns.mono ?_; rintro e w' ⟨rfl, rfl⟩)
        | (go_at_call 73; refine hst.mono ?_; rintro e w2 ⟨rfl, hb2⟩)
        | (go_at_call 80; refine (setApp_any (B := o) (blk_below hbo hb2) (own_below hrow hb2) (by omega) hfr (Nat.le_refl _) i v i0 i1).mono ?_; rintro e w3 ⟨sv3, rfl, hb3, hr3, hf3, hbl3⟩))
      go_roundw
      case rel => exact ⟨k + 1, by go_num, by omega, sv3, hb3, by rw [HP.out]; exact hr3, hf3, (Below.then hbel (Nat.le_of_lt hlo) hb2).trans hbl3⟩
      case measure => simp [intOf]; omega
set_option maxRecDepth 10000 in
set_option maxHeartbeats 8000000 in
theorem plain_settings {w : World} {h : Hd} {p : Nat} (hb : HdB h) (g : FrC w p h) {b : List Int} {a : Option Addr} {n c : Nat} (c5 : w.cell? ⟨p, 5, none⟩ = some (.slice a n c)) (hv : RdB w (.slice a n c) b) (hb2s : Bs b) (hl : n ≤ 16777216) :
    Calls Tryd.prog 44 #[.iface 109 (.pointer (some ⟨p, 0, none⟩))] w (PlnEnd w { Fr.of h with set := pairs (n / 6) b }) := by
  obtain ⟨t0, t1, f0, f1, l0, l1⟩ := hb
  have l2 : h.ln < 4294967296 := by omega
  have hm : (method 389 109 (.pointer (some ⟨p, 0, none⟩)) "Header").run Tryd.prog (w.alloc (.cells #[.int .i64 0, .int .i64 0, .int .u32 0, .int .i64 0, .slice none 0 0, .int .u32 0, .int .u32 0, .int .u32 0, .int .u32 0, .bool false, .bool false, .int .u32 0, .int .i64 0, .slice none 0 0] 42)) = _ := hd_SettingsFrame (g.below (((Kept.refl (· < w.heap.size) w).alloc _).below (Nat.le_refl _)))
  have tn_0 := tn_SettingsFrame_DataFrame
  have tn_1 := tn_SettingsFrame_HeadersFrame
  have tn_2 := tn_SettingsFrame_PriorityFrame
  have tn_3 := tn_SettingsFrame_RSTStreamFrame
  have ty := ty_SettingsFrame
  go_enter Tryd.func44, Tryd.ntmps44
  go_wp2_with (first
    | (go_at_call 150; refine (header_any _ true h.ty h.fl h.ln h.st _ rfl).mono ?_; rintro e w1 ⟨rfl, b1⟩)
    | (refine wpList_store_blk rfl _ _ _ rfl w1.heap.size rfl _ _ rfl 117 (blk_new _ _) rfl infoFH (by simp [Value.oneCell']) ?_; intro w2 hb2 k2; have e1 : w2.cell? ⟨w1.heap.size, 1, none⟩ = some (.int .u8 h.ty) := blk_cell hb2 1; have e2 : w2.cell? ⟨w1.heap.size, 2, none⟩ = some (.int .u8 h.fl) := blk_cell hb2 2; have e3 : w2.cell? ⟨w1.heap.size, 3, none⟩ = some (.int .u32 h.ln) := blk_cell hb2 3; have e4 : w2.cell? ⟨w1.heap.size, 4, none⟩ = some (.int .u32 h.st) := blk_cell hb2 4)
    | (refine wpList_store_blk rfl _ _ _ rfl w2.heap.size rfl (frX (Fr.of h) (.slice none 0 0) (.slice none 0 0)) _ rfl 42 (blk_new _ _) rfl infoFi (by simp [Value.oneCell', frX, frameC]) ?_; intro w3 hb3 k3; have S := PlS.mk' b1 k2 k3 hb3; clear e1 e2 e3 e4 hb2 k2 k3 b1 hm)
    | (go_at_call 79; refine (foreach_any g.c0 c5 hv hb2s (by omega) S.B (Nat.le_of_lt S.lo) hb3).mono ?_; rintro e w4 ⟨sv, rfl, hb4, o4, f4, bl4⟩; obtain ⟨ra, rc, rfl, -, -⟩ := own_shape o4)
    | (refine wpList_load_blk rfl _ _ rfl w2.heap.size rfl (frX { Fr.of h with set := pairs (n / 6) b } (.slice none 0 0) (.slice ra (pairs (n / 6) b).length rc)) 42 (hb4) Tryd.underlying42 infoFi ?_)
    | (refine wpList_store_blk rfl _ _ _ rfl w.heap.size rfl (frX { Fr.of h with set := pairs (n / 6) b } (.slice none 0 0) (.slice ra (pairs (n / 6) b).length rc)) _ rfl 42 ((Kept.ofBelow bl4).at S.lo S.q) rfl infoFi (by simp [Value.oneCell', frX, frameC]) ?_; intro w5 hb5 k5))
  refine ret_blk rfl w.heap.size _ _ rfl hb5 Tryd.underlying42 infoFi rfl ?_
  exact pln_end (S.B.trans (bl4.mono (Nat.le_of_lt S.lo))) k5 (rdB_nil _) (inK_nil _) (rdP_of_row o4) (fresh_in f4 fun k hk => Nat.lt_of_lt_of_le S.lo hk)
end Go.Proofs.YtfdlbjibninakaaDoor
