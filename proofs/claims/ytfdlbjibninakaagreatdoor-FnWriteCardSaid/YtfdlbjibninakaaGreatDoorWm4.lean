/- The Write methods at legal frames: DATA. -/
import Derived.Test.YtfdlbjibninakaaGreatDoorWm2
import Derived.Deep.RegionHeld3
set_option linter.unusedVariables false
set_option linter.unusedSimpArgs false
namespace Go.Proofs.YtfdlbjibninakaaGreatDoor
open Go.RowKit
theorem own_some {w : World} {e n c m : Nat} {a : Option Addr} {l : List Int} (h : Row w e 1 (.slice a n c) m (bv l)) (hm : 0 < m) : ∃ b, a = some ⟨b, 0, none⟩ := by
  have hl : l.length = m := by have := h.1; simpa using this
  obtain ⟨g, c', e', -⟩ := own_cell h 0 (.int .u8 (l[0]'(by omega))) (by simp [bv, hl, hm])
  cases e'
  exact ⟨g, rfl⟩
variable {K : Nat → Prop} {w : World} {bF cl bW : Nat} {cur out : List Int} {wb al : Value}
set_option maxRecDepth 100000 in
set_option maxHeartbeats 4000000 in
theorem startData_nopad (h : WS K w bF cl bW cur out wb al) (s : Int) (h0 : 0 < s) (h1 : s ≤ 2147483647) (ends : Bool) (ho : out.length ≤ 50000000) {dv : Value} {d : List Int} (hd : RdB w dv d) (hK : inK K dv) (hdl : d.length ≤ 100000) :
    Calls Tryz.prog 95 #[.pointer (some ⟨bF, 0, none⟩), .int .u32 s, .bool ends, dv, .slice none 0 0] w (Wrote K w bF cl bW (hdr0 0 (if ends then 1 else 0) s ++ d) out .nilIface) := by
  have hv := vs_yes h0 h1
  have o1 : bits .or .u8 0 1 = 1 := by decide
  have o8 : bits .or .u8 0 8 = 8 := by decide
  have o9 : bits .or .u8 1 8 = 9 := by decide
  obtain ⟨C, hC, hCl, hsw⟩ := startWrite_let h 0 (if ends then 1 else 0) s (by omega) (by omega)
  have HC := Lib.hid hC
  have hC9 : C.length ≤ 9 := by omega
  have hC0 : 9 ≤ C.length := by omega
  have SW := Lib.hid hsw
  have HD := Lib.hid hd
  obtain ⟨da, dc, rfl, -, -⟩ := id hd
  clear hC hCl hsw hd
  cases ends
  all_goals
    simp only [if_true, Bool.false_eq_true, if_false] at SW HC ⊢
    go_enter Tryz.func95, Tryz.ntmps95
    go_wp2_with (first
      | (go_at_call 97; refine (validStreamID_any s _ (by omega) (by omega)).mono ?_; rw [hv]; rintro e w' ⟨rfl, rfl⟩)
      | (go_at_call 99; ((with_reducible refine (SW.out _ _ _ h).mono ?_); rintro e w1 ⟨rfl, k1, wb1, al1, h1⟩; obtain ⟨a1, c1, rfl, hc1, hm1⟩ := own_shape h1.own; have f1 := blk_free h1.F 20; have e1 : w1.cell? ⟨bF, 20, none⟩ = some (.slice a1 C.length c1) := blk_cell h1.F 20))
      | (at_builtin; refine wpList_app E5 rfl _ _ rfl (.slice a1 C.length c1) C.length (bv C) rfl h1.own d.length (bv d) (src_of_rd (HD.out.kept k1 hK)) (by omega) (by unfold maxLen; omega) ?_; intro a3 c3 w3 own3 g3 t3; have F3 := blk_grown h1.F g3 h1.neF; have q3 : w3.cell? ⟨bF, 20, none⟩ = some (.slice a1 C.length c1) := blk_cell F3 20; have z3 := blk_free F3 20; clear F3; have P3 := Lib.hid (h1.put (cur' := C ++ d) g3 (by simpa [bv] using own3) t3); have hc3 : C.length + d.length ≤ c3 := (by obtain ⟨_, _, e, h, -⟩ := own_shape own3; simp at e; obtain ⟨rfl, rfl⟩ := e; exact h); obtain ⟨b3, rfl⟩ := own_some P3.out.1.own (by simp; omega); clear own3 g3 t3))
    all_goals (try simp only [Sem.run_pure, Result.andThen_ok])
    go_wp2
    go_ret
    have P4 := P3.out.1.put (w1 := w3.setCell ⟨bF, 20, none⟩ (.slice (some ⟨b3, 0, none⟩) (C.length + d.length) c3)) (cur' := C ++ d) (v' := .slice (some ⟨b3, 0, none⟩) (C.length + d.length) c3) ⟨rfl, rfl, rfl, Nat.le_refl _, fun _ _ _ => rfl⟩ P3.out.1.own (.inl rfl)
    exact ⟨rfl, k1.trans (P3.out.2.trans P4.2), _, _, by rw [← HC.out]; exact P4.1⟩
set_option maxRecDepth 100000 in
set_option maxHeartbeats 8000000 in
theorem startData_padded (h : WS K w bF cl bW cur out wb al) (s : Int) (h0 : 0 < s) (h1 : s ≤ 2147483647) (ends : Bool) (ho : out.length ≤ 50000000) {dv : Value} {d : List Int} (hd : RdB w dv d) (hK : inK K dv) (hdl : d.length ≤ 100000) {pa : Addr} {pc : Nat} {pad : List Int} (hp : RdB w (.slice (some pa) pad.length pc) pad) (hpK : inK K (.slice (some pa) pad.length pc)) (hpl : pad.length ≤ 255) (hpz : ∀ x ∈ pad, x = 0) :
    Calls Tryz.prog 95 #[.pointer (some ⟨bF, 0, none⟩), .int .u32 s, .bool ends, dv, .slice (some pa) pad.length pc] w (Wrote K w bF cl bW (hdr0 0 (if ends then 9 else 8) s ++ ((pad.length : Int) :: (d ++ pad))) out .nilIface) := by
  have hv := vs_yes h0 h1
  have o1 : bits .or .u8 0 1 = 1 := by decide
  have o8 : bits .or .u8 0 8 = 8 := by decide
  have o9 : bits .or .u8 1 8 = 9 := by decide
  obtain ⟨C, hC, hCl, hsw⟩ := startWrite_let h 0 (if ends then 9 else 8) s (by omega) (by omega)
  have HC := Lib.hid hC
  have hC9 : C.length ≤ 9 := by omega
  have hC0 : 9 ≤ C.length := by omega
  have SW := Lib.hid hsw
  have HD := Lib.hid hd
  obtain ⟨da, dc, rfl, -, -⟩ := id hd
  clear hC hCl hsw hd
  have hw8 := wrap_u8 (n := pad.length) (by omega) (by omega)
  have c21 : w.cell? ⟨bF, 21, none⟩ = some (.bool false) := blk_cell h.F 21
  have HP := Lib.hid hp
  have L2 := Lib.hid (show (C ++ [(pad.length : Int)]).length = C.length + 1 by rw [List.length_append]; rfl)
  have L3 := Lib.hid (show (C ++ [(pad.length : Int)] ++ d).length = C.length + 1 + d.length by rw [List.length_append, List.length_append]; rfl)
  have L4 := Lib.hid (show (C ++ [(pad.length : Int)] ++ d ++ pad).length = C.length + 1 + d.length + pad.length by rw [List.length_append, List.length_append, List.length_append]; rfl)
  have HZ := Lib.hid hpz
  clear hpz
  by_cases hz : pad.length = 0
  · have hn0 : ¬ (0 : Int) < pad.length := by omega
    clear hp hz
    cases ends
    all_goals
      simp only [if_true, Bool.false_eq_true, if_false] at SW HC ⊢
      go_enter Tryz.func95, Tryz.ntmps95
      go_wp2_with (first
        | (go_at_call 97; refine (validStreamID_any s _ (by omega) (by omega)).mono ?_; rw [hv]; rintro e w' ⟨rfl, rfl⟩)
        | (go_at_call 99; ((with_reducible refine (SW.out _ _ _ h).mono ?_); rintro e w1 ⟨rfl, k1, wb1, al1, h1⟩; obtain ⟨a1, c1, rfl, hc1, hm1⟩ := own_shape h1.own; have f1 := blk_free h1.F 20; have e1 : w1.cell? ⟨bF, 20, none⟩ = some (.slice a1 C.length c1) := blk_cell h1.F 20))
        | (at_builtin; refine wpList_app E5 rfl _ _ rfl (.slice a1 C.length c1) C.length (bv C) rfl (own_alloc h1.own _) 1 [.int .u8 pad.length] (src_of_block Tryz.underlying22 (blk_new w1 _) rfl (by simp [Value.oneCell'])) (by omega) (by unfold maxLen; omega) ?_; intro a2 c2 w2 own2 g2 t2; have F2 := blk_grown (blk_alloc h1.F) g2 h1.neF; have q2 : w2.cell? ⟨bF, 20, none⟩ = some (.slice a1 C.length c1) := blk_cell F2 20; have z2 := blk_free F2 20; clear F2; have P2 := Lib.hid ((h1.alloc _).put (cur' := C ++ [(pad.length : Int)]) g2 (by rw [L2.out, bv_append]; exact own2) t2); clear own2 g2 t2)
        | (at_builtin; refine wpList_app E5 rfl _ _ rfl (.slice a2 (C.length + 1) c2) (C.length + 1) (bv (C ++ [(pad.length : Int)])) rfl (by have h := P2.out.1.own; rw [L2.out] at h; exact h) d.length (bv d) (src_of_rd (HD.out.kept (k1.trans (((Kept.refl K w1).alloc _).trans P2.out.2)) hK)) (by omega) (by unfold maxLen; omega) ?_; intro a3 c3 w3 own3 g3 t3; have F3 := blk_grown P2.out.1.F g3 P2.out.1.neF; have q3 : w3.cell? ⟨bF, 20, none⟩ = some (.slice a2 (C.length + 1) c2) := blk_cell F3 20; have z3 := blk_free F3 20; clear F3; have P3 := Lib.hid (P2.out.1.put (cur' := C ++ [(pad.length : Int)] ++ d) g3 (by rw [L3.out, bv_append]; exact own3) t3); clear own3 g3 t3)
        | (at_builtin; refine wpList_app E5 rfl _ _ rfl (.slice a3 (C.length + 1 + d.length) c3) (C.length + 1 + d.length) (bv (C ++ [(pad.length : Int)] ++ d)) rfl (by have h := P3.out.1.own; rw [L3.out] at h; exact h) pad.length (bv pad) (src_of_rd (HP.out.kept (k1.trans ((((Kept.refl K w1).alloc _).trans P2.out.2).trans P3.out.2)) hpK)) (by omega) (by unfold maxLen; omega) ?_; intro a4 c4 w4 own4 g4 t4; have F4 := blk_grown P3.out.1.F g4 P3.out.1.neF; have q4 : w4.cell? ⟨bF, 20, none⟩ = some (.slice a3 (C.length + 1 + d.length) c3) := blk_cell F4 20; have z4 := blk_free F4 20; clear F4; have P4 := Lib.hid (P3.out.1.put (cur' := C ++ [(pad.length : Int)] ++ d ++ pad) g4 (by rw [L4.out, bv_append]; exact own4) t4); clear own4 g4 t4))
      go_ret
      exact ⟨rfl, k1.trans (((((Kept.refl K w1).alloc _).trans P2.out.2).trans P3.out.2).trans P4.out.2), _, _, by rw [← HC.out]; simpa using P4.out.1⟩
  · obtain ⟨b, o, c, e, hc1, hc2, hcell⟩ := rd_cell hp (by omega)
    cases e
    have HCL := Lib.hid hcell
    clear hp hcell
    cases ends
    all_goals
      simp only [if_true, Bool.false_eq_true, if_false] at SW HC ⊢
      go_enter Tryz.func95, Tryz.ntmps95
      go_wp2_with (go_at_call 97; refine (validStreamID_any s _ (by omega) (by omega)).mono ?_; rw [hv]; rintro e w' ⟨rfl, rfl⟩)
      go_loopw [39] (fun i wr => ∃ k : Nat, k ≤ pad.length ∧ i = .int .i64 k ∧ w = wr) (fun i _ => pad.length - (intOf i).toNat)
      case atStart => exact ⟨0, Nat.zero_le _, rfl, rfl⟩
      case round =>
        obtain ⟨k, hk, rfl, rfl⟩ := hrel
        by_cases hlt : k < pad.length
        · have hx := HCL.out k pad[k] (by simp [hlt])
          rw [HZ.out _ (List.getElem_mem hlt)] at hx
          go_wp2_with fail
          go_roundw
          case rel => exact ⟨k + 1, by omega, by go_num, trivial⟩
          case measure => simp [intOf]; omega
        · clear hk
          go_wp2_with (first
            | (go_at_call 99; ((with_reducible refine (SW.out _ _ _ h).mono ?_); rintro e w1 ⟨rfl, k1, wb1, al1, h1⟩; obtain ⟨a1, c1, rfl, hc1, hm1⟩ := own_shape h1.own; have f1 := blk_free h1.F 20; have e1 : w1.cell? ⟨bF, 20, none⟩ = some (.slice a1 C.length c1) := blk_cell h1.F 20))
            | (at_builtin; refine wpList_app E5 rfl _ _ rfl (.slice a1 C.length c1) C.length (bv C) rfl (own_alloc h1.own _) 1 [.int .u8 pad.length] (src_of_block Tryz.underlying22 (blk_new w1 _) rfl (by simp [Value.oneCell'])) (by omega) (by unfold maxLen; omega) ?_; intro a2 c2 w2 own2 g2 t2; have F2 := blk_grown (blk_alloc h1.F) g2 h1.neF; have q2 : w2.cell? ⟨bF, 20, none⟩ = some (.slice a1 C.length c1) := blk_cell F2 20; have z2 := blk_free F2 20; clear F2; have P2 := Lib.hid ((h1.alloc _).put (cur' := C ++ [(pad.length : Int)]) g2 (by rw [L2.out, bv_append]; exact own2) t2); clear own2 g2 t2)
            | (at_builtin; refine wpList_app E5 rfl _ _ rfl (.slice a2 (C.length + 1) c2) (C.length + 1) (bv (C ++ [(pad.length : Int)])) rfl (by have h := P2.out.1.own; rw [L2.out] at h; exact h) d.length (bv d) (src_of_rd (HD.out.kept (k1.trans (((Kept.refl K w1).alloc _).trans P2.out.2)) hK)) (by omega) (by unfold maxLen; omega) ?_; intro a3 c3 w3 own3 g3 t3; have F3 := blk_grown P2.out.1.F g3 P2.out.1.neF; have q3 : w3.cell? ⟨bF, 20, none⟩ = some (.slice a2 (C.length + 1) c2) := blk_cell F3 20; have z3 := blk_free F3 20; clear F3; have P3 := Lib.hid (P2.out.1.put (cur' := C ++ [(pad.length : Int)] ++ d) g3 (by rw [L3.out, bv_append]; exact own3) t3); clear own3 g3 t3)
            | (at_builtin; refine wpList_app E5 rfl _ _ rfl (.slice a3 (C.length + 1 + d.length) c3) (C.length + 1 + d.length) (bv (C ++ [(pad.length : Int)] ++ d)) rfl (by have h := P3.out.1.own; rw [L3.out] at h; exact h) pad.length (bv pad) (src_of_rd (HP.out.kept (k1.trans ((((Kept.refl K w1).alloc _).trans P2.out.2).trans P3.out.2)) hpK)) (by omega) (by unfold maxLen; omega) ?_; intro a4 c4 w4 own4 g4 t4; have F4 := blk_grown P3.out.1.F g4 P3.out.1.neF; have q4 : w4.cell? ⟨bF, 20, none⟩ = some (.slice a3 (C.length + 1 + d.length) c3) := blk_cell F4 20; have z4 := blk_free F4 20; clear F4; have P4 := Lib.hid (P3.out.1.put (cur' := C ++ [(pad.length : Int)] ++ d ++ pad) g4 (by rw [L4.out, bv_append]; exact own4) t4); clear own4 g4 t4))
          go_ret
          exact ⟨rfl, k1.trans (((((Kept.refl K w1).alloc _).trans P2.out.2).trans P3.out.2).trans P4.out.2), _, _, by rw [← HC.out]; simpa using P4.out.1⟩
end Go.Proofs.YtfdlbjibninakaaGreatDoor

namespace Go.Proofs.YtfdlbjibninakaaGreatDoor
open Go.RowKit
variable {K : Nat → Prop} {w : World} {bF cl bW : Nat} {cur out : List Int} {wb al : Value}
set_option maxRecDepth 10000 in
set_option maxHeartbeats 2000000 in
theorem wDataP {s fl : Int} {ends : Bool} {dv pv : Value} {pay : List Int} (hst : Calls Tryz.prog 95 #[.pointer (some ⟨bF, 0, none⟩), .int .u32 s, .bool ends, dv, pv] w (Wrote K w bF cl bW (hdr0 0 fl s ++ pay) out .nilIface)) (hl : pay.length ≤ 200000) (ho : out.length ≤ 50000000) :
    Calls Tryz.prog 64 #[.pointer (some ⟨bF, 0, none⟩), .int .u32 s, .bool ends, dv, pv] w (Sent K w bF cl bW (out ++ frB 0 fl s pay)) := by
  obtain ⟨C, hC⟩ : ∃ C, hdr0 0 fl s ++ pay = C := ⟨_, rfl⟩
  have hCl : C.length = 9 + pay.length := by rw [← hC, List.length_append]; rfl
  rw [hC] at hst
  have HC := Lib.hid hC
  have HL := Lib.hid hCl
  have HST := Lib.hid hst
  clear hC hCl hst
  go_enter Tryz.func64, Tryz.ntmps64
  go_wp2_with (first
    | (go_at_call 95; refine HST.out.mono ?_; rintro e w1 ⟨rfl, k1, wb1, al1, h1⟩)
    | (go_at_call 96; refine (endWrite_any h1 (by have := HL.out; omega) (by have := HL.out; omega) (by omega)).mono ?_; rintro e w3 ⟨rfl, k3, wb3, al3, h3⟩))
  go_ret
  exact Sent.fin 0 fl s pay (k1.trans k3) h3 HC.out.symm (by omega)
set_option maxRecDepth 10000 in
set_option maxHeartbeats 2000000 in
theorem wData {s fl : Int} {ends : Bool} {dv : Value} {pay : List Int} (hst : Calls Tryz.prog 95 #[.pointer (some ⟨bF, 0, none⟩), .int .u32 s, .bool ends, dv, .slice none 0 0] w (Wrote K w bF cl bW (hdr0 0 fl s ++ pay) out .nilIface)) (hl : pay.length ≤ 200000) (ho : out.length ≤ 50000000) :
    Calls Tryz.prog 65 #[.pointer (some ⟨bF, 0, none⟩), .int .u32 s, .bool ends, dv] w (Sent K w bF cl bW (out ++ frB 0 fl s pay)) := by
  have hp := wDataP hst hl ho
  have HP := Lib.hid hp
  clear hp hst
  go_enter Tryz.func65, Tryz.ntmps65
  go_wp2_with (go_at_call 64; refine HP.out.mono ?_; rintro e w1 ⟨rfl, k1, h1⟩)
  go_ret
  exact ⟨rfl, k1, h1⟩
end Go.Proofs.YtfdlbjibninakaaGreatDoor
