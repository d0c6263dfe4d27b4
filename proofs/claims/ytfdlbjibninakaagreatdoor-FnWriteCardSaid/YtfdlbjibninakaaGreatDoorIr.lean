/- impl.Read: all frames of some data, as the plain model reads them. -/
import Derived.Test.YtfdlbjibninakaaGreatDoorIr0
import Derived.Deep.LoopGhost
set_option linter.unusedVariables false
set_option linter.unusedSimpArgs false
namespace Go.Proofs.YtfdlbjibninakaaGreatDoor
open Go.RowKit
/-- The framer's greatest length. -/
def mxOf (mx : Int) : Int := if 0 < mx then mx else 16777215
theorem mxOf_pos {mx : Int} (h : 0 < mx) : mxOf mx = mx := if_pos h
theorem mxOf_neg {mx : Int} (h : ¬ 0 < mx) : mxOf mx = 16777215 := if_neg h
theorem rsX_cell0 (r : Rs) (dv sv : Value) : (rsX r dv sv)[0]? = some (.int .i64 r.f) := rfl
set_option maxRecDepth 10000 in
set_option maxHeartbeats 16000000 in
theorem implRead_max {B : Nat} {aE aU aT : Addr} {w : World} {L ps : List Int} {data pcs : Value} (hV : GV B w aE aU aT) (hB : B ≤ w.heap.size) (hd : RdB w data L) (hp : RdI .i64 w pcs ps) (bs : Bs L) (lim : L.length ≤ 100000000) (mx : Int) (mx0 : 0 ≤ mx) (mx1 : mx ≤ 16777215) (hmx : 0 < mx) :
    Calls Tryz.prog 10 #[data, pcs, .int .i64 mx, .bool false] w (ResEnd 65 w (readAll (mxOf mx) 0 L)) := by
  obtain ⟨m, hm⟩ : ∃ m, mxOf mx = m := ⟨_, rfl⟩
  rw [hm]
  have hd' := hd
  have hp' := hp
  obtain ⟨da, dc, rfl, -, -, -⟩ := hd'
  obtain ⟨pa, pc, rfl, -, -, -⟩ := hp'
  have HD := Lib.hid hd
  have HP := Lib.hid hp
  have HM := Lib.hid hm
  clear hd hp hm
  go_enter Tryz.func10, Tryz.ntmps10
  go_wp2_with (first
    | (go_at_call 26; refine (newFramer_o _ (w.heap.size + 1) _ (by simp)).mono ?_; rintro e W ⟨rfl, hF, hC, hW⟩; have hR := (Kept.ofBelow hW).at (Nat.lt_succ_self _) (blk_new w _); have c22 : W.cell? ⟨w.heap.size + 1, 22, none⟩ = some (.bool false) := (blk_cell hF 22).trans rfl; have f22 := blk_free hF 22; have hF2 := blk_set hF 22 (.bool false))
    | (go_at_call 27; refine (setMax_any _ 16777215 mx _ mx0 mx1 ((blk_cell hF2 6).trans rfl) (blk_free hF2 6)).mono ?_; rintro e w' ⟨rfl, rfl⟩))
  have HI : Hid (IrHead w aE aU aT m L ps (.slice pa ps.length pc) L.length (.slice none 0 0) ((W.setCell ⟨w.heap.size + 1, 22, none⟩ (.bool false)).setCell ⟨w.heap.size + 1, 6, none⟩ (.int .u32 mx))) := by
    have hk : Kept (· < w.heap.size) w W := ((Kept.refl _ w).alloc _).trans ((Kept.ofBelow hW).mono fun k h _ => by omega)
    have hkk : Kept (· < w.heap.size) w ((W.setCell ⟨w.heap.size + 1, 22, none⟩ (.bool false)).setCell ⟨w.heap.size + 1, 6, none⟩ (.int .u32 mx)) := (hk.setCell (fun _ => Nat.le_succ _) _).setCell (fun _ => Nat.le_succ _) _
    have hm' : m = mx := by rw [← HM.out]; exact mxOf_pos hmx
    refine Lib.hid ⟨(· < w.heap.size), 0, L, _, _, _, _, 0, [], [], rfl, RSt.new hV hB HD.out HP.out bs (by omega) hkk (blk_set_other (blk_set_other hR (by simp) _) (by simp) _) (blk_to (blk_set hF2 6 _) (by rw [hm']; rfl)) (blk_set_other (blk_set_other hC (by simp) _) (by simp) _) (by omega) (by omega), World.ownsRow_nil _ _ _ _, .nil, fun j h => by (cases h), hkk.below (Nat.le_refl _), rfl, by simp⟩
  clear hF hC hR hW hF2 c22 f22
  go_loopg [10] L.length (fun k out wr => IrHead w aE aU aT m L ps (.slice pa ps.length pc) k out wr)
  case atStart => exact HI.out
  case round =>
    obtain ⟨K, o, L1, cs, lf, rb, rest, at1, rs, xs, hgk, hS, hr, ha, hoK, hbel, hall, hlen⟩ := hrel
    clear HI
    have HG := Lib.hid hgk
    have HALL := Lib.hid hall
    obtain ⟨oa, oc, rfl, hoc, hom⟩ := own_shape hr
    clear hgk hall
    have hfr := frame_any hS
    obtain ⟨z, hz⟩ : ∃ z, one m o L1 = z := ⟨_, rfl⟩
    rw [hz] at hfr
    have HZ := Lib.hid hz
    clear hz
    have HOK := Lib.hid hoK
    clear hoK
    go_wp2_with (go_at_call 28; refine hfr.mono ?_; rintro e w1 ⟨fv, ev, rfl, hk1, hgo, hres⟩)
    clear hfr
    have HGO := Lib.hid hgo
    clear hgo
    have hV1 := hS.V.kept hk1 hS.gl
    obtain ⟨fr0, hfr0⟩ : ∃ fr, rsX (.bad 0 0 0) (.slice none 0 0) (.slice none 0 0) = fr := ⟨_, rfl⟩
    rcases hres with ⟨x, A, hzx, rfl, hfv, hxb⟩ | ⟨f, c, s, hzb, hf0, hfs, rfl, rfl⟩
    · have HZX := Lib.hid hzx
      clear hzx
      have hsz0 : fr0.size = 17 := by rw [← hfr0]; rfl
      have hi0 : (Tryz.prog.info? 65).map (·.size) = some fr0.size := by rw [hsz0]; exact infoRi
      have h10 : ∀ u ∈ fr0.toList, u.oneCell' = true := by rw [← hfr0]; exact rsX_one _ _ _ _ _ _ _
      have hs3 : ∀ dv sv, 3 + (frX x dv sv).size ≤ fr0.size := fun _ _ => by rw [hsz0]; exact Nat.le_refl _
      have hjn : ∀ dv sv, (fr0.toList.take 3 ++ (frX x dv sv).toList ++ fr0.toList.drop (3 + (frX x dv sv).size)).toArray = rsX (.ok x) dv sv := fun dv sv => by rw [← hfr0]; exact rs_join x dv sv
      have hfa : Calls Tryz.prog 29 #[.nilIface] w1 fun e w' => e = .returned (.agg fr0) ∧ Below w1.heap.size w1 w' := by rw [← hfr0]; exact fault_nil w1
      have HJ := Lib.hid hjn
      clear hfr0 hjn
      refine hfa.mono ?_
      rintro e w2 ⟨rfl, b2⟩
      clear hfa
      go_wp2_with (first
        | (refine wpList_store_blk rfl _ _ _ rfl w2.heap.size rfl fr0 _ rfl 65 (blk_new _ _) hsz0 hi0 h10 ?_; intro w3 hb3 k3; have B13 := Below.step b2 (below_new k3))
        | (go_at_call 30; refine (plain_any (hfv.below B13) hxb).mono ?_; rintro e w4 ⟨dv, sv, rfl, b4, hd4, fd4, hs4, fs4⟩; obtain ⟨qa, qc, rfl, -, -, -⟩ := id hd4; obtain ⟨sa, sc, rfl, -, -, -⟩ := id hs4; have hb4 := blk_below hb3 b4)
        | (refine wpList_store_at rfl 63 _ _ rfl w2.heap.size 3 rfl (frX x (.slice qa x.data.length qc) (.slice sa x.set.length sc)) fr0 rfl 65 hb4 (hs3 _ _) infoFi (frX_one _ _ _ _ _ _ _) ?_; intro w5 hb5 k5; rw [HJ.out] at hb5; obtain ⟨fr1, hfr1, hsz1, hi1, h11, hf1⟩ : ∃ fr : Array Value, rsX (.ok x) (.slice qa x.data.length qc) (.slice sa x.set.length sc) = fr ∧ fr.size = 17 ∧ (Tryz.prog.info? 65).map (·.size) = some fr.size ∧ (∀ u ∈ fr.toList, u.oneCell' = true) ∧ fr[0]? = some (.int .i64 0) := ⟨_, rfl, rfl, infoRi, rsX_one _ _ _ _ _ _ _, rfl⟩; rw [hfr1] at hb5; have HF1 := Lib.hid hfr1; clear hfr1; have B15 : Below w1.heap.size w1 w5 := Kept.below ((Kept.ofBelow (Below.step B13 b4)).trans (k5.mono fun k h _ => Nat.ne_of_lt (Nat.lt_of_lt_of_le h b2.size))) (Nat.le_refl _); have hr5 := own_below (own_kept hr hk1 fun g hg => (HOK.out g hg).1) B15; have ne5 : (Value.slice oa rs.length oc).ownBlock ≠ some w2.heap.size := fun e => absurd (own_lt hr _ e) (Nat.not_lt.2 (Nat.le_trans hk1.size b2.size)))
        | (refine wpList_load_blk rfl _ _ rfl w2.heap.size rfl fr1 65 hb5 Tryz.underlying65 hi1 ?_)
        | (at_builtin; rw [fold17 hsz1 _ rfl]; refine wpList_app ERi rfl _ _ rfl (.slice oa rs.length oc) rs.length xs rfl (own_alloc hr5 _) 1 fr1.toList (src_of_block Tryz.underlying34 (blk_new w5 _) (by rw [hsz1]) h11) (by omega) (by unfold maxLen; omega) ?_; intro a' c' w7 hown hgrow hat; have hb7 := blk_grown (blk_alloc hb5) hgrow ne5; have c07 : w7.cell? ⟨w2.heap.size, 0, none⟩ = some (.int .i64 0) := (blk_cell hb7 0).trans hf1))
      have hg : (one m o L1).1.going = true := by rw [HZ.out, HZX.out]; rfl
      have l3 := lt_of_block hb3
      have hd5 := hd4.kept k5 (fd4.mono' fun k h => by omega)
      have hs5 := hs4.kept k5 (fs4.mono' fun k h => by omega)
      have st := ir_step (r := .ok x) hS.lt hS.gl hk1 B15 ha HOK.out hbel hgrow (by rw [HF1.out]; exact hown) hat hd5 (fd4.mono' fun k h => by have := B13.size; omega) hs5 (fs4.mono' fun k h => by have := B13.size; omega)
      obtain ⟨cs2, lf2, rb2, rest2, at2, hS2⟩ := HGO.out (by rw [HZX.out]; rfl)
      have hless := one_less hg
      rw [HZ.out] at hless
      have ST := Lib.hid st
      have HS2 := Lib.hid hS2
      have HL := Lib.hid hless
      have HGG := Lib.hid hg
      clear st hS2 hless hg hd5 hs5
      go_roundg z.2.2.length
      case measure => rw [HG.out]; exact HL.out
      case rel => exact ir_next HS2.out ST.out (readAll_snoc HALL.out HZ.out HZX.out rfl) (by rw [List.length_append]; have := HL.out; simp only [List.length_singleton]; omega)
    · have HZX := Lib.hid hzb
      clear hzb
      obtain ⟨T, v, hev⟩ := errV_if hfs hf0 aE aU aT
      obtain ⟨fr1, hfr1, hsz1, hi1, h11, hf1⟩ : ∃ fr : Array Value, rsX (.bad f c s) (.slice none 0 0) (.slice none 0 0) = fr ∧ fr.size = 17 ∧ (Tryz.prog.info? 65).map (·.size) = some fr.size ∧ (∀ u ∈ fr.toList, u.oneCell' = true) ∧ fr[0]? = some (.int .i64 f) := ⟨_, rfl, rfl, infoRi, rsX_one _ _ _ _ _ _ _, rfl⟩
      have hfa : Calls Tryz.prog 29 #[.iface T v] w1 fun e w' => e = .returned (.agg fr1) ∧ Below w1.heap.size w1 w' := by rw [← hfr1, ← hev]; exact fault_any hV1 f c s hfs
      rw [hev]
      have HF1 := Lib.hid hfr1
      have HEV := Lib.hid hev
      clear hfr1 hfr0 hev
      refine hfa.mono ?_
      rintro e w2 ⟨rfl, b2⟩
      clear hfa
      have hb0 : (f == 0) = false := beq_false_of_ne hf0
      by_cases hf5 : f = 5
      · subst hf5
        go_wp2_with (first
          | (refine wpList_store_blk rfl _ _ _ rfl w2.heap.size rfl fr1 _ rfl 65 (blk_new _ _) hsz1 hi1 h11 ?_; intro w5 hb5 k3; have B15 := Below.step b2 (below_new k3); have hr5 := own_below (own_kept hr hk1 fun g hg => (HOK.out g hg).1) B15; have ne5 : (Value.slice oa rs.length oc).ownBlock ≠ some w2.heap.size := fun e => absurd (own_lt hr _ e) (Nat.not_lt.2 (Nat.le_trans hk1.size b2.size)))
          | (refine wpList_load_blk rfl _ _ rfl w2.heap.size rfl fr1 65 hb5 Tryz.underlying65 hi1 ?_)
          | (at_builtin; rw [fold17 hsz1 _ rfl]; refine wpList_app ERi rfl _ _ rfl (.slice oa rs.length oc) rs.length xs rfl (own_alloc hr5 _) 1 fr1.toList (src_of_block Tryz.underlying34 (blk_new w5 _) (by rw [hsz1]) h11) (by omega) (by unfold maxLen; omega) ?_; intro a' c' w7 hown hgrow hat; have hb7 := blk_grown (blk_alloc hb5) hgrow ne5; have c07 : w7.cell? ⟨w2.heap.size, 0, none⟩ = some (.int .i64 5) := (blk_cell hb7 0).trans hf1))
        have hg : (one m o L1).1.going = true := by rw [HZ.out, HZX.out]; rfl
        have st := ir_step (r := .bad 5 c s) hS.lt hS.gl hk1 B15 ha HOK.out hbel hgrow (by rw [HF1.out]; exact hown) hat (rdB_nil _) (inK_nil _) (RdP.nil _) (inK_nil _)
        obtain ⟨cs2, lf2, rb2, rest2, at2, hS2⟩ := HGO.out (by rw [HZX.out]; rfl)
        have hless := one_less hg
        rw [HZ.out] at hless
        have ST := Lib.hid st
        have HS2 := Lib.hid hS2
        have HL := Lib.hid hless
        have HGG := Lib.hid hg
        clear st hS2 hless hg
        go_roundg z.2.2.length
        case measure => rw [HG.out]; exact HL.out
        case rel => exact ir_next HS2.out ST.out (readAll_snoc HALL.out HZ.out HZX.out rfl) (by rw [List.length_append]; have := HL.out; simp only [List.length_singleton]; omega)
      · have hb5' : (f == 5) = false := beq_false_of_ne hf5
        have hn5 : (f != 5) = true := by simpa using hf5
        have hn0 : (f != 0) = true := by simpa using hf0
        have HF5 := Lib.hid hf5
        have HF0 := Lib.hid hf0
        clear hf5 hf0
        go_wp2_with (first
          | (refine wpList_store_blk rfl _ _ _ rfl w2.heap.size rfl fr1 _ rfl 65 (blk_new _ _) hsz1 hi1 h11 ?_; intro w5 hb5 k3; have B15 := Below.step b2 (below_new k3); have hr5 := own_below (own_kept hr hk1 fun g hg => (HOK.out g hg).1) B15; have ne5 : (Value.slice oa rs.length oc).ownBlock ≠ some w2.heap.size := fun e => absurd (own_lt hr _ e) (Nat.not_lt.2 (Nat.le_trans hk1.size b2.size)))
          | (refine wpList_load_blk rfl _ _ rfl w2.heap.size rfl fr1 65 hb5 Tryz.underlying65 hi1 ?_)
          | (at_builtin; rw [fold17 hsz1 _ rfl]; refine wpList_app ERi rfl _ _ rfl (.slice oa rs.length oc) rs.length xs rfl (own_alloc hr5 _) 1 fr1.toList (src_of_block Tryz.underlying34 (blk_new w5 _) (by rw [hsz1]) h11) (by omega) (by unfold maxLen; omega) ?_; intro a' c' w7 hown hgrow hat; have hb7 := blk_grown (blk_alloc hb5) hgrow ne5; have c07 : w7.cell? ⟨w2.heap.size, 0, none⟩ = some (.int .i64 f) := (blk_cell hb7 0).trans hf1))
        have hg : (one m o L1).1.going = false := by rw [HZ.out, HZX.out]; exact stop_going HF0.out HF5.out
        have st := ir_step (r := .bad f c s) hS.lt hS.gl hk1 B15 ha HOK.out hbel hgrow (by rw [HF1.out]; exact hown) hat (rdB_nil _) (inK_nil _) (RdP.nil _) (inK_nil _)
        go_ret
        rw [HALL.out, readAll_stop hg, HZ.out, HZX.out]
        exact ⟨_, rfl, st.2.2.2.1, ⟨_, st.1, st.2.1.mono fun _ _ => trivial⟩, fun g hg => (st.2.2.1 g hg).2⟩
set_option maxRecDepth 10000 in
set_option maxHeartbeats 16000000 in
theorem implRead_any0 {B : Nat} {aE aU aT : Addr} {w : World} {L ps : List Int} {data pcs : Value} (hV : GV B w aE aU aT) (hB : B ≤ w.heap.size) (hd : RdB w data L) (hp : RdI .i64 w pcs ps) (bs : Bs L) (lim : L.length ≤ 100000000) (mx : Int) (hmx : ¬ 0 < mx) :
    Calls Tryz.prog 10 #[data, pcs, .int .i64 mx, .bool false] w (ResEnd 65 w (readAll (mxOf mx) 0 L)) := by
  obtain ⟨m, hm⟩ : ∃ m, mxOf mx = m := ⟨_, rfl⟩
  rw [hm]
  have hd' := hd
  have hp' := hp
  obtain ⟨da, dc, rfl, -, -, -⟩ := hd'
  obtain ⟨pa, pc, rfl, -, -, -⟩ := hp'
  have HD := Lib.hid hd
  have HP := Lib.hid hp
  have HM := Lib.hid hm
  clear hd hp hm
  go_enter Tryz.func10, Tryz.ntmps10
  go_wp2_with (first
    | (go_at_call 26; refine (newFramer_o _ (w.heap.size + 1) _ (by simp)).mono ?_; rintro e W ⟨rfl, hF, hC, hW⟩; have hR := (Kept.ofBelow hW).at (Nat.lt_succ_self _) (blk_new w _); have c22 : W.cell? ⟨w.heap.size + 1, 22, none⟩ = some (.bool false) := (blk_cell hF 22).trans rfl; have f22 := blk_free hF 22; have hF2 := blk_set hF 22 (.bool false))
    | (go_at_call 27; refine (setMax_any _ 16777215 mx _ mx0 mx1 ((blk_cell hF2 6).trans rfl) (blk_free hF2 6)).mono ?_; rintro e w' ⟨rfl, rfl⟩))
  have HI : Hid (IrHead w aE aU aT m L ps (.slice pa ps.length pc) L.length (.slice none 0 0) (W.setCell ⟨w.heap.size + 1, 22, none⟩ (.bool false))) := by
    have hk : Kept (· < w.heap.size) w W := ((Kept.refl _ w).alloc _).trans ((Kept.ofBelow hW).mono fun k h _ => by omega)
    have hkk : Kept (· < w.heap.size) w (W.setCell ⟨w.heap.size + 1, 22, none⟩ (.bool false)) := hk.setCell (fun _ => Nat.le_succ _) _
    have hm' : m = 16777215 := by rw [← HM.out]; exact mxOf_neg (by omega)
    refine Lib.hid ⟨(· < w.heap.size), 0, L, _, _, _, _, 0, [], [], rfl, RSt.new hV hB HD.out HP.out bs (by omega) hkk (blk_set_other hR (by simp) _) (blk_to hF2 (by rw [hm']; rfl)) (blk_set_other hC (by simp) _) (by omega) (by omega), World.ownsRow_nil _ _ _ _, .nil, fun j h => by (cases h), hkk.below (Nat.le_refl _), rfl, by simp⟩
  clear hF hC hR hW hF2 c22 f22
  go_loopg [10] L.length (fun k out wr => IrHead w aE aU aT m L ps (.slice pa ps.length pc) k out wr)
  case atStart => exact HI.out
  case round =>
    obtain ⟨K, o, L1, cs, lf, rb, rest, at1, rs, xs, hgk, hS, hr, ha, hoK, hbel, hall, hlen⟩ := hrel
    clear HI
    have HG := Lib.hid hgk
    have HALL := Lib.hid hall
    obtain ⟨oa, oc, rfl, hoc, hom⟩ := own_shape hr
    clear hgk hall
    have hfr := frame_any hS
    obtain ⟨z, hz⟩ : ∃ z, one m o L1 = z := ⟨_, rfl⟩
    rw [hz] at hfr
    have HZ := Lib.hid hz
    clear hz
    have HOK := Lib.hid hoK
    clear hoK
    go_wp2_with (go_at_call 28; refine hfr.mono ?_; rintro e w1 ⟨fv, ev, rfl, hk1, hgo, hres⟩)
    clear hfr
    have HGO := Lib.hid hgo
    clear hgo
    have hV1 := hS.V.kept hk1 hS.gl
    obtain ⟨fr0, hfr0⟩ : ∃ fr, rsX (.bad 0 0 0) (.slice none 0 0) (.slice none 0 0) = fr := ⟨_, rfl⟩
    rcases hres with ⟨x, A, hzx, rfl, hfv, hxb⟩ | ⟨f, c, s, hzb, hf0, hfs, rfl, rfl⟩
    · have HZX := Lib.hid hzx
      clear hzx
      have hsz0 : fr0.size = 17 := by rw [← hfr0]; rfl
      have hi0 : (Tryz.prog.info? 65).map (·.size) = some fr0.size := by rw [hsz0]; exact infoRi
      have h10 : ∀ u ∈ fr0.toList, u.oneCell' = true := by rw [← hfr0]; exact rsX_one _ _ _ _ _ _ _
      have hs3 : ∀ dv sv, 3 + (frX x dv sv).size ≤ fr0.size := fun _ _ => by rw [hsz0]; exact Nat.le_refl _
      have hjn : ∀ dv sv, (fr0.toList.take 3 ++ (frX x dv sv).toList ++ fr0.toList.drop (3 + (frX x dv sv).size)).toArray = rsX (.ok x) dv sv := fun dv sv => by rw [← hfr0]; exact rs_join x dv sv
      have hfa : Calls Tryz.prog 29 #[.nilIface] w1 fun e w' => e = .returned (.agg fr0) ∧ Below w1.heap.size w1 w' := by rw [← hfr0]; exact fault_nil w1
      have HJ := Lib.hid hjn
      clear hfr0 hjn
      refine hfa.mono ?_
      rintro e w2 ⟨rfl, b2⟩
      clear hfa
      go_wp2_with (first
        | (refine wpList_store_blk rfl _ _ _ rfl w2.heap.size rfl fr0 _ rfl 65 (blk_new _ _) hsz0 hi0 h10 ?_; intro w3 hb3 k3; have B13 := Below.step b2 (below_new k3))
        | (go_at_call 30; refine (plain_any (hfv.below B13) hxb).mono ?_; rintro e w4 ⟨dv, sv, rfl, b4, hd4, fd4, hs4, fs4⟩; obtain ⟨qa, qc, rfl, -, -, -⟩ := id hd4; obtain ⟨sa, sc, rfl, -, -, -⟩ := id hs4; have hb4 := blk_below hb3 b4)
        | (refine wpList_store_at rfl 63 _ _ rfl w2.heap.size 3 rfl (frX x (.slice qa x.data.length qc) (.slice sa x.set.length sc)) fr0 rfl 65 hb4 (hs3 _ _) infoFi (frX_one _ _ _ _ _ _ _) ?_; intro w5 hb5 k5; rw [HJ.out] at hb5; obtain ⟨fr1, hfr1, hsz1, hi1, h11, hf1⟩ : ∃ fr : Array Value, rsX (.ok x) (.slice qa x.data.length qc) (.slice sa x.set.length sc) = fr ∧ fr.size = 17 ∧ (Tryz.prog.info? 65).map (·.size) = some fr.size ∧ (∀ u ∈ fr.toList, u.oneCell' = true) ∧ fr[0]? = some (.int .i64 0) := ⟨_, rfl, rfl, infoRi, rsX_one _ _ _ _ _ _ _, rfl⟩; rw [hfr1] at hb5; have HF1 := Lib.hid hfr1; clear hfr1; have B15 : Below w1.heap.size w1 w5 := Kept.below ((Kept.ofBelow (Below.step B13 b4)).trans (k5.mono fun k h _ => Nat.ne_of_lt (Nat.lt_of_lt_of_le h b2.size))) (Nat.le_refl _); have hr5 := own_below (own_kept hr hk1 fun g hg => (HOK.out g hg).1) B15; have ne5 : (Value.slice oa rs.length oc).ownBlock ≠ some w2.heap.size := fun e => absurd (own_lt hr _ e) (Nat.not_lt.2 (Nat.le_trans hk1.size b2.size)))
        | (refine wpList_load_blk rfl _ _ rfl w2.heap.size rfl fr1 65 hb5 Tryz.underlying65 hi1 ?_)
        | (at_builtin; rw [fold17 hsz1 _ rfl]; refine wpList_app ERi rfl _ _ rfl (.slice oa rs.length oc) rs.length xs rfl (own_alloc hr5 _) 1 fr1.toList (src_of_block Tryz.underlying34 (blk_new w5 _) (by rw [hsz1]) h11) (by omega) (by unfold maxLen; omega) ?_; intro a' c' w7 hown hgrow hat; have hb7 := blk_grown (blk_alloc hb5) hgrow ne5; have c07 : w7.cell? ⟨w2.heap.size, 0, none⟩ = some (.int .i64 0) := (blk_cell hb7 0).trans hf1))
      have hg : (one m o L1).1.going = true := by rw [HZ.out, HZX.out]; rfl
      have l3 := lt_of_block hb3
      have hd5 := hd4.kept k5 (fd4.mono' fun k h => by omega)
      have hs5 := hs4.kept k5 (fs4.mono' fun k h => by omega)
      have st := ir_step (r := .ok x) hS.lt hS.gl hk1 B15 ha HOK.out hbel hgrow (by rw [HF1.out]; exact hown) hat hd5 (fd4.mono' fun k h => by have := B13.size; omega) hs5 (fs4.mono' fun k h => by have := B13.size; omega)
      obtain ⟨cs2, lf2, rb2, rest2, at2, hS2⟩ := HGO.out (by rw [HZX.out]; rfl)
      have hless := one_less hg
      rw [HZ.out] at hless
      have ST := Lib.hid st
      have HS2 := Lib.hid hS2
      have HL := Lib.hid hless
      have HGG := Lib.hid hg
      clear st hS2 hless hg hd5 hs5
      go_roundg z.2.2.length
      case measure => rw [HG.out]; exact HL.out
      case rel => exact ir_next HS2.out ST.out (readAll_snoc HALL.out HZ.out HZX.out rfl) (by rw [List.length_append]; have := HL.out; simp only [List.length_singleton]; omega)
    · have HZX := Lib.hid hzb
      clear hzb
      obtain ⟨T, v, hev⟩ := errV_if hfs hf0 aE aU aT
      obtain ⟨fr1, hfr1, hsz1, hi1, h11, hf1⟩ : ∃ fr : Array Value, rsX (.bad f c s) (.slice none 0 0) (.slice none 0 0) = fr ∧ fr.size = 17 ∧ (Tryz.prog.info? 65).map (·.size) = some fr.size ∧ (∀ u ∈ fr.toList, u.oneCell' = true) ∧ fr[0]? = some (.int .i64 f) := ⟨_, rfl, rfl, infoRi, rsX_one _ _ _ _ _ _ _, rfl⟩
      have hfa : Calls Tryz.prog 29 #[.iface T v] w1 fun e w' => e = .returned (.agg fr1) ∧ Below w1.heap.size w1 w' := by rw [← hfr1, ← hev]; exact fault_any hV1 f c s hfs
      rw [hev]
      have HF1 := Lib.hid hfr1
      have HEV := Lib.hid hev
      clear hfr1 hfr0 hev
      refine hfa.mono ?_
      rintro e w2 ⟨rfl, b2⟩
      clear hfa
      have hb0 : (f == 0) = false := beq_false_of_ne hf0
      by_cases hf5 : f = 5
      · subst hf5
        go_wp2_with (first
          | (refine wpList_store_blk rfl _ _ _ rfl w2.heap.size rfl fr1 _ rfl 65 (blk_new _ _) hsz1 hi1 h11 ?_; intro w5 hb5 k3; have B15 := Below.step b2 (below_new k3); have hr5 := own_below (own_kept hr hk1 fun g hg => (HOK.out g hg).1) B15; have ne5 : (Value.slice oa rs.length oc).ownBlock ≠ some w2.heap.size := fun e => absurd (own_lt hr _ e) (Nat.not_lt.2 (Nat.le_trans hk1.size b2.size)))
          | (refine wpList_load_blk rfl _ _ rfl w2.heap.size rfl fr1 65 hb5 Tryz.underlying65 hi1 ?_)
          | (at_builtin; rw [fold17 hsz1 _ rfl]; refine wpList_app ERi rfl _ _ rfl (.slice oa rs.length oc) rs.length xs rfl (own_alloc hr5 _) 1 fr1.toList (src_of_block Tryz.underlying34 (blk_new w5 _) (by rw [hsz1]) h11) (by omega) (by unfold maxLen; omega) ?_; intro a' c' w7 hown hgrow hat; have hb7 := blk_grown (blk_alloc hb5) hgrow ne5; have c07 : w7.cell? ⟨w2.heap.size, 0, none⟩ = some (.int .i64 5) := (blk_cell hb7 0).trans hf1))
        have hg : (one m o L1).1.going = true := by rw [HZ.out, HZX.out]; rfl
        have st := ir_step (r := .bad 5 c s) hS.lt hS.gl hk1 B15 ha HOK.out hbel hgrow (by rw [HF1.out]; exact hown) hat (rdB_nil _) (inK_nil _) (RdP.nil _) (inK_nil _)
        obtain ⟨cs2, lf2, rb2, rest2, at2, hS2⟩ := HGO.out (by rw [HZX.out]; rfl)
        have hless := one_less hg
        rw [HZ.out] at hless
        have ST := Lib.hid st
        have HS2 := Lib.hid hS2
        have HL := Lib.hid hless
        have HGG := Lib.hid hg
        clear st hS2 hless hg
        go_roundg z.2.2.length
        case measure => rw [HG.out]; exact HL.out
        case rel => exact ir_next HS2.out ST.out (readAll_snoc HALL.out HZ.out HZX.out rfl) (by rw [List.length_append]; have := HL.out; simp only [List.length_singleton]; omega)
      · have hb5' : (f == 5) = false := beq_false_of_ne hf5
        have hn5 : (f != 5) = true := by simpa using hf5
        have hn0 : (f != 0) = true := by simpa using hf0
        have HF5 := Lib.hid hf5
        have HF0 := Lib.hid hf0
        clear hf5 hf0
        go_wp2_with (first
          | (refine wpList_store_blk rfl _ _ _ rfl w2.heap.size rfl fr1 _ rfl 65 (blk_new _ _) hsz1 hi1 h11 ?_; intro w5 hb5 k3; have B15 := Below.step b2 (below_new k3); have hr5 := own_below (own_kept hr hk1 fun g hg => (HOK.out g hg).1) B15; have ne5 : (Value.slice oa rs.length oc).ownBlock ≠ some w2.heap.size := fun e => absurd (own_lt hr _ e) (Nat.not_lt.2 (Nat.le_trans hk1.size b2.size)))
          | (refine wpList_load_blk rfl _ _ rfl w2.heap.size rfl fr1 65 hb5 Tryz.underlying65 hi1 ?_)
          | (at_builtin; rw [fold17 hsz1 _ rfl]; refine wpList_app ERi rfl _ _ rfl (.slice oa rs.length oc) rs.length xs rfl (own_alloc hr5 _) 1 fr1.toList (src_of_block Tryz.underlying34 (blk_new w5 _) (by rw [hsz1]) h11) (by omega) (by unfold maxLen; omega) ?_; intro a' c' w7 hown hgrow hat; have hb7 := blk_grown (blk_alloc hb5) hgrow ne5; have c07 : w7.cell? ⟨w2.heap.size, 0, none⟩ = some (.int .i64 f) := (blk_cell hb7 0).trans hf1))
        have hg : (one m o L1).1.going = false := by rw [HZ.out, HZX.out]; exact stop_going HF0.out HF5.out
        have st := ir_step (r := .bad f c s) hS.lt hS.gl hk1 B15 ha HOK.out hbel hgrow (by rw [HF1.out]; exact hown) hat (rdB_nil _) (inK_nil _) (RdP.nil _) (inK_nil _)
        go_ret
        rw [HALL.out, readAll_stop hg, HZ.out, HZX.out]
        exact ⟨_, rfl, st.2.2.2.1, ⟨_, st.1, st.2.1.mono fun _ _ => trivial⟩, fun g hg => (st.2.2.1 g hg).2⟩
theorem implRead_any {B : Nat} {aE aU aT : Addr} {w : World} {L ps : List Int} {data pcs : Value} (hV : GV B w aE aU aT) (hB : B ≤ w.heap.size) (hd : RdB w data L) (hp : RdI .i64 w pcs ps) (bs : Bs L) (lim : L.length ≤ 100000000) (mx : Int) (mx0 : 0 ≤ mx) (mx1 : mx ≤ 16777215) :
    Calls Tryz.prog 10 #[data, pcs, .int .i64 mx, .bool false] w (ResEnd 65 w (readAll (mxOf mx) 0 L)) := by
  by_cases hmx : 0 < mx
  · exact implRead_max hV hB hd hp bs lim mx mx0 mx1 hmx
  · exact implRead_any0 hV hB hd hp bs lim mx hmx
end Go.Proofs.YtfdlbjibninakaaGreatDoor
