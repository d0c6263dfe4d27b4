/- FnWrite, the law's own walk. -/
import Derived.Test.YtfdlbjibninakaaGreatDoorLgd
import Derived.Test.YtfdlbjibninakaaGreatDoorImpw
import Derived.Test.YtfdlbjibninakaaGreatDoorEqg
import Derived.Test.YtfdlbjibninakaaGreatDoorBya
import Derived.Test.YtfdlbjibninakaaGreatDoorMa
import Derived.BigGuard
set_option linter.unusedVariables false
set_option linter.unusedSimpArgs false
namespace Go.Proofs.YtfdlbjibninakaaGreatDoor
open Go.RowKit
variable {w : World}
theorem padV_rd {pv : Value} {p : Option (List Int)} (h : PadV w pv p) : RdB w pv (p.getD []) := by
  cases p with
  | none =>
    obtain rfl : pv = .slice none 0 0 := h
    exact ⟨none, 0, rfl, Nat.le_refl _, Nat.zero_le _, fun j x h => by simp at h⟩
  | some l => exact h.2.1
theorem PadsR.below {w1 : World} {v : Value} {ps : List (Option (List Int))} (h : PadsR w v ps) (hb : Below w.heap.size w w1) : PadsR w1 v ps := by
  obtain ⟨a, c, e, h1, h2, h3⟩ := h
  refine ⟨a, c, e, h1, h2, fun j p hj => ?_⟩
  obtain ⟨b, o, pv, ea, hc, hv⟩ := h3 j p hj
  exact ⟨b, o, pv, ea, cell_below hc hb, padV_below hv hb⟩
/-- The frames ahead of k are legal. -/
def LegalTo (fs : List Fr) (ps : List (Option (List Int))) (k : Nat) : Prop := ∀ j f, j < k → fs[j]? = some f → Pl.Legal f ((Pl.padAt ps j).getD []) (Pl.padAt ps j).isSome
theorem LegalTo.all {fs : List Fr} {ps : List (Option (List Int))} (h : LegalTo fs ps fs.length) : Pl.LegalAll fs ps := fun k f hk => h k f (List.getElem?_eq_some_iff.1 hk).1 hk
theorem LegalTo.next {fs : List Fr} {ps : List (Option (List Int))} {k : Nat} {x : Fr} (h : LegalTo fs ps k) (hx : fs[k]? = some x) (hl : Pl.Legal x ((Pl.padAt ps k).getD []) (Pl.padAt ps k).isSome) : LegalTo fs ps (k + 1) := by
  intro j f hj hf
  rcases Nat.lt_or_ge j k with h1 | h1
  · exact h j f h1 hf
  · obtain rfl : j = k := by omega
    rw [hx] at hf
    cases hf
    exact hl
set_option maxRecDepth 10000 in
set_option maxHeartbeats 1000000 in
theorem legalL_any {lv pv : Value} {fs : List Fr} {ps : List (Option (List Int))} (hl : FrsK (· < w.heap.size) w lv fs) (hT : ∀ x ∈ fs, FrTy x) (hp : PadsR w pv ps) :
    Calls Tryz.prog 15 #[lv, pv] w (EqAny w ((Pl.LegalAll fs ps ∧ fs.length ≤ 100) ∧ ps.length ≤ fs.length)) := by
  obtain ⟨la, lc, rfl, hlc, hlm, hlf⟩ := hl
  obtain ⟨pa, pc, rfl, hpc, hpm, -⟩ := id hp
  have HLF := Lib.hid hlf
  have HP := Lib.hid hp
  have HT := Lib.hid hT
  clear hlf hp hT
  by_cases h1 : 100 < fs.length
  · have h1i : (100 : Int) < fs.length := by omega
    go_enter Tryz.func15, Tryz.ntmps15
    go_wp2_with fail
    go_ret
    exact .no (Below.refl _ _)
  have h1i : ¬ (100 : Int) < fs.length := by omega
  have H1 := Lib.hid h1
  clear h1
  by_cases h2 : fs.length < ps.length
  · have h2i : (fs.length : Int) < ps.length := by omega
    go_enter Tryz.func15, Tryz.ntmps15
    go_wp2_with fail
    go_ret
    exact .no (Below.refl _ _)
  have h2i : ¬ (fs.length : Int) < ps.length := by omega
  go_enter Tryz.func15, Tryz.ntmps15
  go_wp2_with fail
  have H2 := Lib.hid h2
  clear h2
  go_loopw [21] (fun i wr => ∃ k : Nat, k ≤ fs.length ∧ i = .int .i64 k ∧ LegalTo fs ps k ∧ Below w.heap.size w wr) (fun i _ => fs.length - (intOf i).toNat)
  case atStart => exact ⟨0, Nat.zero_le _, rfl, (fun j f hj => absurd hj (Nat.not_lt_zero _)), Below.refl _ _⟩
  case round =>
    obtain ⟨k, hk, rfl, hok, hbel⟩ := hrel
    by_cases hlt : k < fs.length
    · obtain ⟨b, o, dv, sv, rfl, hb, hd, hdK, hs, hsK, hcells⟩ := HLF.out k _ (List.getElem?_eq_getElem hlt)
      obtain ⟨da, dc, rfl, -, -⟩ := id hd
      obtain ⟨sa, sc, rfl, -, -⟩ := id hs
      have hcW : ∀ i u, (frX fs[k] (.slice da fs[k].data.length dc) (.slice sa fs[k].set.length sc))[i]? = some u → wr.cell? ⟨b, o + k * 14 + i, none⟩ = some u := fun i u hu => by rw [Nat.add_assoc]; exact cell_below (hcells i u hu) hbel
      have hnext := fun h => hok.next (List.getElem?_eq_getElem hlt) h
      have ht := HT.out _ (List.getElem_mem hlt)
      have hpad := fun (w' : World) (hb' : Below wr.heap.size wr w') => padding_any (HP.out.below (Below.then hbel (Nat.le_refl _) hb')) k
      generalize fs[k] = x at *
      generalize Pl.padAt ps k = p at *
      obtain ⟨fr, hfe⟩ : ∃ fr, frX x (.slice da x.data.length dc) (.slice sa x.set.length sc) = fr := ⟨_, rfl⟩
      have hlg : ∀ w' pd, Below wr.heap.size wr w' → PadV w' pd p → Calls Tryz.prog 32 #[.agg fr, pd, .bool p.isSome] w' (EqAny w' (Pl.Legal x (p.getD []) p.isSome)) := fun w' pd hb' hv => by rw [← hfe]; exact legal_any ht ((hd.below hbel).below hb') ((hs.below hbel).below hb') (padV_rd hv)
      have hsz : fr.size = 14 := by rw [← hfe]; exact frX_size ..
      have h1f : ∀ u ∈ fr.toList, u.oneCell' = true := by rw [← hfe]; exact frX_one _ _ _ _ _ _ _
      have hif : (Tryz.prog.info? 29).map (·.size) = some fr.size := by rw [hsz]; exact infoFs
      rw [hfe] at hcW
      have HC := Lib.hid hcW
      have HSZ := Lib.hid hsz
      have H1F := Lib.hid h1f
      have HIF := Lib.hid hif
      have HLG := Lib.hid hlg
      have HPAD := Lib.hid hpad
      have HNX := Lib.hid hnext
      have HBL := Lib.hid hbel
      have hkn : (k : Int) < fs.length := by omega
      clear hcW hsz h1f hif hlg hpad hnext hbel hfe hcells hd hs hdK hsK hb hok ht
      go_wp2_with (first
        | (refine wpList_load_at rfl 29 _ rfl b _ rfl fr HC.out Tryz.underlying29 HIF.out ?_)
        | (refine wpList_store_blk rfl 29 _ _ rfl wr.heap.size rfl fr _ rfl 29 (blk_new _ _) HSZ.out HIF.out H1F.out ?_; intro w1 hb1 hk1; have B1 : Below wr.heap.size wr w1 := (((Kept.refl (· < wr.heap.size) wr).alloc _).trans (hk1.mono fun k h _ => Nat.ne_of_lt h)).below (Nat.le_refl _))
        | (go_at_call 16; go_loud (refine (HPAD.out _ B1).mono ?_); rintro e w2 ⟨pd, rfl, hv, rfl⟩)
        | (refine wpList_load_blk rfl 29 _ rfl wr.heap.size rfl fr 29 hb1 Tryz.underlying29 HIF.out ?_))
      go_at_call 32
      refine (HLG.out _ _ B1 hv).mono ?_
      rintro e w3 ⟨q, rfl, hq, b3⟩
      have HQ := Lib.hid hq
      have HB3 := Lib.hid (Below.then (Below.then HBL.out (Nat.le_refl _) B1) (Nat.le_refl _) b3)
      clear hq b3 B1 hv hb1 hk1
      cases q
      · go_wp2_with fail
        go_ret
        exact .no HB3.out
      · go_wp2_with fail
        go_roundw
        case rel => exact ⟨k + 1, by omega, by go_num, HNX.out (HQ.out (by trivial)), HB3.out⟩
        case measure => simp [intOf]; omega
    · obtain rfl : k = fs.length := by omega
      have HOK := Lib.hid hok
      clear hok
      go_wp2_with fail
      go_ret
      exact ⟨true, rfl, fun _ => ⟨⟨HOK.out.all, by have := H1.out; omega⟩, by have := H2.out; omega⟩, hbel⟩
end Go.Proofs.YtfdlbjibninakaaGreatDoor

namespace Go.Proofs.YtfdlbjibninakaaGreatDoor
open Go.RowKit
variable {w : World}
theorem EqAny.some' {w w' : World} {q : Bool} (h : Below w.heap.size w w') : EqAny w True (.returned (.bool q)) w' := ⟨q, rfl, fun _ => trivial, h⟩
set_option maxRecDepth 10000 in
set_option maxHeartbeats 1000000 in
theorem fits2_any {x : Fr} {dv sv : Value} (hd : RdB w dv x.data) (hs : RdP w sv x.set) : Calls Tryz.prog 31 #[.agg (frX x dv sv)] w (EqAny w True) := by
  obtain ⟨da, dc, rfl, -, -⟩ := hd
  obtain ⟨sa, sc, rfl, -, -⟩ := hs
  unfold frX frameC
  have hB : Hid (∀ o, Below w.heap.size w (w.alloc o)) := Lib.hid fun o => ((Kept.refl (· < w.heap.size) w).alloc _).below (Nat.le_refl _)
  by_cases h1 : (2147483647 : Int) < x.data.length
  · go_enter Tryz.func31, Tryz.ntmps31
    go_wp2_with fail
    go_ret
    exact .some' (hB.out _)
  by_cases h2 : (2147483647 : Int) < x.set.length
  · go_enter Tryz.func31, Tryz.ntmps31
    go_wp2_with fail
    go_ret
    exact .some' (hB.out _)
  go_enter Tryz.func31, Tryz.ntmps31
  go_wp2_with fail
  go_ret
  exact .some' (hB.out _)
set_option maxRecDepth 10000 in
set_option maxHeartbeats 4000000 in
theorem fits1_any {lv : Value} {fs : List Fr} (hl : FrsK (· < w.heap.size) w lv fs) : Calls Tryz.prog 13 #[lv] w (EqAny w True) := by
  obtain ⟨la, lc, rfl, hlc, hlm, hlf⟩ := hl
  unfold maxLen at hlm
  have HLF := Lib.hid hlf
  clear hlf
  by_cases h1 : (2147483647 : Int) < fs.length
  · go_enter Tryz.func13, Tryz.ntmps13
    go_wp2_with fail
    go_ret
    exact .some' (Below.refl _ _)
  go_enter Tryz.func13, Tryz.ntmps13
  go_wp2_with fail
  go_loopw [10] (fun i wr => ∃ k : Nat, k ≤ fs.length ∧ i = .int .i64 k ∧ Below w.heap.size w wr) (fun i _ => fs.length - (intOf i).toNat)
  case atStart => exact ⟨0, Nat.zero_le _, rfl, Below.refl _ _⟩
  case round =>
    obtain ⟨k, hk, rfl, hbel⟩ := hrel
    by_cases hlt : k < fs.length
    · obtain ⟨b, o, dv, sv, rfl, hb, hd, hdK, hs, hsK, hcells⟩ := HLF.out k _ (List.getElem?_eq_getElem hlt)
      obtain ⟨da, dc, rfl, -, -⟩ := id hd
      obtain ⟨sa, sc, rfl, -, -⟩ := id hs
      have hcW : ∀ i u, (frX fs[k] (.slice da fs[k].data.length dc) (.slice sa fs[k].set.length sc))[i]? = some u → wr.cell? ⟨b, o + k * 14 + i, none⟩ = some u := fun i u hu => by rw [Nat.add_assoc]; exact cell_below (hcells i u hu) hbel
      generalize fs[k] = x at *
      obtain ⟨fr, hfe⟩ : ∃ fr, frX x (.slice da x.data.length dc) (.slice sa x.set.length sc) = fr := ⟨_, rfl⟩
      have hf2 : ∀ w', Below wr.heap.size wr w' → Calls Tryz.prog 31 #[.agg fr] w' (EqAny w' True) := fun w' hb' => by rw [← hfe]; exact fits2_any ((hd.below hbel).below hb') ((hs.below hbel).below hb')
      have hsz : fr.size = 14 := by rw [← hfe]; exact frX_size ..
      have h1f : ∀ u ∈ fr.toList, u.oneCell' = true := by rw [← hfe]; exact frX_one _ _ _ _ _ _ _
      have hif : (Tryz.prog.info? 29).map (·.size) = some fr.size := by rw [hsz]; exact infoFs
      rw [hfe] at hcW
      have HC := Lib.hid hcW
      have HSZ := Lib.hid hsz
      have H1F := Lib.hid h1f
      have HIF := Lib.hid hif
      have HF2 := Lib.hid hf2
      have HBL := Lib.hid hbel
      have hkn : (k : Int) < fs.length := by omega
      clear hcW hsz h1f hif hf2 hbel hfe hcells hd hs hdK hsK hb
      go_wp2_with (first
        | (refine wpList_load_at rfl 29 _ rfl b _ rfl fr HC.out Tryz.underlying29 HIF.out ?_)
        | (refine wpList_store_blk rfl 29 _ _ rfl wr.heap.size rfl fr _ rfl 29 (blk_new _ _) HSZ.out HIF.out H1F.out ?_; intro w1 hb1 hk1; have B1 : Below wr.heap.size wr w1 := (((Kept.refl (· < wr.heap.size) wr).alloc _).trans (hk1.mono fun k h _ => Nat.ne_of_lt h)).below (Nat.le_refl _))
        | (refine wpList_load_blk rfl 29 _ rfl wr.heap.size rfl fr 29 hb1 Tryz.underlying29 HIF.out ?_))
      refine (HF2.out _ B1).mono ?_
      rintro e w3 ⟨q, rfl, -, b3⟩
      have HB3 := Lib.hid (Below.then (Below.then HBL.out (Nat.le_refl _) B1) (Nat.le_refl _) b3)
      clear b3 B1 hb1 hk1
      cases q
      · go_wp2_with fail
        go_ret
        exact .some' HB3.out
      · go_wp2_with fail
        go_roundw
        case rel => exact ⟨k + 1, by omega, by go_num, HB3.out⟩
        case measure => simp [intOf]; omega
    · obtain rfl : k = fs.length := by omega
      go_wp2_with fail
      go_ret
      exact .some' hbel
set_option maxRecDepth 10000 in
set_option maxHeartbeats 4000000 in
theorem fits3_any {pv : Value} {ps : List (Option (List Int))} (hp : PadsR w pv ps) : Calls Tryz.prog 14 #[pv] w (EqAny w True) := by
  obtain ⟨la, lc, rfl, hlc, hlm, hlf⟩ := hp
  unfold maxLen at hlm
  have HLF := Lib.hid hlf
  clear hlf
  by_cases h1 : (2147483647 : Int) < ps.length
  · go_enter Tryz.func14, Tryz.ntmps14
    go_wp2_with fail
    go_ret
    exact .some' (Below.refl _ _)
  go_enter Tryz.func14, Tryz.ntmps14
  go_wp2_with fail
  go_loopw [10] (fun i wr => ∃ k : Nat, k ≤ ps.length ∧ i = .int .i64 k ∧ w = wr) (fun i _ => ps.length - (intOf i).toNat)
  case atStart => exact ⟨0, Nat.zero_le _, rfl, rfl⟩
  case round =>
    obtain ⟨k, hk, rfl, rfl⟩ := hrel
    by_cases hlt : k < ps.length
    · obtain ⟨b, o, pd, rfl, hc, hv⟩ := HLF.out k _ (List.getElem?_eq_getElem hlt)
      obtain ⟨qa, qc, rfl⟩ := padV_slice hv
      generalize (ps[k].getD []).length = n at *
      have hkn : (k : Int) < ps.length := by omega
      clear hv
      by_cases h2 : (2147483647 : Int) < n
      · go_wp2_with fail
        go_ret
        exact .some' (Below.refl _ _)
      · go_wp2_with fail
        go_roundw
        case rel => exact ⟨k + 1, by omega, by go_num, by trivial⟩
        case measure => simp [intOf]; omega
    · obtain rfl : k = ps.length := by omega
      go_wp2_with fail
      go_ret
      exact .some' (Below.refl _ _)
end Go.Proofs.YtfdlbjibninakaaGreatDoor

namespace Go.Proofs.YtfdlbjibninakaaGreatDoor
open Go.RowKit
variable {w : World}
/-- The bytes that are wanted of the frames ahead of k. -/
theorem law_bytes {x : Fr} {dv sv pd : Value} {p : Option (List Int)} {w' : World} (hok : Pl.Legal x (p.getD []) p.isSome) (hd : RdB w' dv x.data) (hs : RdP w' sv x.set) {qa : Option Addr} {qc : Nat} (hp : RdB w' (.slice qa (p.getD []).length qc) (p.getD [])) :
    Calls Tryz.prog 17 #[.agg (frX x dv sv), .slice qa (p.getD []).length qc, .bool (Pl.pdOf x p)] w' (RetB w' (Pl.wBytes x (p.getD []) (Pl.pdOf x p))) :=
  bytes_legal hok.strip hd hs hp
theorem legal_set_le {x : Fr} {pad : List Int} {pd : Bool} (h : Pl.Legal x pad pd) : x.set.length ≤ 1000 := by
  by_cases h4 : x.ty = 4
  · have htk := h.tk
    unfold Pl.tyOk at htk
    simp [h4] at htk
    omega
  · have e : x.set = [] := by
      rw [h.cl]
      unfold Pl.cleanF
      repeat' split
      all_goals first | rfl | exact absurd (by assumption) h4
    rw [e]
    simp
/-- What is wanted so far: a slice of bytes of the call's own. -/
structure Wants (w : World) (v : Value) (L : List Int) (w' : World) : Prop where
  own : Row w' 5 1 v L.length (bv L)
  fr : Fresh w.heap.size v
  B : Below w.heap.size w w'
set_option maxRecDepth 10000 in
set_option maxHeartbeats 8000000 in
theorem fnWrite_any {B : Nat} {aE aU aT : Addr} {lv pv : Value} {fs : List Fr} {ps : List (Option (List Int))} (hV : GV B w aE aU aT) (hBw : B ≤ w.heap.size) (hl : FrsR w lv fs) (hp : PadsR w pv ps) :
    Calls Tryz.prog 5 #[lv, pv] w (YesEnd w) := by
  have hT := hl.types
  have hlK := hl.toK
  obtain ⟨la, lc, rfl, hlc, hlm, hlf⟩ := id hlK
  obtain ⟨pa, pc, rfl, hpc, hpm, -⟩ := id hp
  have HF1 := Lib.hid (fits1_any hlK)
  have HF3 := Lib.hid fun (w' : World) (hb : Below w.heap.size w w') => fits3_any (hp.below hb)
  have HLG := Lib.hid fun (w' : World) (hb : Below w.heap.size w w') => legalL_any (lv := .slice la fs.length lc) (pv := .slice pa ps.length pc) (w := w') ((hlK.kept (Kept.ofBelow hb)).mono fun k h => Nat.lt_of_lt_of_le h hb.size) hT (hp.below hb)
  have HLF := Lib.hid hlf
  have HK := Lib.hid hlK
  have HP := Lib.hid hp
  have HV := Lib.hid hV
  clear hl hlK hp hlf hT hV
  go_enter Tryz.func5, Tryz.ntmps5
  go_wp2_with fail
  refine HF1.out.mono ?_
  rintro e w1 ⟨q1, rfl, -, b1⟩
  have HB1 := Lib.hid b1
  clear b1
  cases q1
  · go_wp2_with fail
    go_ret
    exact ⟨rfl, HB1.out⟩
  go_wp2_with fail
  refine (HF3.out _ HB1.out).mono ?_
  rintro e w2 ⟨q2, rfl, -, b2⟩
  have HB2 := Lib.hid (Below.then HB1.out (Nat.le_refl _) b2)
  clear b2
  cases q2
  · go_wp2_with fail
    go_ret
    exact ⟨rfl, HB2.out⟩
  go_wp2_with fail
  refine (HLG.out _ HB2.out).mono ?_
  rintro e w3 ⟨q3, rfl, hq3, b3⟩
  have HB3 := Lib.hid (Below.then HB2.out (Nat.le_refl _) b3)
  have HQ3 := Lib.hid hq3
  clear b3 hq3
  cases q3
  · go_wp2_with fail
    go_ret
    exact ⟨rfl, HB3.out⟩
  obtain ⟨⟨hok, hn⟩, hnp⟩ := HQ3.out (by trivial)
  have HOK := Lib.hid hok
  clear hok
  go_wp2_with fail
  go_loopw [5, 28] (fun v i wr => ∃ k : Nat, k ≤ fs.length ∧ i = .int .i64 k ∧ Wants w v (Pl.wAll ((Pl.zs fs ps).take k)) wr) (fun _ i _ => fs.length - (intOf i).toNat)
  case atStart => exact ⟨0, Nat.zero_le _, rfl, ⟨World.ownsRow_nil _ _ _ _, Fresh.nil _, HB3.out⟩⟩
  case round =>
    obtain ⟨k, hk, rfl, hW⟩ := hrel
    have hbel := hW.B
    by_cases hlt : k < fs.length
    · obtain ⟨b, o, dv, sv, rfl, hb, hd, hdK, hs, hsK, hcells⟩ := HLF.out k _ (List.getElem?_eq_getElem hlt)
      obtain ⟨da, dc, rfl, -, -⟩ := id hd
      obtain ⟨sa, sc, rfl, -, -⟩ := id hs
      have hcW : ∀ i u, (frX fs[k] (.slice da fs[k].data.length dc) (.slice sa fs[k].set.length sc))[i]? = some u → wr.cell? ⟨b, o + k * 14 + i, none⟩ = some u := fun i u hu => by rw [Nat.add_assoc]; exact cell_below (hcells i u hu) hbel
      have hok := HOK.out k _ (List.getElem?_eq_getElem hlt)
      have hout := Pl.wAll_take_len HOK.out hn k
      have hnext := Pl.wAll_take (ps := ps) (List.getElem?_eq_getElem hlt)
      have hblen := Pl.wBytes_len hok.strip
      have hpad := fun (w' : World) (hb' : Below wr.heap.size wr w') => padding_any (HP.out.below (Below.then hbel (Nat.le_refl _) hb')) k
      generalize fs[k] = x at *
      generalize Pl.padAt ps k = p at *
      obtain ⟨L, hL⟩ : ∃ L, Pl.wAll ((Pl.zs fs ps).take k) = L := ⟨_, rfl⟩
      rw [hL] at hW hout hnext
      obtain ⟨fr, hfe⟩ : ∃ fr, frX x (.slice da x.data.length dc) (.slice sa x.set.length sc) = fr := ⟨_, rfl⟩
      have hby : ∀ (w' : World) (qa : Option Addr) (qc : Nat), Below wr.heap.size wr w' → RdB w' (.slice qa (p.getD []).length qc) (p.getD []) → Calls Tryz.prog 17 #[.agg fr, .slice qa (p.getD []).length qc, .bool (Pl.pdOf x p)] w' (RetB w' (Pl.wBytes x (p.getD []) (Pl.pdOf x p))) := fun w' qa qc hb' hpr => by rw [← hfe]; exact law_bytes (pd := .slice qa 0 qc) hok ((hd.below hbel).below hb') ((hs.below hbel).below hb') hpr
      have hsz : fr.size = 14 := by rw [← hfe]; exact frX_size ..
      have h1f : ∀ u ∈ fr.toList, u.oneCell' = true := by rw [← hfe]; exact frX_one _ _ _ _ _ _ _
      have hif : (Tryz.prog.info? 29).map (·.size) = some fr.size := by rw [hsz]; exact infoFs
      have hf0 : fr[0]? = some (.int .i64 x.ty) := by rw [← hfe]; rfl
      rw [hfe] at hcW
      have hpdo : Pl.pdOf x p = if (x.ty = 1 ∨ x.ty = 5) ∧ (p.getD []).length = 0 then false else p.isSome := rfl
      obtain ⟨pdo, hpdo2⟩ : ∃ q, Pl.pdOf x p = q := ⟨_, rfl⟩
      rw [hpdo2] at hby hnext hpdo hblen
      obtain ⟨WB, hWB⟩ : ∃ q, Pl.wBytes x (p.getD []) pdo = q := ⟨_, rfl⟩
      rw [hWB] at hby hnext hblen
      obtain ⟨va, vc, rfl, hvc, hvm⟩ := own_shape hW.own
      have HC := Lib.hid hcW
      have HSZ := Lib.hid hsz
      have H1F := Lib.hid h1f
      have HIF := Lib.hid hif
      have HBY := Lib.hid hby
      have HPAD := Lib.hid hpad
      have HNX := Lib.hid hnext
      have HBL := Lib.hid hbel
      have HW := Lib.hid hW
      have HF0 := Lib.hid hf0
      have HPD := Lib.hid hpdo
      have hkn : (k : Int) < fs.length := by omega
      have hbb : (L.length + WB.length) * 1 ≤ 140737488355328 := by omega
      have h63 : L.length + WB.length ≤ maxLen := by unfold maxLen; omega
      clear hcW hsz h1f hif hby hpad hnext hbel hfe hcells hd hs hdK hsK hb hok hL hW hf0 hpdo hpdo2 hout hblen
      go_wp2_with (first
        | (refine wpList_load_at rfl 29 _ rfl b _ rfl fr HC.out Tryz.underlying29 HIF.out ?_)
        | (refine wpList_store_blk rfl 29 _ _ rfl wr.heap.size rfl fr _ rfl 29 (blk_new _ _) HSZ.out HIF.out H1F.out ?_; intro w1 hb1 hk1; have B1 : Below wr.heap.size wr w1 := (((Kept.refl (· < wr.heap.size) wr).alloc _).trans (hk1.mono fun k h _ => Nat.ne_of_lt h)).below (Nat.le_refl _)))
      refine (HPAD.out _ B1).mono ?_
      rintro e w2 ⟨pd, rfl, hv, hw2⟩
      obtain rfl := hw2
      obtain ⟨qa, qc, rfl⟩ := padV_slice hv
      have HBY2 := Lib.hid (HBY.out _ qa qc B1 (padV_rd hv))
      have t0 : w1.cell? ⟨wr.heap.size, 0, none⟩ = some (.int .i64 x.ty) := (blk_cell hb1 0).trans HF0.out
      clear hv
      have HPD2 := HPD.out
      clear HPD
      generalize (p.getD []).length = pn at *
      generalize p.isSome = pq at *
      have HB1b := Lib.hid B1
      have HBK := Lib.hid hb1
      clear B1 hb1 hk1 HBY HPAD
      by_cases t1 : x.ty = 1
      · have b1 : (x.ty == 1) = true := by simp [t1]
        have T := Lib.hid t1
        clear t1
        by_cases z : pn = 0
        · have bz : ((pn : Int) == 0) = true := by simp [z]
          obtain rfl : pdo = false := by rw [HPD2, if_pos ⟨.inl T.out, z⟩]
          clear HPD2 z
          go_wp2_with (first
              | (refine wpList_load_blk rfl 29 _ rfl wr.heap.size rfl fr 29 HBK.out Tryz.underlying29 HIF.out ?_)
              | (go_at_call 17; refine HBY2.out.mono ?_; rintro e w4 ⟨r, rfl, b4, o4, f4⟩; obtain ⟨ra, rc, rfl, -, -⟩ := own_shape o4; have HW4 := own_below (own_below HW.out.own HB1b.out) b4)
              | (at_builtin; refine wpList_app E5 rfl _ _ rfl (.slice va L.length vc) L.length (bv L) rfl HW4 WB.length (bv WB) (src_of_row Tryz.underlying22 o4 (bv_one _)) hbb h63 ?_; intro a' c' w5 o5 g5 t5))
          have B4 := Below.then (Below.then HBL.out (Nat.le_refl _) HB1b.out) (Nat.le_refl _) b4
          have HW5 : Hid (Wants w (.slice a' (L.length + WB.length) c') (L ++ WB) w5) := Lib.hid ⟨by rw [List.length_append, bv_append]; exact o5, HW.out.fr.app B4.size t5, Below.app B4 B4.size g5 HW.out.fr⟩
          clear o5 g5 t5 B4 HW4 o4 f4 b4
          go_roundw
          case rel => exact ⟨k + 1, by omega, by go_num, by rw [HNX.out]; exact HW5.out⟩
          case measure => simp [intOf]; omega
        · have bz : ((pn : Int) == 0) = false := beq_false_of_ne (by omega)
          obtain rfl : pdo = pq := by rw [HPD2, if_neg fun h => z h.2]
          clear HPD2 z
          go_wp2_with (first
              | (refine wpList_load_blk rfl 29 _ rfl wr.heap.size rfl fr 29 HBK.out Tryz.underlying29 HIF.out ?_)
              | (go_at_call 17; refine HBY2.out.mono ?_; rintro e w4 ⟨r, rfl, b4, o4, f4⟩; obtain ⟨ra, rc, rfl, -, -⟩ := own_shape o4; have HW4 := own_below (own_below HW.out.own HB1b.out) b4)
              | (at_builtin; refine wpList_app E5 rfl _ _ rfl (.slice va L.length vc) L.length (bv L) rfl HW4 WB.length (bv WB) (src_of_row Tryz.underlying22 o4 (bv_one _)) hbb h63 ?_; intro a' c' w5 o5 g5 t5))
          have B4 := Below.then (Below.then HBL.out (Nat.le_refl _) HB1b.out) (Nat.le_refl _) b4
          have HW5 : Hid (Wants w (.slice a' (L.length + WB.length) c') (L ++ WB) w5) := Lib.hid ⟨by rw [List.length_append, bv_append]; exact o5, HW.out.fr.app B4.size t5, Below.app B4 B4.size g5 HW.out.fr⟩
          clear o5 g5 t5 B4 HW4 o4 f4 b4
          go_roundw
          case rel => exact ⟨k + 1, by omega, by go_num, by rw [HNX.out]; exact HW5.out⟩
          case measure => simp [intOf]; omega
      have b1 : (x.ty == 1) = false := beq_false_of_ne t1
      have T1 := Lib.hid t1
      clear t1
      by_cases t5 : x.ty = 5
      · have b5 : (x.ty == 5) = true := by simp [t5]
        have T := Lib.hid t5
        clear t5
        by_cases z : pn = 0
        · have bz : ((pn : Int) == 0) = true := by simp [z]
          obtain rfl : pdo = false := by rw [HPD2, if_pos ⟨.inr T.out, z⟩]
          clear HPD2 z
          go_wp2_with (first
              | (refine wpList_load_blk rfl 29 _ rfl wr.heap.size rfl fr 29 HBK.out Tryz.underlying29 HIF.out ?_)
              | (go_at_call 17; refine HBY2.out.mono ?_; rintro e w4 ⟨r, rfl, b4, o4, f4⟩; obtain ⟨ra, rc, rfl, -, -⟩ := own_shape o4; have HW4 := own_below (own_below HW.out.own HB1b.out) b4)
              | (at_builtin; refine wpList_app E5 rfl _ _ rfl (.slice va L.length vc) L.length (bv L) rfl HW4 WB.length (bv WB) (src_of_row Tryz.underlying22 o4 (bv_one _)) hbb h63 ?_; intro a' c' w5 o5 g5 t5))
          have B4 := Below.then (Below.then HBL.out (Nat.le_refl _) HB1b.out) (Nat.le_refl _) b4
          have HW5 : Hid (Wants w (.slice a' (L.length + WB.length) c') (L ++ WB) w5) := Lib.hid ⟨by rw [List.length_append, bv_append]; exact o5, HW.out.fr.app B4.size t5, Below.app B4 B4.size g5 HW.out.fr⟩
          clear o5 g5 t5 B4 HW4 o4 f4 b4
          go_roundw
          case rel => exact ⟨k + 1, by omega, by go_num, by rw [HNX.out]; exact HW5.out⟩
          case measure => simp [intOf]; omega
        · have bz : ((pn : Int) == 0) = false := beq_false_of_ne (by omega)
          obtain rfl : pdo = pq := by rw [HPD2, if_neg fun h => z h.2]
          clear HPD2 z
          go_wp2_with (first
              | (refine wpList_load_blk rfl 29 _ rfl wr.heap.size rfl fr 29 HBK.out Tryz.underlying29 HIF.out ?_)
              | (go_at_call 17; refine HBY2.out.mono ?_; rintro e w4 ⟨r, rfl, b4, o4, f4⟩; obtain ⟨ra, rc, rfl, -, -⟩ := own_shape o4; have HW4 := own_below (own_below HW.out.own HB1b.out) b4)
              | (at_builtin; refine wpList_app E5 rfl _ _ rfl (.slice va L.length vc) L.length (bv L) rfl HW4 WB.length (bv WB) (src_of_row Tryz.underlying22 o4 (bv_one _)) hbb h63 ?_; intro a' c' w5 o5 g5 t5))
          have B4 := Below.then (Below.then HBL.out (Nat.le_refl _) HB1b.out) (Nat.le_refl _) b4
          have HW5 : Hid (Wants w (.slice a' (L.length + WB.length) c') (L ++ WB) w5) := Lib.hid ⟨by rw [List.length_append, bv_append]; exact o5, HW.out.fr.app B4.size t5, Below.app B4 B4.size g5 HW.out.fr⟩
          clear o5 g5 t5 B4 HW4 o4 f4 b4
          go_roundw
          case rel => exact ⟨k + 1, by omega, by go_num, by rw [HNX.out]; exact HW5.out⟩
          case measure => simp [intOf]; omega
      have b5 : (x.ty == 5) = false := beq_false_of_ne t5
      obtain rfl : pdo = pq := by rw [HPD2, if_neg fun h => h.1.elim T1.out t5]
      clear HPD2 t5
      go_wp2_with (first
          | (refine wpList_load_blk rfl 29 _ rfl wr.heap.size rfl fr 29 HBK.out Tryz.underlying29 HIF.out ?_)
          | (go_at_call 17; refine HBY2.out.mono ?_; rintro e w4 ⟨r, rfl, b4, o4, f4⟩; obtain ⟨ra, rc, rfl, -, -⟩ := own_shape o4; have HW4 := own_below (own_below HW.out.own HB1b.out) b4)
          | (at_builtin; refine wpList_app E5 rfl _ _ rfl (.slice va L.length vc) L.length (bv L) rfl HW4 WB.length (bv WB) (src_of_row Tryz.underlying22 o4 (bv_one _)) hbb h63 ?_; intro a' c' w5 o5 g5 t5))
      have B4 := Below.then (Below.then HBL.out (Nat.le_refl _) HB1b.out) (Nat.le_refl _) b4
      have HW5 : Hid (Wants w (.slice a' (L.length + WB.length) c') (L ++ WB) w5) := Lib.hid ⟨by rw [List.length_append, bv_append]; exact o5, HW.out.fr.app B4.size t5, Below.app B4 B4.size g5 HW.out.fr⟩
      clear o5 g5 t5 B4 HW4 o4 f4 b4
      go_roundw
      case rel => exact ⟨k + 1, by omega, by go_num, by rw [HNX.out]; exact HW5.out⟩
      case measure => simp [intOf]; omega
    · obtain rfl : k = fs.length := by omega
      rw [List.take_of_length_le (by rw [Pl.zs_length]; exact Nat.le_refl _)] at hW
      obtain ⟨A, hA⟩ : ∃ A, Pl.wAll (Pl.zs fs ps) = A := ⟨_, rfl⟩
      have hAl : A.length ≤ 1639300 := by rw [← hA]; have h := Pl.wAll_take_len HOK.out hn fs.length; rwa [List.take_of_length_le (by rw [Pl.zs_length]; exact Nat.le_refl _)] at h
      have himp := fun (w' : World) (v' : Value) (hb : Below w.heap.size w w') (hv : FrsK (· < w'.heap.size) w' v' fs) => implWrite_any (w := w') hv (HP.out.below hb) HOK.out hn hnp
      rw [hA] at hW himp
      have hgiv := givens_any (w := wr) (v := .slice la fs.length lc) ((HK.out.kept (Kept.ofBelow hbel)).mono fun k h => Nat.lt_of_lt_of_le h hbel.size) (by omega) (fun x hx => by
        obtain ⟨j, hj⟩ := List.mem_iff_getElem?.1 hx
        have := legal_set_le (HOK.out j x hj)
        omega)
      obtain ⟨va, vc, rfl, hvc, hvm⟩ := own_shape hW.own
      have HW := Lib.hid hW
      have HBL := Lib.hid hbel
      have HIMP := Lib.hid himp
      have HGIV := Lib.hid hgiv
      clear hW hbel himp hgiv hA
      go_wp2_with fail
      refine HGIV.out.mono ?_
      rintro e w4 ⟨v4, rfl, b4, hk4⟩
      have HB4 := Lib.hid (Below.then HBL.out (Nat.le_refl _) b4)
      have HI := Lib.hid (HIMP.out w4 v4 HB4.out hk4)
      have HW4 := Lib.hid (own_below HW.out.own b4)
      clear hk4 b4 HIMP HGIV
      go_wp2_with fail
      refine HI.out.mono ?_
      rintro e w5 ⟨al, fv, rfl, b5, oal, ofv, fal, ffv⟩
      have HB5 := Lib.hid (Below.then HB4.out (Nat.le_refl _) b5)
      have ow := own_below HW4.out b5
      obtain ⟨S, hS⟩ : ∃ S, strOfNums A = S := ⟨_, rfl⟩
      have q1 := conv_rd (rd_of_row oal)
      have q2 := conv_rd (rd_of_row ow)
      rw [hS] at q1 q2
      obtain ⟨xa, xc, rfl, -, -⟩ := own_shape oal
      obtain ⟨fa, fc, rfl, -, -⟩ := own_shape ofv
      have HOF := Lib.hid ofv
      clear hS oal ow b5 fal ffv HI ofv
      go_wp2_with fail
      clear q1 q2
      go_loopw [80] (fun i wr => ∃ k : Nat, k ≤ fs.length ∧ i = .int .i64 k ∧ w5 = wr) (fun i _ => fs.length - (intOf i).toNat)
      case atStart => exact ⟨0, Nat.zero_le _, rfl, rfl⟩
      case round =>
        obtain ⟨k, hk, rfl, rfl⟩ := hrel
        by_cases hlt : k < fs.length
        · obtain ⟨g, c, e, hc⟩ := own_cell HOF.out k (.bool false) (by rw [List.getElem?_replicate, if_pos hlt])
          cases e
          have hkn : (k : Int) < fs.length := by omega
          go_wp2_with fail
          go_roundw
          case rel => exact ⟨k + 1, by omega, by go_num, by trivial⟩
          case measure => simp [intOf]; omega
        · obtain rfl : k = fs.length := by omega
          go_wp2_with fail
          refine (reads_any (HV.out.below HB5.out) (Nat.le_trans hBw HB5.out.size)).mono ?_
          rintro e w6 ⟨rfl, b6⟩
          have HB6 := Lib.hid (Below.then HB5.out (Nat.le_refl _) b6)
          clear b6
          go_wp2_with fail
          go_ret
          exact ⟨rfl, HB6.out⟩
end Go.Proofs.YtfdlbjibninakaaGreatDoor
