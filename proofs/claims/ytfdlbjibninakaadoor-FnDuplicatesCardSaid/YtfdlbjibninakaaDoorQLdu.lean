/- FnDuplicates, the law's own walk. -/
import Derived.Test.YtfdlbjibninakaaDoorQDu
import Derived.Test.YtfdlbjibninakaaDoorQTw
import Derived.Test.YtfdlbjibninakaaDoorQSbs
import Derived.Test.YtfdlbjibninakaaDoorQLgs
import Derived.Test.YtfdlbjibninakaaDoorQLdd
set_option linter.unusedVariables false
set_option linter.unusedSimpArgs false
namespace Go.Proofs.YtfdlbjibninakaaDoor
open Go.RowKit
theorem legal_fS {l : List (Int × Int)} (h : SetOk l) : Pl.Legal (fS l) [] false where
  ty := by show (0 : Int) ≤ 4 ∧ (4 : Int) < 256; omega
  fl := by show Pl.flOk 4 0; unfold Pl.flOk; simp
  st := by show (0 : Int) ≤ 0 ∧ (0 : Int) ≤ 2147483647; omega
  dl := Nat.zero_le _
  db := fun x hx => by cases hx
  ln := rfl
  wt := by show (0 : Int) ≤ 0 ∧ (0 : Int) ≤ 255; omega
  pl := Nat.zero_le _
  pz := fun x hx => by cases hx
  pt := fun e => by cases e
  pn := fun _ => rfl
  dep := by show (0 : Int) ≤ 0 ∧ (0 : Int) ≤ 2147483647; omega
  pr := by show (0 : Int) ≤ 0 ∧ (0 : Int) ≤ 2147483647; omega
  la := by show (0 : Int) ≤ 0 ∧ (0 : Int) ≤ 2147483647; omega
  co := by show (0 : Int) ≤ 0 ∧ (0 : Int) < 4294967296; omega
  ic := by show (0 : Int) ≤ 0 ∧ (0 : Int) < 4294967296; omega
  set := h.1
  cl := by simp [Pl.cleanF, fS, Fr.zero]
  tk := by unfold Pl.tyOk fS; simp [Fr.zero]; exact h.2
  hz := fun e => by cases e
  hd := fun e => e.elim (fun e => absurd e (by show ¬ (4 : Int) = 2; omega)) (fun e => by cases e)
theorem wPay_fS (l : List (Int × Int)) : Pl.wPay (fS l) [] false = Pl.wSet l := by simp [Pl.wPay, fS]
theorem one_fS {l : List (Int × Int)} (h : SetOk l) : one 16777215 0 (hdrS (Pl.wSet l).length 4 0 0 ++ Pl.wSet l) = (.ok { fS l with ln := (Pl.wSet l).length }, 0, []) := by
  have hlen : (Pl.wSet l).length = l.length * 6 := Pl.wSet_len l
  have h1000 := h.2
  have hh : hdOf (hdrS (Pl.wSet l).length 4 0 0 ++ Pl.wSet l) = ⟨4, 0, (Pl.wSet l).length, 0⟩ := Pl.hdOf_w (Pl.wSet l).length 4 0 0 (by omega) (by omega) (by omega) (by omega) (Pl.wSet l)
  have h9 : (hdrS (Pl.wSet l).length 4 0 0).length = 9 := rfl
  have hd : (hdrS (Pl.wSet l).length 4 0 0 ++ Pl.wSet l).drop 9 = Pl.wSet l := by rw [← h9]; exact List.drop_left
  rw [Pl.one_parse (by rw [List.length_append]; omega) (by rw [hh]; show ((Pl.wSet l).length : Int) ≤ 16777215; omega) (by rw [hh]; unfold ordBad; simp) (by rw [hh, hd]; exact Int.le_refl _), hh, hd]
  have hp := Pl.parse_w (legal_fS h)
  rw [wPay_fS] at hp
  have hf : Pl.wFl (fS l) false = 0 := by simp [Pl.wFl, fS, Fr.zero]
  have hw : Pl.whole (fS l) [] false = { fS l with ln := (Pl.wSet l).length } := by unfold Pl.whole; rw [wPay_fS, hf]; rfl
  rw [hf, hw] at hp
  have ht : ((Pl.wSet l).length : Int).toNat = (Pl.wSet l).length := Int.toNat_natCast _
  show (parse ⟨4, 0, (Pl.wSet l).length, 0⟩ ((Pl.wSet l).take ((Pl.wSet l).length : Int).toNat), nextO 0 ⟨4, 0, (Pl.wSet l).length, 0⟩, (Pl.wSet l).drop ((Pl.wSet l).length : Int).toNat) = _
  rw [ht, List.take_length, List.drop_length]
  have hn : nextO 0 ⟨4, 0, (Pl.wSet l).length, 0⟩ = 0 := by unfold nextO; simp
  rw [hn]
  exact congrArg (fun r => (r, (0 : Int), ([] : List Int))) hp
theorem wSet_bs {l : List (Int × Int)} (h : ∀ p ∈ l, 0 ≤ p.1 ∧ p.1 < 65536 ∧ 0 ≤ p.2 ∧ p.2 < 4294967296) : Bs (Pl.wSet l) := by
  induction l with
  | nil => intro x hx; cases hx
  | cons p l ih =>
    intro x hx
    obtain ⟨h0, h1, h2, h3⟩ := h p (List.mem_cons_self ..)
    rw [Pl.wSet] at hx
    rcases List.mem_append.1 hx with hx | hx
    · simp [Pl.w16, Pl.w32] at hx; omega
    · exact ih (fun q hq => h q (List.mem_cons_of_mem _ hq)) x hx
theorem hdrD_bs (n : Nat) (hn : n < 16777216) : Bs (hdrS n 4 0 0) := by
  intro x hx
  simp [hdrS, be32] at hx
  omega
def twL : List Int := [0, 0, 12, 4, 0, 0, 0, 0, 0, 0, 1, 0, 0, 0, 0, 0, 1, 0, 0, 0, 0]
theorem one_tw : one 16777215 0 twL = (.ok { Fr.of ⟨4, 0, 12, 0⟩ with set := [(1, 0), (1, 0)] }, 0, []) := by
  have e : hdOf twL = ⟨4, 0, 12, 0⟩ := by rfl
  rw [Pl.one_parse (by decide) (by rw [e]; decide) (by rw [e]; rfl) (by rw [e]; decide), e]
  rfl
theorem twL_bs : Bs twL := by
  intro x hx
  simp [twL] at hx
  omega
abbrev twC : Array Value := #[.int .u8 0, .int .u8 0, .int .u8 12, .int .u8 4, .int .u8 0, .int .u8 0, .int .u8 0, .int .u8 0, .int .u8 0, .int .u8 0, .int .u8 1, .int .u8 0, .int .u8 0, .int .u8 0, .int .u8 0, .int .u8 0, .int .u8 1, .int .u8 0, .int .u8 0, .int .u8 0, .int .u8 0]
theorem rd21 (w : World) : RdB (w.alloc (.cells twC 5)) (.slice (some ⟨w.heap.size, 0, none⟩) 21 21) twL := by
  have hrow : Row (w.alloc (.cells twC 5)) 5 1 (.slice (some ⟨w.heap.size, 0, none⟩) 21 21) 21 (bv twL) := ⟨rfl, .inr ⟨_, 21, _, rfl, Nat.zero_le _, blk_new _ _, Nat.le_refl _, by unfold maxLen; omega, rfl, rfl⟩⟩
  exact rd_of_row hrow
set_option maxRecDepth 10000 in
set_option maxHeartbeats 2000000 in
theorem twice_yes {B : Nat} {aE aU aT : Addr} {w : World} (hV : GV B w aE aU aT) (hB : B ≤ w.heap.size) : Calls Tryd.prog 23 #[] w fun e w' => e = .returned (.bool true) ∧ Below w.heap.size w w' := by
  have b1 : Below w.heap.size w (w.alloc (.cells twC 5)) := ((Kept.refl (· < w.heap.size) w).alloc _).below (Nat.le_refl _)
  have hd := duplicates_any (hV.below b1) (Nat.le_trans hB b1.size) (rd21 w) twL_bs (by decide) one_tw rfl (by decide)
  have hD := Lib.hid hd
  clear hd
  go_enter Tryd.func23, Tryd.ntmps23
  go_wp2_with fail
  refine hD.out.mono ?_
  rintro e w2 ⟨r, rfl, hr, b2⟩
  have HRT := Lib.hid (show r = true from hr.2 ⟨0, 1, 1, by omega, rfl, rfl⟩)
  clear hr
  go_upto_region 2 with (fail)
  have hrt := HRT.out
  clear HRT
  subst hrt
  go_wp2
  go_ret
  exact ⟨rfl, Below.then b1 (Nat.le_refl _) b2⟩
theorem dup_same {r r2 : Bool} {P : Prop} (h1 : r = true ↔ P) (h2 : r2 = true ↔ P) : (r == r2) = true := by
  have h : (r = true ↔ r2 = true) := h1.trans h2.symm
  cases r <;> cases r2 <;> simp_all
def YesD (w : World) (e : Ending) (w' : World) : Prop := e = .returned (.bool true) ∧ Below w.heap.size w w'
set_option maxRecDepth 10000 in
set_option maxHeartbeats 4000000 in
theorem fnDuplicates_any {B : Nat} {aE aU aT : Addr} {w : World} {v : Value} {l : List (Int × Int)} (hV : GV B w aE aU aT) (hB : B ≤ w.heap.size) (hs : RdP w v l) (hu : ∀ p ∈ l, 0 ≤ p.2 ∧ p.2 < 4294967296) : Calls Tryd.prog 6 #[v] w (YesD w) := by
  obtain ⟨sa, sc, rfl, hsc, hsm⟩ := hs.shape
  unfold maxLen at hsm
  by_cases h0 : (2147483647 : Int) < l.length
  · clear hs
    go_enter Tryd.func6, Tryd.ntmps6
    go_wp2
    go_ret
    exact ⟨rfl, Below.refl _ _⟩
  have HS := Lib.hid hs
  have HU := Lib.hid hu
  clear hs hu
  have hby : ∀ (W : World), Below w.heap.size w W → SetOk l → Calls Tryd.prog 21 #[.agg (fSc (.slice sa l.length sc)), .slice none 0 0, .bool false] W (RetB W (hdrS (Pl.wSet l).length 4 0 0 ++ Pl.wSet l)) := fun W hb hok =>
    bytes_set (x := fS l) (dv := .slice none 0 0) (sv := .slice sa l.length sc) (pv := .slice none 0 0) (q := false) (HS.out.below hb) (by have := hok.2; show l.length ≤ 1000; omega) rfl (Int.le_refl 0) (by show (0 : Int) < 256; omega) (Int.le_refl 0) (by show (0 : Int) < 4294967296; omega) (fun p hp => by have := hok.1 p hp; omega)
  have hwl : (Pl.wSet l).length = l.length * 6 := Pl.wSet_len l
  have hbs : SetOk l → Bs (hdrS (Pl.wSet l).length 4 0 0 ++ Pl.wSet l) := fun hok x hx => (List.mem_append.1 hx).elim (hdrD_bs _ (by have := hok.2; omega) x) (wSet_bs (fun p hp => by have := hok.1 p hp; omega) x)
  have hll : SetOk l → (hdrS (Pl.wSet l).length 4 0 0 ++ Pl.wSet l).length ≤ 100000000 := fun hok => by rw [List.length_append, hwl]; have := hok.2; simp [hdrS, be32]; omega
  have hon : SetOk l → one 16777215 0 (hdrS (Pl.wSet l).length 4 0 0 ++ Pl.wSet l) = (.ok { fS l with ln := (Pl.wSet l).length }, 0, []) := one_fS
  obtain ⟨L, hLd⟩ : ∃ L, hdrS (Pl.wSet l).length 4 0 0 ++ Pl.wSet l = L := ⟨_, rfl⟩
  obtain ⟨X, hXd, hX4, hXs⟩ : ∃ X : Fr, { fS l with ln := ((Pl.wSet l).length : Int) } = X ∧ X.ty = 4 ∧ X.set = l := ⟨_, rfl, rfl, rfl⟩
  rw [hLd] at hby hbs hll hon
  rw [hXd] at hon
  have HBY := Lib.hid hby
  have HBS := Lib.hid hbs
  have HLL := Lib.hid hll
  have HON := Lib.hid hon
  have HX4 := Lib.hid hX4
  have HXS := Lib.hid hXs
  clear hby hbs hll hon hLd hXd hX4 hXs hwl
  go_enter Tryd.func6, Tryd.ntmps6
  go_wp2_with (first
    | (refine wpList_store_blk rfl 35 _ _ rfl w.heap.size rfl (fSc (.slice sa l.length sc)) _ rfl 35 (blk_new _ _) rfl infoFs (by simp [Value.oneCell']) ?_; intro w1 hb1 k1;
       have B1 : Below w.heap.size w w1 := (((Kept.refl (· < w.heap.size) w).alloc _).trans (k1.mono fun k h _ => Nat.ne_of_lt h)).below (Nat.le_refl _))
    | (refine wpList_load_blk rfl 35 _ rfl w.heap.size rfl (fSc (.slice sa l.length sc)) 35 hb1 Tryd.underlying35 infoFs ?_))
  refine (legal_set (HS.out.below B1) HU.out).mono ?_
  rintro e w2 ⟨q, rfl, hq, b2⟩
  have B2 := stepD B1 b2
  have hb2 := blk_below hb1 b2
  cases q with
  | false =>
    go_wp2
    go_ret
    exact ⟨rfl, B2⟩
  | true =>
    have hok := hq rfl
    have HOK := Lib.hid hok
    clear hq hok
    go_wp2_with (refine wpList_load_blk rfl 35 _ rfl w.heap.size rfl (fSc (.slice sa l.length sc)) 35 hb2 Tryd.underlying35 infoFs ?_)
    refine (HBY.out w2 B2 HOK.out).mono ?_
    rintro e w3 ⟨v3, rfl, b3, o3, f3⟩
    have B3 := stepD B2 b3
    have hL : RdB w3 v3 L := rd_of_row o3
    have hdu := duplicates_any (hV.below B3) (Nat.le_trans hB B3.size) hL (HBS.out HOK.out) (HLL.out HOK.out) (HON.out HOK.out) HX4.out (by rw [HXS.out]; have := HOK.out.2; omega)
    rw [HXS.out] at hdu
    have HDU := Lib.hid hdu
    obtain ⟨a3, c3, rfl, -, -⟩ := own_shape o3
    clear hL hdu o3 f3
    go_wp2_with fail
    refine HDU.out.mono ?_
    rintro e w4 ⟨r, rfl, hr, b4⟩
    have B4 := stepD B3 b4
    have htw := twice_any (HS.out.below B4)
    have HTW := Lib.hid htw
    have HR := Lib.hid hr
    clear htw hr
    go_upto_region 7 with (fail)
    go_wp2_with (first
      | (go_at_call 22; refine HTW.out.mono ?_; rintro e w5 ⟨r2, rfl, hr2, b5⟩; have B5 := stepD B4 b5; have heq : (r == r2) = true := dup_same HR.out hr2; have htt := Lib.hid (twice_yes (hV.below B5) (Nat.le_trans hB B5.size)); clear hr2)
      | (go_at_call 23; refine htt.out.mono ?_; rintro e w6 ⟨rfl, b6⟩))
    go_ret
    exact ⟨rfl, stepD B5 b6⟩
end Go.Proofs.YtfdlbjibninakaaDoor
