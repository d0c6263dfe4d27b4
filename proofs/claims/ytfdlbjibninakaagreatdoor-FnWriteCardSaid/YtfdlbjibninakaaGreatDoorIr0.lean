/- impl.Read: what stands ahead of the loop, and what a round leaves. -/
import Derived.Test.YtfdlbjibninakaaGreatDoorIpA
import Derived.Test.YtfdlbjibninakaaGreatDoorWs
import Derived.Test.YtfdlbjibninakaaGreatDoorRs
set_option linter.unusedVariables false
set_option linter.unusedSimpArgs false
namespace Go.Proofs.YtfdlbjibninakaaGreatDoor
open Go.RowKit
theorem GV.mono {B B' : Nat} {w : World} {aE aU aT : Addr} (h : GV B w aE aU aT) (hB : B ≤ B') : GV B' w aE aU aT :=
  ⟨h.e, h.u, h.t, h.et, h.be, h.bu, h.bt, h.eu, h.et', h.ut, Nat.le_trans h.ge hB, Nat.lt_of_lt_of_le h.le hB, Nat.lt_of_lt_of_le h.lu hB, Nat.lt_of_lt_of_le h.lt hB⟩
theorem FrV.below {A : Nat} {w w' : World} {fv : Value} {x : Fr} (h : FrV A w fv x) (hk : Below w.heap.size w w') : FrV A w' fv x := by
  cases h with
  | data h b p v hB hp hv => exact .data h b p v hB (blk_below hp hk) (hv.below hk)
  | headers h b p v dep wt ex hB hp hv => exact .headers h b p v dep wt ex hB (blk_below hp hk) (hv.below hk)
  | priority h p dep wt ex hB hp => exact .priority h p dep wt ex hB (blk_below hp hk)
  | rst h p co hB hp => exact .rst h p co hB (blk_below hp hk)
  | settings h b p v hB hp hv h6 hbs => exact .settings h b p v hB (blk_below hp hk) (hv.below hk) h6 hbs
  | push h b p v pr hB hp hv => exact .push h b p v pr hB (blk_below hp hk) (hv.below hk)
  | ping h b p cs hB hp hz h0 h1 h2 h3 h4 hd hl => exact .ping h b p cs hB (blk_below hp hk) hz h0 h1 h2 h3 h4 hd hl
  | goaway h b p v la co hB hp hv => exact .goaway h b p v la co hB (blk_below hp hk) (hv.below hk)
  | window h p inc hB hp => exact .window h p inc hB (blk_below hp hk)
  | cont h b p v hB hp hv => exact .cont h b p v hB (blk_below hp hk) (hv.below hk)
  | update h b p pr hB hp hl hbs => exact .update h b p pr hB (blk_below hp hk) hl hbs
  | unknown h b p v hB hp hv => exact .unknown h b p v hB (blk_below hp hk) (hv.below hk)
section
variable {B : Nat} {K : Nat → Prop} {aE aU aT : Addr} {w w' : World} {bF cl bR : Nat} {m o : Int} {L ps : List Int} {cs : Array Value} {lf rb rest pcs : Value} {at' : Nat}
/-- The state behind what keeps her blocks; what has been made since is kept from now on. -/
theorem RSt.after (h : RSt B K aE aU aT w bF cl bR m o L ps cs lf rb rest pcs at') (hk : Kept (fun k => k < B ∨ ¬ K k) w w') : RSt B (fun k => K k ∨ (w.heap.size ≤ k ∧ k < w'.heap.size)) aE aU aT w' bF cl bR m o L ps cs lf rb rest pcs at' := by
  have hb : Kept (· < B) w w' := hk.mono fun k h _ => .inl h
  have hs := hk.size
  have lF := lt_of_block h.F
  have lC := lt_of_block h.C
  have lR := lt_of_block h.R.R
  have nn : ∀ {k}, ¬ K k → k < w.heap.size → ¬ (K k ∨ (w.heap.size ≤ k ∧ k < w'.heap.size)) := fun h1 h2 h => h.elim h1 (fun h => by omega)
  refine ⟨h.V.kept hb (fun k hk => hk), hk.at (.inr h.kF) h.F, h.fs, hk.at (.inr h.kC) h.C, ⟨hk.at (.inr h.kR) h.R.R, h.R.rest.kept hb h.rk0, h.R.pcs.kept hb h.pk0, h.R.lim⟩, h.lim, h.bs, h.rk0, h.pk0, ?_, ?_, nn h.kF lF, nn h.kC lC, nn h.kR lR, ?_, fun k hk => .inl (h.gl k hk), h.o0, h.m0, h.m1⟩
  · rcases h.rb with e | ⟨g, n, cap, bc, e, h1, h2, h3, h4, h5⟩
    · exact .inl e
    · exact .inr ⟨g, n, cap, bc, e, hk.at (.inr h5) h1, h2, h3, h4, nn h5 (lt_of_block h1)⟩
  · rcases h.lf with e | ⟨T, p, c, t, v, e, h1, h2, h3, h4, h5⟩
    · exact .inl e
    · exact .inr ⟨T, p, c, t, v, e, h1, hk.at (.inr h5) h2, h3, h4, nn h5 (lt_of_block h2)⟩
  · intro k hk'
    rcases hk' with h1 | h1
    · have := h.lt k h1; omega
    · exact h1.2
end
theorem rdI_lt {k : IntKind} {w : World} {v : Value} {l : List Int} (h : RdI k w v l) : inK (· < w.heap.size) v := by
  obtain ⟨a, c, rfl, -, -, h3⟩ := h
  cases a with
  | none => trivial
  | some a =>
    cases l with
    | nil => exact .inl rfl
    | cons y l =>
      obtain ⟨b, o, e, hc⟩ := h3 0 y rfl
      cases e
      exact .inr (World.block_lt_of_cell? _ _ hc)
theorem rdP_lt {w : World} {v : Value} {l : List (Int × Int)} (h : RdP w v l) : inK (· < w.heap.size) v := by
  obtain ⟨a, c, rfl, -, -, h3⟩ := h
  cases a with
  | none => trivial
  | some a =>
    cases l with
    | nil => exact .inl rfl
    | cons y l =>
      obtain ⟨b, o, e, hc, -⟩ := h3 0 y rfl
      cases e
      exact .inr (World.block_lt_of_cell? _ _ hc)
theorem inK.and {K K' : Nat → Prop} {v : Value} (h : inK K v) (g : inK K' v) : inK (fun k => K k ∧ K' k) v := by
  cases v with
  | slice a n c => cases a with
    | none => trivial
    | some a => exact h.elim .inl fun h => g.elim .inl fun g => .inr ⟨h, g⟩
  | _ => trivial
/-- A framer that reads, anew: her cells. -/
def framerR (cl bR : Nat) (m : Int) : Array Value :=
  #[.iface 69 (.pointer (some ⟨bR, 0, none⟩)), .nilIface, .nilIface, .func (.func 44) #[] #[], .int .u32 0, .int .u8 0, .int .u32 m,
    .int .u8 0, .int .u8 0, .int .u8 0, .int .u8 0, .int .u8 0, .int .u8 0, .int .u8 0, .int .u8 0, .int .u8 0,
    .func (.func 45) #[] #[.pointer (some ⟨cl, 0, none⟩)], .slice none 0 0, .int .u32 0, .nilIface, .slice none 0 0, .bool false, .bool false, .pointer none]
theorem framerR_fs (cl bR : Nat) (m : Int) : FS (framerR cl bR m) cl bR .nilIface 0 m (.slice none 0 0) := ⟨rfl, rfl, rfl, rfl, rfl, rfl, rfl, rfl, rfl, rfl⟩
set_option maxRecDepth 10000 in
set_option maxHeartbeats 4000000 in
theorem newFramer_r (bR : Nat) (w : World) :
    Calls Tryz.prog 26 #[.nilIface, .iface 69 (.pointer (some ⟨bR, 0, none⟩))] w fun e w' => e = .returned (.pointer (some ⟨w.heap.size, 0, none⟩)) ∧
      ((w.alloc (.cells (framerR (w.heap.size + 1) bR 16777215) 86)).alloc (.cells #[.pointer (some ⟨w.heap.size, 0, none⟩)] 67)) = w' := by
  go_enter Tryz.func26, Tryz.ntmps26
  go_wp2_with (go_at_call 27; refine (setMax_any _ 0 _ _ (by omega) (by omega) (by simp) (by simp)).mono ?_; rintro e w' ⟨rfl, rfl⟩)
  go_ret
  exact ⟨rfl, rfl⟩
def NewFr (w : World) (n bR : Nat) (e : Ending) (w' : World) : Prop := e = .returned (.pointer (some ⟨n, 0, none⟩)) ∧ w'.heap[n]? = some (.cells (framerR (n + 1) bR 16777215) 86 (0, 0)) ∧
  w'.heap[n + 1]? = some (.cells #[.pointer (some ⟨n, 0, none⟩)] 67 (0, 0)) ∧ Below n w w'
theorem newFramer_o (bR n : Nat) (w : World) (hn : w.heap.size = n) : Calls Tryz.prog 26 #[.nilIface, .iface 69 (.pointer (some ⟨bR, 0, none⟩))] w (NewFr w n bR) := by
  subst hn
  refine (newFramer_r bR w).mono ?_
  rintro e w' ⟨rfl, rfl⟩
  exact ⟨rfl, blk_alloc (blk_new w _), blk_at _ _ (by simp), (((Kept.refl (· < w.heap.size) w).alloc _).alloc _).below (Nat.le_refl _)⟩
/-- The state of a framer that reads, anew. -/
theorem RSt.new {B : Nat} {aE aU aT : Addr} {w W : World} {m : Int} {L ps : List Int} {data pcs : Value} (hV : GV B w aE aU aT) (hB : B ≤ w.heap.size) (hd : RdB w data L) (hp : RdI .i64 w pcs ps) (bs : Bs L) (lim : L.length ≤ 1000000000000) (hk : Kept (· < w.heap.size) w W)
    (hR : W.heap[w.heap.size]? = some (.cells #[data, pcs, .int .i64 0] 71 (0, 0))) (hF : W.heap[w.heap.size + 1]? = some (.cells (framerR (w.heap.size + 2) w.heap.size m) 86 (0, 0)))
    (hC : W.heap[w.heap.size + 2]? = some (.cells #[.pointer (some ⟨w.heap.size + 1, 0, none⟩)] 67 (0, 0))) (m0 : 0 ≤ m) (m1 : m ≤ 16777215) :
    RSt w.heap.size (· < w.heap.size) aE aU aT W (w.heap.size + 1) (w.heap.size + 2) w.heap.size m 0 L ps (framerR (w.heap.size + 2) w.heap.size m) .nilIface (.slice none 0 0) data pcs 0 :=
  ⟨(hV.mono hB).kept hk (fun _ h => h), hF, framerR_fs _ _ _, hC, ⟨hR, hd.kept hk (rdI_lt hd), hp.kept hk (rdI_lt hp), by omega⟩, by omega, bs, rdI_lt hd, rdI_lt hp, .inl rfl, .inl rfl, by omega, by omega, by omega, fun k h => Nat.lt_of_lt_of_le h hk.size, fun _ h => h, by omega, m0, m1⟩
theorem ERi : Elem Tryz.prog 34 65 17 128 (.agg (rsC 0 0 0 (frX Fr.zero (.slice none 0 0) (.slice none 0 0)))) := ⟨Tryz.underlying34, by kernel_rfl, rfl, by decide⟩
theorem fold17 {fr : Array Value} (hsz : fr.size = 17) (z : Array Value) (hz : z.size = 17) : Array.foldl (fun (cs : Array Value) (x : Value × Nat) => cs.setIfInBounds x.snd x.fst) z (fr.zipIdx 0) 0 17 = fr := by
  apply Array.toList_inj.1
  obtain ⟨l⟩ := fr
  obtain ⟨k⟩ := z
  match l, k, hsz, hz with
  | [c0, c1, c2, c3, c4, c5, c6, c7, c8, c9, c10, c11, c12, c13, c14, c15, c16], [d0, d1, d2, d3, d4, d5, d6, d7, d8, d9, d10, d11, d12, d13, d14, d15, d16], _, _ => simp
/-- What the loop of impl.Read has at its head. -/
def IrHead (w : World) (aE aU aT : Addr) (m : Int) (L0 ps : List Int) (pcs : Value) (k : Nat) (out : Value) (wr : World) : Prop :=
  ∃ K o L cs lf rb rest at' rs xs, k = L.length ∧ RSt w.heap.size K aE aU aT wr (w.heap.size + 1) (w.heap.size + 2) w.heap.size m o L ps cs lf rb rest pcs at' ∧ Row wr 65 17 out rs.length xs ∧ RsAll (fun j => K j ∧ out.ownBlock ≠ some j) wr xs rs ∧
    (∀ j, out.ownBlock = some j → K j ∧ w.heap.size ≤ j) ∧ Below w.heap.size w wr ∧ readAll m 0 L0 = rs ++ readAll m o L ∧ rs.length + L.length ≤ L0.length
/-- One result more. -/
theorem ir_step {w wr w1 w5 w7 : World} {K : Nat → Prop} {ob : Obj} {out out' : Value} {rs : List Rs} {xs : List Value} {r : Rs} {dv sv : Value} (hK : ∀ k, K k → k < wr.heap.size) (hg : ∀ k, k < w.heap.size → K k) (hk1 : Kept K wr w1) (B15 : Below w1.heap.size w1 w5)
    (ha : RsAll (fun j => K j ∧ out.ownBlock ≠ some j) wr xs rs) (hoK : ∀ j, out.ownBlock = some j → K j ∧ w.heap.size ≤ j) (hbel : Below w.heap.size w wr) (hgrow : (w5.alloc ob).grownBy w7 out.ownBlock)
    (hown : Row w7 65 17 out' (rs.length + 1) (xs ++ (rsX r dv sv).toList)) (hat : out'.ownBlock = out.ownBlock ∨ out'.ownBlock = some (w5.alloc ob).heap.size)
    (hd : RdB w5 dv r.x.data) (fd : inK (w1.heap.size ≤ ·) dv) (hs : RdP w5 sv r.x.set) (fs : inK (w1.heap.size ≤ ·) sv) :
    Row w7 65 17 out' (rs ++ [r]).length (xs ++ (rsX r dv sv).toList) ∧ RsAll (fun j => (K j ∨ (w1.heap.size ≤ j ∧ j < w7.heap.size)) ∧ out'.ownBlock ≠ some j) w7 (xs ++ (rsX r dv sv).toList) (rs ++ [r]) ∧
      (∀ j, out'.ownBlock = some j → (K j ∨ (w1.heap.size ≤ j ∧ j < w7.heap.size)) ∧ w.heap.size ≤ j) ∧ Below w.heap.size w w7 ∧ Kept (fun k => k < w.heap.size ∨ ¬ K k) w1 w7 := by
  have s1 := hk1.size
  have s5 := B15.size
  have s7 := hgrow.size
  have s0 := hbel.size
  have sa : (w5.alloc ob).heap.size = w5.heap.size + 1 := by simp
  rw [sa] at s7 hat
  have hob : ∀ j, out.ownBlock = some j → j < wr.heap.size := fun j e => hK j (hoK j e).1
  have k57 : ∀ {J : Nat → Prop}, (∀ k, out.ownBlock = some k → J k → False) → Kept J w5 w7 := fun {J} hJ => ((Kept.refl J w5).alloc ob).grown hgrow (fun k e h => (hJ k e h).elim)
  have k17 : ∀ {J : Nat → Prop}, (∀ k, out.ownBlock = some k → J k → False) → Kept J w1 w7 := fun {J} hJ => (Kept.all B15).trans (k57 hJ)
  refine ⟨by rw [List.length_append]; exact hown, ?_, ?_, ?_, ?_⟩
  · have ne' : ∀ k, k < w5.heap.size → out.ownBlock ≠ some k → out'.ownBlock ≠ some k := by
      intro k hk hne e
      rcases hat with h | h
      · exact hne (h.symm.trans e)
      · rw [h] at e; cases e; omega
    refine RsAll.snoc ?_ (hd.kept (k57 (J := (w1.heap.size ≤ ·)) fun k e h => by have := hob k e; omega) fd) ?_ (hs.kept (k57 (J := (w1.heap.size ≤ ·)) fun k e h => by have := hob k e; omega) fs) ?_
    · refine (((ha.kept (hk1.mono fun k h _ => h.1)).stay B15).kept (k57 fun k e h => h.2 e)).mono fun k h => ⟨.inl h.1, ne' k (by have := hK k h.1; omega) h.2⟩
    · exact (inK.and fd (rdI_lt hd)).mono' fun k h => ⟨.inr ⟨h.1, by omega⟩, ne' k h.2 fun e => by have := hob k e; omega⟩
    · exact (inK.and fs (rdP_lt hs)).mono' fun k h => ⟨.inr ⟨h.1, by omega⟩, ne' k h.2 fun e => by have := hob k e; omega⟩
  · intro j e
    rcases hat with h | h
    · exact ⟨.inl (hoK j (h.symm.trans e)).1, (hoK j (h.symm.trans e)).2⟩
    · have hlt := own_lt hown j e
      rw [h] at e
      cases e
      exact ⟨.inr ⟨by omega, hlt⟩, by omega⟩
  · exact (Kept.ofBelow hbel).trans ((hk1.mono fun k h _ => hg k h).trans (k17 fun k e h => by have := (hoK k e).2; omega)) |>.below (Nat.le_refl _)
  · exact k17 fun k e h => h.elim (fun h => by have := (hoK k e).2; omega) (fun h => h (hoK k e).1)
theorem rs_join (x : Fr) (dv sv : Value) : ((rsX (.bad 0 0 0) (.slice none 0 0) (.slice none 0 0)).toList.take 3 ++ (frX x dv sv).toList ++ (rsX (.bad 0 0 0) (.slice none 0 0) (.slice none 0 0)).toList.drop (3 + (frX x dv sv).size)).toArray = rsX (.ok x) dv sv := rfl
theorem readAll_snoc {m o : Int} {L0 L1 : List Int} {rs : List Rs} {r : Rs} (hall : readAll m 0 L0 = rs ++ readAll m o L1) {z : Rs × Int × List Int} (hz : one m o L1 = z) (hr : z.1 = r) (hg : r.going = true) : readAll m 0 L0 = (rs ++ [r]) ++ readAll m z.2.1 z.2.2 := by
  subst hz
  subst hr
  rw [hall, readAll_go hg, List.append_assoc, List.singleton_append]
theorem ir_next {w w1 w7 : World} {aE aU aT : Addr} {K : Nat → Prop} {m o2 : Int} {L0 L2 ps : List Int} {cs : Array Value} {lf rb rest pcs : Value} {at2 : Nat} {out' : Value} {rs : List Rs} {r : Rs} {xs : List Value}
    (hS : RSt w.heap.size K aE aU aT w1 (w.heap.size + 1) (w.heap.size + 2) w.heap.size m o2 L2 ps cs lf rb rest pcs at2)
    (st : Row w7 65 17 out' (rs ++ [r]).length xs ∧ RsAll (fun j => (K j ∨ (w1.heap.size ≤ j ∧ j < w7.heap.size)) ∧ out'.ownBlock ≠ some j) w7 xs (rs ++ [r]) ∧
      (∀ j, out'.ownBlock = some j → (K j ∨ (w1.heap.size ≤ j ∧ j < w7.heap.size)) ∧ w.heap.size ≤ j) ∧ Below w.heap.size w w7 ∧ Kept (fun k => k < w.heap.size ∨ ¬ K k) w1 w7)
    (he : readAll m 0 L0 = (rs ++ [r]) ++ readAll m o2 L2) (hl : (rs ++ [r]).length + L2.length ≤ L0.length) : IrHead w aE aU aT m L0 ps pcs L2.length out' w7 :=
  ⟨_, o2, L2, cs, lf, rb, rest, at2, rs ++ [r], xs, rfl, hS.after st.2.2.2.2, st.1, st.2.1, st.2.2.1, st.2.2.2.1, he, hl⟩
end Go.Proofs.YtfdlbjibninakaaGreatDoor
