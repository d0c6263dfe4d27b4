/- Reading: the nine bytes of a frame's header. -/
import Derived.Test.YtfdlbjibninakaaGreatDoorFrm
set_option linter.unusedVariables false
set_option linter.unusedSimpArgs false
namespace Go.Proofs.YtfdlbjibninakaaGreatDoor
open Go.RowKit

/-- Two results, the first in a memory cell. -/
theorem ret_blk2 {P : Program} {fn : Func} {R : Ending → World → Prop} {a : Act} {w : World} {p u : Tmp} {T : TypeId} (h : fn.results = #[.cell p T, .tmp u]) (g : Nat) (t : TypeId) (cs : Array Value) {fs : Array Field}
    (hp : a.tmps.getD p undef = .pointer (some ⟨g, 0, none⟩)) (hg : w.heap[g]? = some (.cells cs t (0, 0))) (hu : P.underlying T = some (.struct fs)) (hi : (P.info? T).map (·.size) = some cs.size) (hd : a.defers = [])
    (hR : R (.returned (.tuple #[.agg cs, a.tmps.getD u undef])) w) : bodyPost P fn R .ret a w := by
  refine bodyPost_ret ?_ hd hR
  have hp' : a.tmps[p]?.getD undef = .pointer (some ⟨g, 0, none⟩) := by simpa using hp
  simp [results, h, hp', asAddr, run_loadVar_row w g t T cs (0, 0) _ hg hu rfl hi]
theorem blk_drh {w : World} {b : Nat} {o : Obj} (h : w.heap[b]? = some o) (n : Nat) : (w.drewN n).heap[b]? = some o := h
theorem blkEqh {w : World} {b : Nat} {cs cs' : Array Value} {t : TypeId} {fr : Nat × Nat} (h : w.heap[b]? = some (.cells cs t fr)) (e : cs = cs') : w.heap[b]? = some (.cells cs' t fr) := e ▸ h
theorem infoH : (Tryz.prog.info? 113).map (·.size) = some 5 := by kernel_rfl
theorem u32_or_add' (k : Nat) {a c : Int} (ha : 0 ≤ a) (ha1 : a < ((2 ^ k : Nat) : Int)) (hc : 0 ≤ c) (hs : c * ((2 ^ k : Nat) : Int) + a < 4294967296) : bits .or .u32 (c * ((2 ^ k : Nat) : Int)) a = c * ((2 ^ k : Nat) : Int) + a := by
  obtain ⟨a, rfl⟩ := Int.eq_ofNat_of_zero_le ha
  obtain ⟨c, rfl⟩ := Int.eq_ofNat_of_zero_le hc
  have hor := @Nat.two_pow_add_eq_or_of_lt k a (by omega) c
  generalize 2 ^ k = q at *
  have e : (c : Int) * (q : Int) = ((q * c : Nat) : Int) := by rw [Int.natCast_mul, Int.mul_comm]
  rw [e] at hs ⊢
  have := u32_or_nat (q * c) a (by omega) (by omega)
  rw [this, ← hor, Int.natCast_add]
/-- The error of data that end too early. -/
def CutErr (aE aU : Addr) (L : List Int) (ae : Addr) : Prop := ae = if L.length = 0 then aE else aU
/-- A zero header. -/
abbrev hdZ : Value := .agg #[.bool false, .int .u8 0, .int .u8 0, .int .u32 0, .int .u32 0]
/-- What reading into a row leaves, as to the world. -/
def RdEnd (w : World) (bR : Nat) (rest pcs : Value) (at' : Nat) (L ps : List Int) (g off n : Nat) (cs : Array Value) (t : TypeId) (w' : World) : Prop :=
  ∃ (at'' : Nat) (rest' : Value) (cs' : Array Value), RdS w' bR rest' pcs at'' (L.drop n) ps ∧ at'' + (L.drop n).length ≤ at' + L.length ∧ w'.heap[g]? = some (.cells cs' t (0, 0)) ∧ Filled cs off (L.take n) cs' ∧ Kept (fun b => b ≠ bR ∧ b ≠ g) w w' ∧ ∀ K, inK K rest → inK K rest'
theorem RdS.below {w w' : World} {bR : Nat} {rest pcs : Value} {at' : Nat} {L ps : List Int} (h : RdS w bR rest pcs at' L ps) (hb : Below w.heap.size w w') : RdS w' bR rest pcs at' L ps := ⟨blk_below h.R hb, h.rest.below hb, h.pcs.below hb, h.lim⟩
theorem RdEnd.from {w w1 w2 : World} {bR : Nat} {rest pcs : Value} {at' : Nat} {L ps : List Int} {g off n : Nat} {cs : Array Value} {t : TypeId} (h : RdEnd w1 bR rest pcs at' L ps g off n cs t w2) (hk : Kept (fun b => b ≠ bR ∧ b ≠ g) w w1) : RdEnd w bR rest pcs at' L ps g off n cs t w2 := by
  obtain ⟨a, r, c, h1, h2, h3, h4, h5, h6⟩ := h
  exact ⟨a, r, c, h1, h2, h3, h4, hk.trans h5, h6⟩
/-- The header's bytes have not come. -/
def HdCut (aE aU : Addr) (w : World) (bR : Nat) (rest pcs : Value) (at' : Nat) (L ps : List Int) (g off : Nat) (cs : Array Value) (t : TypeId) (e : Ending) (w' : World) : Prop :=
  (∃ ae, e = .returned (.tuple #[hdZ, .iface 251 (.pointer (some ae))]) ∧ CutErr aE aU L ae) ∧ RdEnd w bR rest pcs at' L ps g off 9 cs t w'
/-- The header has come. -/
def HdOk (w : World) (bR : Nat) (rest pcs : Value) (at' : Nat) (L ps : List Int) (g off : Nat) (cs : Array Value) (t : TypeId) (e : Ending) (w' : World) : Prop :=
  e = .returned (.tuple #[hdV (hdOf L).ty (hdOf L).fl (hdOf L).ln (hdOf L).st, .nilIface]) ∧ RdEnd w bR rest pcs at' L ps g off 9 cs t w'
/-- A store elsewhere, behind it. -/
theorem RdEnd.to {w w1 w2 : World} {bR : Nat} {rest pcs : Value} {at' : Nat} {L ps : List Int} {g off n : Nat} {cs : Array Value} {t : TypeId} (h : RdEnd w bR rest pcs at' L ps g off n cs t w1) {q : Nat} (hk : Kept (· ≠ q) w1 w2) (hq : w.heap.size ≤ q) (hR : bR < w.heap.size) (hg : g < w.heap.size) (hr : inK (· < w.heap.size) rest) (hp : inK (· < w.heap.size) pcs) :
    RdEnd w bR rest pcs at' L ps g off n cs t w2 := by
  obtain ⟨a, r, c, h1, h2, h3, h4, h5, h6⟩ := h
  have hK : Kept (· < w.heap.size) w1 w2 := hk.mono fun k h _ => by omega
  exact ⟨a, r, c, ⟨hK.at hR h1.R, h1.rest.kept hK (h6 _ hr), h1.pcs.kept hK hp, h1.lim⟩, h2, hK.at hg h3, h4, ⟨(hk.os).trans h5.os, hk.tape.trans h5.tape, hk.output.trans h5.output, Nat.le_trans h5.size hk.size, fun k k1 k2 => (hk.block k (by omega) (Nat.lt_of_lt_of_le k2 h5.size)).trans (h5.block k k1 k2)⟩, h6⟩
section
variable {B : Nat} {aE aU aT : Addr} {w : World} {bR : Nat} {rest pcs : Value} {at' : Nat} {L ps : List Int} {g off n cap : Nat} {cs : Array Value} {t : TypeId}
theorem readFull_ok (hV : GV B w aE aU aT) (h : RdS w bR rest pcs at' L ps) (hlim : at' + L.length ≤ 1000000000000) (hg : w.heap[g]? = some (.cells cs t (0, 0))) (hfit : off + n ≤ cs.size)
    (hn : 0 < n) (hnc : n ≤ cap) (hcm : cap ≤ maxLen) (hgR : g ≠ bR) (hKr : inK (fun b => b ≠ bR ∧ b ≠ g) rest) (hKp : inK (fun b => b ≠ bR ∧ b ≠ g) pcs) (hBR : B ≤ bR) (hBg : B ≤ g) (hL : n ≤ L.length) :
    Calls Tryz.prog 82 #[.iface 69 (.pointer (some ⟨bR, 0, none⟩)), .slice (some ⟨g, off, none⟩) n cap] w fun e w' => e = .returned (.tuple #[.int .i64 (n : Int), .nilIface]) ∧ RdEnd w bR rest pcs at' L ps g off n cs t w' := by
  refine (readFull_any hV h hlim g off n cap cs t hg hfit hn hnc hcm hgR hKr hKp hBR hBg).mono ?_
  rintro e w' ⟨a, r, c, k, ev, rfl, ⟨hk, hev⟩, h1⟩
  rw [if_pos hL] at hev
  rw [Nat.min_eq_left hL] at hk
  subst hk; subst hev
  exact ⟨rfl, a, r, c, h1⟩
theorem readFull_cut (hV : GV B w aE aU aT) (h : RdS w bR rest pcs at' L ps) (hlim : at' + L.length ≤ 1000000000000) (hg : w.heap[g]? = some (.cells cs t (0, 0))) (hfit : off + n ≤ cs.size)
    (hn : 0 < n) (hnc : n ≤ cap) (hcm : cap ≤ maxLen) (hgR : g ≠ bR) (hKr : inK (fun b => b ≠ bR ∧ b ≠ g) rest) (hKp : inK (fun b => b ≠ bR ∧ b ≠ g) pcs) (hBR : B ≤ bR) (hBg : B ≤ g) (hL : ¬ n ≤ L.length) :
    Calls Tryz.prog 82 #[.iface 69 (.pointer (some ⟨bR, 0, none⟩)), .slice (some ⟨g, off, none⟩) n cap] w fun e w' => (∃ ae, e = .returned (.tuple #[.int .i64 (L.length : Int), .iface 251 (.pointer (some ae))]) ∧ CutErr aE aU L ae) ∧ RdEnd w bR rest pcs at' L ps g off n cs t w' := by
  refine (readFull_any hV h hlim g off n cap cs t hg hfit hn hnc hcm hgR hKr hKp hBR hBg).mono ?_
  rintro e w' ⟨a, r, c, k, ev, rfl, ⟨hk, hev⟩, h1⟩
  rw [if_neg hL] at hev
  rw [Nat.min_eq_right (by omega)] at hk
  subst hk
  refine ⟨⟨if L.length = 0 then aE else aU, ?_, rfl⟩, a, r, c, h1⟩
  rw [hev]
  by_cases h0 : L.length = 0
  · simp only [if_pos h0]
  · simp only [if_neg h0]

set_option maxRecDepth 10000 in
set_option maxHeartbeats 8000000 in
theorem readFrameHeader_cut (hV : GV B w aE aU aT) (h : RdS w bR rest pcs at' L ps) (hlim : at' + L.length ≤ 1000000000000) (hg : w.heap[g]? = some (.cells cs t (0, 0))) (hfit : off + 9 ≤ cs.size) (hgR : g ≠ bR) (hKr : inK (fun b => b ≠ bR ∧ b ≠ g) rest) (hKp : inK (fun b => b ≠ bR ∧ b ≠ g) pcs) (hBR : B ≤ bR) (hBg : B ≤ g) (hrl : inK (· < w.heap.size) rest) (hpl : inK (· < w.heap.size) pcs) (hL : ¬ 9 ≤ L.length) :
    Calls Tryz.prog 79 #[.slice (some ⟨g, off, none⟩) 9 9, .iface 69 (.pointer (some ⟨bR, 0, none⟩))] w (HdCut aE aU w bR rest pcs at' L ps g off cs t) := by
  have bW : Below w.heap.size w (w.alloc (.cells #[.bool false, .int .u8 0, .int .u8 0, .int .u32 0, .int .u32 0] 113)) := (((K0 w).alloc _).below (Nat.le_refl _))
  have kW : Kept (fun b => b ≠ bR ∧ b ≠ g) w (w.alloc (.cells #[.bool false, .int .u8 0, .int .u8 0, .int .u32 0, .int .u32 0] 113)) := (Kept.refl _ w).alloc _
  have hgl := lt_of_block hg
  have hRl := lt_of_block h.R
  have hrf := readFull_cut (hV.below bW) (h.below bW) hlim (blk_below hg bW) hfit (by omega) (Nat.le_refl _) (by unfold maxLen; omega) hgR hKr hKp hBR hBg hL
  have bz := blk_new w (.cells #[.bool false, .int .u8 0, .int .u8 0, .int .u32 0, .int .u32 0] 113)
  clear hV h hKr hKp hg
  go_enter Tryz.func79, Tryz.ntmps79
  go_wp2_with (first
    | (go_at_call 82; refine hrf.mono ?_; rintro e w1 ⟨⟨ae, rfl, hae⟩, hend⟩; have b1 : w1.heap[w.heap.size]? = _ := (hend.choose_spec.choose_spec.choose_spec.2.2.2.2.1).at (show w.heap.size ≠ bR ∧ w.heap.size ≠ g from ⟨by omega, by omega⟩) bz)
    | (refine wpList_store_blk rfl _ _ _ rfl w.heap.size rfl _ _ rfl 113 b1 rfl infoH (by simp [Value.oneCell']) ?_; intro w2 b2 k2))
  refine ret_blk2 rfl w.heap.size _ _ rfl b2 Tryz.underlying113 infoH rfl ⟨⟨ae, rfl, hae⟩, ?_⟩
  exact (hend.from kW).to k2 (Nat.le_refl _) hRl hgl hrl hpl

set_option maxRecDepth 10000 in
set_option maxHeartbeats 8000000 in
theorem readFrameHeader_ok (hV : GV B w aE aU aT) (h : RdS w bR rest pcs at' L ps) (hb : Bs L) (hlim : at' + L.length ≤ 1000000000000) (hg : w.heap[g]? = some (.cells cs t (0, 0))) (hfit : off + 9 ≤ cs.size) (hgR : g ≠ bR) (hKr : inK (fun b => b ≠ bR ∧ b ≠ g) rest) (hKp : inK (fun b => b ≠ bR ∧ b ≠ g) pcs) (hBR : B ≤ bR) (hBg : B ≤ g) (hrl : inK (· < w.heap.size) rest) (hpl : inK (· < w.heap.size) pcs) (hL : 9 ≤ L.length) :
    Calls Tryz.prog 79 #[.slice (some ⟨g, off, none⟩) 9 9, .iface 69 (.pointer (some ⟨bR, 0, none⟩))] w (HdOk w bR rest pcs at' L ps g off cs t) := by
  have bW : Below w.heap.size w (w.alloc (.cells #[.bool false, .int .u8 0, .int .u8 0, .int .u32 0, .int .u32 0] 113)) := (((K0 w).alloc _).below (Nat.le_refl _))
  have kW : Kept (fun b => b ≠ bR ∧ b ≠ g) w (w.alloc (.cells #[.bool false, .int .u8 0, .int .u8 0, .int .u32 0, .int .u32 0] 113)) := (Kept.refl _ w).alloc _
  have hgl := lt_of_block hg
  have hRl := lt_of_block h.R
  have hrf := readFull_ok (hV.below bW) (h.below bW) hlim (blk_below hg bW) hfit (by omega) (Nat.le_refl _) (by unfold maxLen; omega) hgR hKr hKp hBR hBg hL
  have bz := blk_new w (.cells #[.bool false, .int .u8 0, .int .u8 0, .int .u32 0, .int .u32 0] 113)
  clear hV h hKr hKp hg
  go_enter Tryz.func79, Tryz.ntmps79
  go_wp2_with (go_at_call 82; refine hrf.mono ?_; rintro e w1 ⟨rfl, hend⟩)
  have b1 : w1.heap[w.heap.size]? = _ := (hend.choose_spec.choose_spec.choose_spec.2.2.2.2.1).at (show w.heap.size ≠ bR ∧ w.heap.size ≠ g from ⟨by omega, by omega⟩) bz
  obtain ⟨cs2, hg1, hfil⟩ : ∃ cs2, w1.heap[g]? = some (.cells cs2 t (0, 0)) ∧ Filled cs off (L.take 9) cs2 := ⟨_, hend.choose_spec.choose_spec.choose_spec.2.2.1, hend.choose_spec.choose_spec.choose_spec.2.2.2.1⟩
  have hz1 : w.heap.size < w1.heap.size := lt_of_block b1
  have hj : ∀ j, j < 9 → w1.cell? ⟨g, off + j, none⟩ = some (.int .u8 (gb L j)) := fun j hj => by
    have e : (L.take 9)[j]? = some (gb L j) := by
      rw [List.getElem?_take_of_lt hj, List.getElem?_eq_getElem (show j < L.length by omega)]
      unfold gb
      rw [List.getD_eq_getElem?_getD, List.getElem?_eq_getElem (show j < L.length by omega)]
      rfl
    exact (blk_cell hg1 _).trans (hfil.at' j _ e)
  have k0 : w1.cell? ⟨g, off, none⟩ = some (.int .u8 (gb L 0)) := hj 0 (by omega)
  have k1 := hj 1 (by omega)
  have k2 := hj 2 (by omega)
  have k3 := hj 3 (by omega)
  have k4 := hj 4 (by omega)
  have hrd : RdB w1 (.slice (some ⟨g, off + 5, none⟩) 4 4) ((L.take 9).drop 5) := by
    have hl : ((L.take 9).drop 5).length = 4 := by rw [List.length_drop, List.length_take]; omega
    refine ⟨_, _, by rw [hl], by rw [hl]; exact Nat.le_refl _, by unfold maxLen; omega, fun j x hx => ⟨g, off + 5, rfl, ?_⟩⟩
    rw [List.getElem?_drop] at hx
    rw [show off + 5 + j = off + (5 + j) by omega]
    exact (blk_cell hg1 _).trans (hfil.at' _ x hx)
  have hu : Calls Tryz.prog 107 #[.agg #[], .slice (some ⟨g, off + 5, none⟩) 4 4] w1.drew fun e w' => e = .returned (.int .u32 (n32 L 5)) ∧ ∃ n, (w1.drew.alloc (.cells #[] 231)).drewN n = w' := by
    have := uint32_any (w := w1.drew) hrd ((hb.take 9).drop 5) (by rw [List.length_drop, List.length_take]; omega)
    rwa [n32_drop, show n32 (L.take 9) 5 = n32 L 5 from by
      unfold n32 gb
      simp only [List.getD_eq_getElem?_getD]
      rw [List.getElem?_take_of_lt (by omega), List.getElem?_take_of_lt (by omega), List.getElem?_take_of_lt (by omega), List.getElem?_take_of_lt (by omega)]] at this
  have hs5 : ∀ w, (Instr.slice 22 (.slice (some ⟨g, off, none⟩) 9 9) (some (.int .i64 5)) none none).run Tryz.prog w = .ok (.slice (some ⟨g, off + 5, none⟩) 4 4) w := fun w => run_dropA (n := 5) E5.sl E5s (by omega) w
  have hv := n32_bounds hb 5
  have hand := u32_low (n32 L 5) hv.1 hv.2
  have g0 := hb.at 0
  have g1 := hb.at 1
  have g2 := hb.at 2
  have elen : (hdOf L).ln = gb L 0 * 65536 + gb L 1 * 256 + gb L 2 := rfl
  have est : (hdOf L).st = n32 L 5 % 2147483648 := rfl
  have ety : (hdOf L).ty = gb L 3 := rfl
  have efl : (hdOf L).fl = gb L 4 := rfl
  obtain ⟨x0, e0⟩ : ∃ x, gb L 0 = x := ⟨_, rfl⟩
  obtain ⟨x1, e1⟩ : ∃ x, gb L 1 = x := ⟨_, rfl⟩
  obtain ⟨x2, e2⟩ : ∃ x, gb L 2 = x := ⟨_, rfl⟩
  obtain ⟨x3, e3⟩ : ∃ x, gb L 3 = x := ⟨_, rfl⟩
  obtain ⟨x4, e4⟩ : ∃ x, gb L 4 = x := ⟨_, rfl⟩
  obtain ⟨v, ev⟩ : ∃ x, n32 L 5 = x := ⟨_, rfl⟩
  obtain ⟨y, ey⟩ : ∃ x, v % 2147483648 = x := ⟨_, rfl⟩
  rw [e0] at k0 g0 elen
  rw [e1] at k1 g1 elen
  rw [e2] at k2 g2 elen
  rw [e3] at k3 ety
  rw [e4] at k4 efl
  rw [ev] at hu hand est
  rw [ey] at hand est
  have hret : hdV (hdOf L).ty (hdOf L).fl (hdOf L).ln (hdOf L).st = hdV x3 x4 (x0 * 65536 + x1 * 256 + x2) y := by unfold hdV; rw [ety, efl, elen, est]
  have HR := Lib.hid hret
  have wr0 := wrap_u32 g0.1 (by omega)
  have wr1 := wrap_u32 g1.1 (by omega)
  have wr2 := wrap_u32 g2.1 (by omega)
  have wr3 : IntKind.u32.wrap (x0 * 65536) = x0 * 65536 := wrap_u32 (by omega) (by omega)
  have wr4 : IntKind.u32.wrap (x1 * 256) = x1 * 256 := wrap_u32 (by omega) (by omega)
  have o1 : bits .or .u32 (x0 * 65536) (x1 * 256) = x0 * 65536 + x1 * 256 := u32_or_add' 16 (by omega) (by simp; omega) g0.1 (by simp; omega)
  have o2 : bits .or .u32 (x0 * 65536 + x1 * 256) x2 = x0 * 65536 + x1 * 256 + x2 := by
    rw [show x0 * 65536 + x1 * 256 = (x0 * 256 + x1) * ((2 ^ 8 : Nat) : Int) by simp; omega]
    exact u32_or_add' 8 g2.1 (by simp; omega) (by omega) (by simp; omega)
  have c0 : ∀ j, j < 5 → (w1.alloc (.cells #[] 231)).cell? ⟨w.heap.size, j, none⟩ = (#[Value.bool false, .int .u8 0, .int .u8 0, .int .u32 0, .int .u32 0] : Array Value)[j]? := fun j _ => blk_cell (blk_alloc b1) j
  have f0 : ∀ j, (w1.alloc (.cells #[] 231)).frozen? ⟨w.heap.size, j, none⟩ = false := fun j => blk_free (blk_alloc b1) j
  have q0 : (w1.alloc (.cells #[] 231)).cell? ⟨w.heap.size, 0, none⟩ = some (.bool false) := c0 0 (by omega)
  have q1 : (w1.alloc (.cells #[] 231)).cell? ⟨w.heap.size, 1, none⟩ = some (.int .u8 0) := c0 1 (by omega)
  have q2 : (w1.alloc (.cells #[] 231)).cell? ⟨w.heap.size, 2, none⟩ = some (.int .u8 0) := c0 2 (by omega)
  have q3 : (w1.alloc (.cells #[] 231)).cell? ⟨w.heap.size, 3, none⟩ = some (.int .u32 0) := c0 3 (by omega)
  have q4 : (w1.alloc (.cells #[] 231)).cell? ⟨w.heap.size, 4, none⟩ = some (.int .u32 0) := c0 4 (by omega)
  have hne : ¬ g = w.heap.size := by omega
  have hne2 : ¬ w.heap.size = g := by omega
  clear c0 hj hret ety efl elen est e0 e1 e2 e3 e4 ev ey hrd hfil
  have HE := Lib.hid hend
  clear hend
  go_region_held3 (fun w' => w'.cell? ⟨g, off, none⟩ = some (.int .u8 x0) ∧ w'.cell? ⟨g, off + 1, none⟩ = some (.int .u8 x1) ∧ w'.cell? ⟨g, off + 2, none⟩ = some (.int .u8 x2) ∧ w'.cell? ⟨g, off + 3, none⟩ = some (.int .u8 x3) ∧ w'.cell? ⟨g, off + 4, none⟩ = some (.int .u8 x4)) (go_keep)
    (first | (go_at_call 107; refine hu.mono ?_; rintro e w' ⟨rfl, nq, rfl⟩))
  all_goals
    go_wp2
    refine ret_blk2 rfl w.heap.size 113 #[.bool true, .int .u8 x3, .int .u8 x4, .int .u32 (x0 * 65536 + x1 * 256 + x2), .int .u32 y] rfl (by apply blkEqh; (iterate 24 (first | (with_reducible exact b1) | (with_reducible apply blk_set) | (with_reducible apply blk_drh) | (with_reducible apply blk_alloc) | skip)); rfl) Tryz.underlying113 infoH rfl ⟨?_, ?_⟩
    · rw [HR.out]; rfl
    · refine (HE.out.from kW).to (q := w.heap.size) ?_ (Nat.le_refl _) hRl hgl hrl hpl
      repeat (first | (with_reducible exact Kept.refl _ w1) | (with_reducible refine Kept.alloc ?_ _) | (with_reducible refine Kept.drawn ?_ _) | (with_reducible refine Kept.drew ?_) | (with_reducible refine Kept.setCell ?_ (by simp) _))
end
end Go.Proofs.YtfdlbjibninakaaGreatDoor
