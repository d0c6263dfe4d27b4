/- impl.Duplicates: whether the SETTINGS frame that bytes begin with has one identifier twice. -/
import Derived.Test.YtfdlbjibninakaaDoorQFrd
import Derived.Test.YtfdlbjibninakaaDoorQHdu
import Derived.Test.YtfdlbjibninakaaDoorQWs
import Derived.Outline
set_option linter.unusedVariables false
set_option linter.unusedSimpArgs false
namespace Go.Proofs.YtfdlbjibninakaaDoor
open Go.RowKit
theorem GV.mono {B B' : Nat} {w : World} {aE aU aT : Addr} (h : GV B w aE aU aT) (hB : B ≤ B') : GV B' w aE aU aT :=
  ⟨h.e, h.u, h.t, h.et, h.be, h.bu, h.bt, h.eu, h.et', h.ut, Nat.le_trans h.ge hB, Nat.lt_of_lt_of_le h.le hB, Nat.lt_of_lt_of_le h.lu hB, Nat.lt_of_lt_of_le h.lt hB⟩
theorem rdI_lt {k : IntKind} {w : World} {v : Value} {l : List Int} (h : RdI k w v l) : inK (· < w.heap.size) v := by
  obtain ⟨a, c, rfl, -, -, h3⟩ := h
  cases a with
  | none => trivial
  | some a =>
    cases l with
    | nil => exact .inl rfl
    | cons y l =>
      obtain ⟨b, o, e, hc⟩ := h3 0 y rfl
      cases e
      exact .inr (World.block_lt_of_cell? _ _ hc)
/-- A framer that reads, anew: her cells. -/
def framerR (cl bR : Nat) (m : Int) : Array Value :=
  #[.iface 105 (.pointer (some ⟨bR, 0, none⟩)), .nilIface, .nilIface, .func (.func 49) #[] #[], .int .u32 0, .int .u8 0, .int .u32 m,
    .int .u8 0, .int .u8 0, .int .u8 0, .int .u8 0, .int .u8 0, .int .u8 0, .int .u8 0, .int .u8 0, .int .u8 0,
    .func (.func 50) #[] #[.pointer (some ⟨cl, 0, none⟩)], .slice none 0 0, .int .u32 0, .nilIface, .slice none 0 0, .bool false, .bool false, .pointer none]
theorem framerR_fs (cl bR : Nat) (m : Int) : FS (framerR cl bR m) cl bR .nilIface 0 m (.slice none 0 0) := ⟨rfl, rfl, rfl, rfl, rfl, rfl, rfl, rfl, rfl, rfl⟩
set_option maxRecDepth 10000 in
set_option maxHeartbeats 4000000 in
theorem newFramer_r (bR : Nat) (w : World) :
    Calls Tryd.prog 31 #[.nilIface, .iface 105 (.pointer (some ⟨bR, 0, none⟩))] w fun e w' => e = .returned (.pointer (some ⟨w.heap.size, 0, none⟩)) ∧
      ((w.alloc (.cells (framerR (w.heap.size + 1) bR 16777215) 99)).alloc (.cells #[.pointer (some ⟨w.heap.size, 0, none⟩)] 76)) = w' := by
  go_enter Tryd.func31, Tryd.ntmps31
  go_wp2_with (go_at_call 43; refine (setMax_any _ 0 _ _ (by omega) (by omega) (by simp) (by simp)).mono ?_; rintro e w' ⟨rfl, rfl⟩)
  go_ret
  exact ⟨rfl, rfl⟩
def NewFr (w : World) (n bR : Nat) (e : Ending) (w' : World) : Prop := e = .returned (.pointer (some ⟨n, 0, none⟩)) ∧ w'.heap[n]? = some (.cells (framerR (n + 1) bR 16777215) 99 (0, 0)) ∧
  w'.heap[n + 1]? = some (.cells #[.pointer (some ⟨n, 0, none⟩)] 76 (0, 0)) ∧ Below n w w'
theorem newFramer_o (bR n : Nat) (w : World) (hn : w.heap.size = n) : Calls Tryd.prog 31 #[.nilIface, .iface 105 (.pointer (some ⟨bR, 0, none⟩))] w (NewFr w n bR) := by
  subst hn
  refine (newFramer_r bR w).mono ?_
  rintro e w' ⟨rfl, rfl⟩
  exact ⟨rfl, blk_alloc (blk_new w _), blk_at _ _ (by simp), (((Kept.refl (· < w.heap.size) w).alloc _).alloc _).below (Nat.le_refl _)⟩
/-- The state of a framer that reads, anew. -/
theorem RSt.new {B : Nat} {aE aU aT : Addr} {w W : World} {m : Int} {L ps : List Int} {data pcs : Value} (hV : GV B w aE aU aT) (hB : B ≤ w.heap.size) (hd : RdB w data L) (hp : RdI .i64 w pcs ps) (bs : Bs L) (lim : L.length ≤ 1000000000000) (hk : Kept (· < w.heap.size) w W)
    (hR : W.heap[w.heap.size]? = some (.cells #[data, pcs, .int .i64 0] 107 (0, 0))) (hF : W.heap[w.heap.size + 1]? = some (.cells (framerR (w.heap.size + 2) w.heap.size m) 99 (0, 0)))
    (hC : W.heap[w.heap.size + 2]? = some (.cells #[.pointer (some ⟨w.heap.size + 1, 0, none⟩)] 76 (0, 0))) (m0 : 0 ≤ m) (m1 : m ≤ 16777215) :
    RSt w.heap.size (· < w.heap.size) aE aU aT W (w.heap.size + 1) (w.heap.size + 2) w.heap.size m 0 L ps (framerR (w.heap.size + 2) w.heap.size m) .nilIface (.slice none 0 0) data pcs 0 :=
  ⟨(hV.mono hB).kept hk (fun _ h => h), hF, framerR_fs _ _ _, hC, ⟨hR, hd.kept hk (rdI_lt hd), hp.kept hk (rdI_lt hp), by omega⟩, by omega, bs, rdI_lt hd, rdI_lt hp, .inl rfl, .inl rfl, by omega, by omega, by omega, fun k h => Nat.lt_of_lt_of_le h hk.size, fun _ h => h, by omega, m0, m1⟩
theorem pairs_get : ∀ (N : Nat) (b : List Int) (k : Nat), k < N → (pairs N b)[k]? = some (n16 b (6 * k), n32 b (6 * k + 2))
  | 0, _, _, h => absurd h (Nat.not_lt_zero _)
  | N + 1, b, 0, _ => rfl
  | N + 1, b, k + 1, h => by
    show (pairs N (b.drop 6))[k]? = _
    rw [pairs_get N (b.drop 6) k (by omega)]
    have e1 : n16 (b.drop 6) (6 * k) = n16 b (6 * (k + 1)) := by rw [← n16_drop, List.drop_drop, n16_drop]; congr 1; omega
    have e2 : n32 (b.drop 6) (6 * k + 2) = n32 b (6 * (k + 1) + 2) := by rw [← n32_drop, List.drop_drop, n32_drop]; congr 1; omega
    rw [e1, e2]
theorem pairs_len2 : ∀ (N : Nat) (b : List Int), (pairs N b).length = N
  | 0, _ => rfl
  | N + 1, b => by rw [pairs, List.length_cons, pairs_len2]
/-- What is known of a frame's value that is a *SettingsFrame. -/
theorem frV_set {A : Nat} {w : World} {fv : Value} {x : Fr} (h : FrV A w fv x) (h4 : x.ty = 4) : ∃ p a c b, fv = .iface 109 (.pointer (some ⟨p, 0, none⟩)) ∧ w.cell? ⟨p, 5, none⟩ = some (.slice a b.length c) ∧ RdB w (.slice a b.length c) b ∧ Bs b ∧ b.length % 6 = 0 ∧ x.set = pairs (b.length / 6) b := by
  obtain ⟨p, hp⟩ := h.2 h4
  have h1 := h.1
  clear h
  cases h1 with
  | settings h b p' v hB hp' hv h6 hbs =>
    obtain ⟨a, c, rfl, -, -, -⟩ := id hv
    exact ⟨p', a, c, b, rfl, blk_cell hp' 5, hv, hbs, h6, rfl⟩
  | _ => exact absurd hp (by intro h; injection h with h1 h2; exact absurd h1 (by decide))
theorem ta_set (v : Value) (w : World) : (Instr.typeAssert (.iface 109 v) 91 109 true).run Tryd.prog w = .ok (.tuple #[v, .bool true]) w := by kernel_rfl
theorem rdNilD (w : World) : RdI .i64 w (.slice none 0 0) [] := ⟨none, 0, rfl, Nat.le_refl _, Nat.zero_le _, fun j x h => by simp at h⟩
/-- What impl.Duplicates leaves at a SETTINGS frame. -/
def DuEnd (w : World) (l : List Int) (e : Ending) (w' : World) : Prop := ∃ r : Bool, e = .returned (.tuple #[.bool r, .bool true]) ∧ (r = true ↔ Dup l) ∧ Below w.heap.size w w'
set_option maxRecDepth 10000 in
set_option maxHeartbeats 8000000 in
theorem duplicates_any {B : Nat} {aE aU aT : Addr} {w : World} {L rest : List Int} {o2 : Int} {data : Value} {x : Fr} (hV : GV B w aE aU aT) (hB : B ≤ w.heap.size) (hd : RdB w data L) (bs : Bs L) (lim : L.length ≤ 100000000) (hone : one 16777215 0 L = (.ok x, o2, rest)) (h4 : x.ty = 4) (hsl : x.set.length ≤ 1000000) :
    Calls Tryd.prog 20 #[data] w (DuEnd w (x.set.map (·.1))) := by
  obtain ⟨da, dc, rfl, -, -, -⟩ := id hd
  have HD := Lib.hid hd
  have HONE := Lib.hid hone
  have HX4 := Lib.hid h4
  have hta := ta_set
  clear hd hone h4
  go_enter Tryd.func20, Tryd.ntmps20
  go_wp2_with (go_at_call 31; refine (newFramer_o _ (w.heap.size + 1) _ (by simp)).mono ?_; rintro e W ⟨rfl, hF, hC, hW⟩; have hR := (Kept.ofBelow hW).at (Nat.lt_succ_self _) (blk_new w _))
  have hk : Kept (· < w.heap.size) w W := ((Kept.refl _ w).alloc _).trans ((Kept.ofBelow hW).mono fun k h _ => by omega)
  have hS := RSt.new (pcs := .slice none 0 0) (ps := []) hV hB HD.out (rdNilD w) bs (by omega) hk hR hF hC (by omega) (by omega)
  have hfr := frame_any hS
  rw [HONE.out] at hfr
  clear hS hF hC hW hR
  refine hfr.mono ?_
  rintro e w1 ⟨fv, ev, rfl, hk1, -, hres⟩
  rcases hres with ⟨x', A, hx, rfl, hfv, -⟩ | ⟨f, c, s, hx, h0, -⟩
  · have hxx : x = x' := by injection hx
    subst hxx
    obtain ⟨p, a, c, b, rfl, hc5, hrd, hbb, h6, hset⟩ := frV_set hfv HX4.out
    have hN : x.set.length = b.length / 6 := by rw [hset, pairs_len2]
    have hdu := hasDup_any (w := w1) (p := p) (b.length / 6) b.length (by omega) (by omega) hc5 hrd hbb (x.set.map (·.1)) (by rw [List.length_map, hN]) (fun k hk => by rw [hset, List.getElem?_map, pairs_get _ _ _ hk]; rfl)
    clear hc5 hrd hset hN hfr hx
    go_wp2_with (go_at_call 41; refine hdu.mono ?_; rintro e w2 ⟨r, rfl, hr, hb2⟩)
    go_ret2
    exact ⟨r, rfl, hr, Below.then ((hk.trans hk1).below (Nat.le_refl _)) (Nat.le_refl _) hb2⟩
  · exact absurd (congrArg Rs.f hx) (fun e => h0 e.symm)
end Go.Proofs.YtfdlbjibninakaaDoor
