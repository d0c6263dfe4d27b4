/- spec.number, spec.Header: the parts of a frame header by the reference. -/
import Derived.Test.YtfdlbjibninakaaGreatDoorRfh
import Derived.Test.YtfdlbjibninakaaGreatDoorMl2
import Derived.Deep.QuietTactic
import Derived.BigQuiet
set_option linter.unusedVariables false
set_option linter.unusedSimpArgs false
namespace Go.Proofs.YtfdlbjibninakaaGreatDoor
open Go.RowKit
/-- The number of some bytes. -/
def numOf (l : List Int) : Int := l.foldl (fun n c => n * 256 + c) 0
theorem numOf_snoc (l : List Int) (c : Int) : numOf (l ++ [c]) = numOf l * 256 + c := by simp [numOf]
theorem numOf_bd' (l : List Int) : ∀ (n m : Int), Bs l → 0 ≤ n → n < m → 0 ≤ l.foldl (fun n c => n * 256 + c) n ∧ l.foldl (fun n c => n * 256 + c) n < m * 256 ^ l.length := by
  induction l with
  | nil => intro n m _ h0 h1; simp; exact ⟨h0, h1⟩
  | cons c l ih =>
    intro n m hb h0 h1
    have hc := hb c (List.mem_cons_self ..)
    have := ih (n * 256 + c) (m * 256) (fun x hx => hb x (List.mem_cons_of_mem _ hx)) (by omega) (by omega)
    rw [List.foldl_cons, List.length_cons, Int.pow_succ, Int.mul_comm (256 ^ l.length), ← Int.mul_assoc]
    exact this
theorem numOf_bd (l : List Int) (hb : Bs l) : 0 ≤ numOf l ∧ numOf l < 256 ^ l.length := by
  have := numOf_bd' l 0 1 hb (by omega) (by omega)
  rw [Int.one_mul] at this
  exact this
set_option maxRecDepth 10000 in
set_option maxHeartbeats 4000000 in
theorem number_any (a : Option Addr) (c : Nat) (l : List Int) (w : World) (h : RdB w (.slice a l.length c) l) (hb : Bs l) (hl : l.length ≤ 4) : Calls Tryz.prog 38 #[.slice a l.length c] w fun e w' => e = .returned (.int .u32 (numOf l)) ∧ w = w' := by
  obtain ⟨_, _, e, _, _, h3⟩ := h
  cases e
  have H3 := Lib.hid h3
  clear h3
  go_enter Tryz.func38, Tryz.ntmps38
  go_wp2
  go_loop [3, 8] (fun n i => ∃ k : Nat, k ≤ l.length ∧ i = .int .i64 k ∧ n = .int .u32 (numOf (l.take k))) (fun _ i => l.length - (intOf i).toNat)
  case atStart => exact ⟨0, Nat.zero_le _, rfl, rfl⟩
  case round =>
    obtain ⟨k, hk, rfl, rfl⟩ := hrel
    by_cases hlt : k < l.length
    · obtain ⟨b, o, rfl, hc⟩ := H3.out k _ (List.getElem?_eq_getElem hlt)
      have hbd := numOf_bd (l.take k) (hb.take k)
      have hx := hb _ (List.getElem_mem hlt)
      have hs : numOf (l.take (k + 1)) = numOf (l.take k) * 256 + l[k] := by rw [List.take_succ_eq_append_getElem hlt, numOf_snoc]
      have h24 : numOf (l.take k) < 16777216 := by
        have e : (l.take k).length = k := by rw [List.length_take]; omega
        rw [e] at hbd
        have : k ≤ 3 := by omega
        match k, this with
        | 0, _ => omega
        | 1, _ => omega
        | 2, _ => omega
        | 3, _ => omega
      have h0 := hbd.1
      have hor : bits .or .u32 (numOf (l.take k) * 256) l[k] = numOf (l.take k) * 256 + l[k] := u32_or_add' 8 hx.1 (by simp; omega) h0 (by simp; omega)
      have HS := Lib.hid hs
      clear hs hbd
      generalize numOf (l.take k) = n at *
      generalize l[k] = y at *
      go_wp2
      go_round
      case rel => exact ⟨k + 1, by omega, by go_num, by rw [HS.out]⟩
      case measure => simp [intOf]; omega
    · have hkl : k = l.length := by omega
      subst hkl
      rw [List.take_length]
      go_wp2
      go_ret
      exact ⟨rfl, rfl⟩
theorem numOf_3 (b : List Int) (h : 3 ≤ b.length) : numOf (b.take 3) = gb b 0 * 65536 + gb b 1 * 256 + gb b 2 := by
  match b, h with
  | x :: y :: z :: b, _ => simp [numOf, gb]; omega
theorem numOf_4 (b : List Int) (h : 9 ≤ b.length) : numOf ((b.take 9).drop 5) = n32 b 5 := by
  match b, h with
  | a0 :: a1 :: a2 :: a3 :: a4 :: a5 :: a6 :: a7 :: a8 :: b, _ => simp [numOf, n32, gb]; omega
theorem RdI.sub {k : IntKind} {w : World} {b o n c : Nat} {l : List Int} (h : RdI k w (.slice (some ⟨b, o, none⟩) n c) l) {i j : Nat} (hi : i ≤ j) (hj : j ≤ n) : RdI k w (.slice (some ⟨b, o + i, none⟩) (j - i) (c - i)) ((l.take j).drop i) := by
  obtain ⟨a', c', e, h1, h2, h3⟩ := h
  cases e
  refine ⟨_, _, by rw [List.length_drop, List.length_take, Nat.min_eq_left hj], by rw [List.length_drop, List.length_take]; omega, by omega, fun q x hq => ?_⟩
  rw [List.getElem?_drop, List.getElem?_take] at hq
  split at hq
  · obtain ⟨b, o, e, hc⟩ := h3 _ x hq
    cases e
    refine ⟨b, o + i, rfl, ?_⟩
    rw [Nat.add_assoc]
    exact hc
  · cases hq
/-- What spec.Header answers. -/
def HdrS (w : World) (ln ty fl st : Int) (e : Ending) (w' : World) : Prop := e = .returned (.tuple #[.int .i64 ln, .int .i64 ty, .int .i64 fl, .int .u32 st]) ∧ ∃ n, w' = w.drewN n
set_option maxRecDepth 10000 in
set_option maxHeartbeats 8000000 in
theorem headerS_any (a : Option Addr) (n c : Nat) (b : List Int) (w : World) (h : RdB w (.slice a n c) b) (hb : Bs b) (hn : 9 ≤ n) : Calls Tryz.prog 22 #[.slice a n c] w (HdrS w (hdOf b).ln (hdOf b).ty (hdOf b).fl (hdOf b).st) := by
  have h' := h
  obtain ⟨_, _, e, hc1, hc2, h3⟩ := h'
  cases e
  obtain ⟨q, o, e3, hx3⟩ := h3 3 _ (List.getElem?_eq_getElem (by omega))
  cases e3
  obtain ⟨_, _, e4, hx4⟩ := h3 4 _ (List.getElem?_eq_getElem (by omega))
  cases e4
  have g3 : b[3] = (hdOf b).ty := by
    show b[3] = b.getD 3 0
    rw [List.getD_eq_getElem?_getD, List.getElem?_eq_getElem]; rfl
  have g4 : b[4] = (hdOf b).fl := by
    show b[4] = b.getD 4 0
    rw [List.getD_eq_getElem?_getD, List.getElem?_eq_getElem]; rfl
  rw [g3] at hx3
  rw [g4] at hx4
  have n1 : ∀ m, Calls Tryz.prog 38 #[.slice (some ⟨q, o, none⟩) 3 c] (w.drewN m) fun e w' => e = .returned (.int .u32 (hdOf b).ln) ∧ w' = w.drewN m := by
    intro m
    have hl : (b.take 3).length = 3 := by simp; omega
    have := number_any (some ⟨q, o, none⟩) c (b.take 3) (w.drewN m) (by rw [hl]; exact h.take (m := 3) (by omega)) (hb.take 3) (by omega)
    rw [hl] at this
    refine this.mono fun e w' ⟨he, hw⟩ => ⟨?_, hw.symm⟩
    rw [he, numOf_3 b (by omega)]; rfl
  have n2 : ∀ m, Calls Tryz.prog 38 #[.slice (some ⟨q, o + 5, none⟩) 4 (c - 5)] (w.drewN m) fun e w' => e = .returned (.int .u32 (n32 b 5)) ∧ w' = w.drewN m := by
    intro m
    have hl : ((b.take 9).drop 5).length = 4 := by simp; omega
    have := number_any (some ⟨q, o + 5, none⟩) (c - 5) ((b.take 9).drop 5) (w.drewN m) (by rw [hl]; exact h.sub (i := 5) (j := 9) (by omega) (by omega)) ((hb.take 9).drop 5) (by omega)
    rw [hl] at this
    refine this.mono fun e w' ⟨he, hw⟩ => ⟨?_, hw.symm⟩
    rw [he, numOf_4 b (by omega)]
  have hb32 := Pl.n32_bd (b := b) hb 5
  have hand : bits .and .u32 (n32 b 5) 2147483647 = (hdOf b).st := u32_low _ hb32.1 hb32.2
  have hbd := Pl.hdOf_bd (b := b) hb
  have hbl : 9 ≤ b.length := hn
  obtain ⟨⟨t0, t1⟩, ⟨f0, f1⟩, ⟨l0, l1⟩, -⟩ := hbd
  have hn' : b.length ≤ 9223372036854775807 := by unfold maxLen at hc2; omega
  clear h3 h g3 g4 hb
  generalize (hdOf b).ty = ty at *
  generalize (hdOf b).fl = fl at *
  generalize (hdOf b).ln = ln at *
  generalize (hdOf b).st = st at *
  generalize n32 b 5 = n5 at *
  generalize b.length = len at *
  go_enter Tryz.func22, Tryz.ntmps22
  go_wp2
  go_quiet ((first | (go_at_call 38; with_reducible exact Calls.quiet_of_same (n1 _)) | (go_at_call 38; with_reducible exact Calls.quiet_of_same (n2 _))))
  go_wp2
  exact bodyPost_ret (v := .tuple #[.int .i64 ln, .int .i64 ty, .int .i64 fl, .int .u32 st]) (by simp [results, Tryz.results22, go_sem]) rfl ⟨rfl, nq, rfl⟩
end Go.Proofs.YtfdlbjibninakaaGreatDoor
