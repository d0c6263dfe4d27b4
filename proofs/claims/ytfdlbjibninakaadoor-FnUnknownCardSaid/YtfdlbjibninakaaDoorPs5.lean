/- Reading: the parsers of frames, each against the plain model (5: PING). -/
import Derived.Test.YtfdlbjibninakaaDoorPs2
set_option linter.unusedVariables false
set_option linter.unusedSimpArgs false
namespace Go.Proofs.YtfdlbjibninakaaDoor
open Go.RowKit

/-- copy out of a slice of bytes, in a walk. -/
theorem wpList_copy_rd {w : World} {ops : Array Oper} {rest : List Oper} {o : Oper} {a : Act} {Q : Exit → Act → World → Prop} (hgd : o.guard = none) (d s : Operand) (ho : o.op = .call { callee := .builtin .copy, args := #[d, s], argTypes := #[23, 23] })
    (g off n cap m : Nat) (l : List Int) (cs : Array Value) (t : TypeId) (hd : a.eval d = .slice (some ⟨g, off, none⟩) n cap) (hs : RdB w (a.eval s) l) (hg : w.heap[g]? = some (.cells cs t (0, 0))) (hm : m = min l.length n) (hfit : off + n ≤ cs.size)
    (h : ∀ cs' w', w'.heap[g]? = some (.cells cs' t (0, 0)) → Filled cs off (l.take m) cs' → Kept (· ≠ g) w w' → wpList Tryd.prog ops Q rest (a.put o.dst (.int .i64 (m : Int))) w') :
    wpList Tryd.prog ops Q (o :: rest) a w :=
  wpList_plain hgd fun _ hK => by
    obtain ⟨cs', w', hr, h1, h2, h3⟩ := run_copy_rd w o.type g off n cap m (a.eval s) l cs t hg hs hm hfit
    unfold Oper.wp execOp
    simp only [ho, resolve, invoke, builtin, Sem.run_bind, Sem.run_pure, Result.andThen_ok, List.map_toArray, List.map_cons, List.map_nil, hd, hr]
    exact hK _ _ (h cs' w' h1 h2 h3)
set_option maxRecDepth 10000 in
set_option maxHeartbeats 4000000 in
theorem parsePing_any {B : Nat} {aE aU aT : Addr} {w : World} (_hV : GV B w aE aU aT) (ty fl ln st : Int) (_hf0 : 0 ≤ fl) (_hf1 : fl < 256) (a : Option Addr) (n c : Nat) (b : List Int) (h : RdB w (.slice a n c) b) (_hb : Bs b) :
    Calls Tryd.prog 119 #[.pointer none, hdV ty fl ln st, cntV, .slice a n c] w (Parsed aU w (parsePing ⟨ty, fl, ln, st⟩ b)) := by
  obtain ⟨hnb, hnc, hcm⟩ := h.len
  rw [← hnb] at hnc
  have HB := Lib.hid hnb
  clear hnb
  by_cases h8 : n = 8
  · subst h8
    by_cases hst : st = 0
    · subst hst
      have bW : Below w.heap.size w ((w.alloc (.cells #[.bool true, .int .u8 ty, .int .u8 fl, .int .u32 ln, .int .u32 0] 117)).alloc (.cells #[.bool true, .int .u8 ty, .int .u8 fl, .int .u32 ln, .int .u32 0, .int .u8 0, .int .u8 0, .int .u8 0, .int .u8 0, .int .u8 0, .int .u8 0, .int .u8 0, .int .u8 0] 178)) := ((((K0 w).alloc _).alloc _).below (Nat.le_refl _))
      have hrd := h.below bW
      go_enter Tryd.func119, Tryd.ntmps119
      go_wp2_with (first | (go_at_call 49; refine (count_any _ _).mono ?_; rintro e w' ⟨rfl, rfl⟩) | ((refine wpList_copy_rd (o := ⟨some 31, _, _, _, _, _⟩) rfl (.tmp 29) (.tmp 30) rfl (w.heap.size + 1) 5 8 8 8 b #[.bool true, .int .u8 ty, .int .u8 fl, .int .u32 ln, .int .u32 0, .int .u8 0, .int .u8 0, .int .u8 0, .int .u8 0, .int .u8 0, .int .u8 0, .int .u8 0, .int .u8 0] 178 rfl hrd (blk_at _ _ (by simp)) (by have := HB.out; omega) (by simp) ?_); intro cs' w1 g1 g2 g3))
      go_ret2
      have hl := HB.out
      rw [List.take_of_length_le (by omega)] at g2
      refine Parsed.ok (FrV.ping ⟨ty, fl, ln, 0⟩ b (w.heap.size + 1) cs' (by omega) g1 g2.size ?_ ?_ ?_ ?_ ?_ g2.at' hl.symm) ?_ ?_
      · rw [g2.rest 0 (.inl (by omega))]; rfl
      · rw [g2.rest 1 (.inl (by omega))]; rfl
      · rw [g2.rest 2 (.inl (by omega))]; rfl
      · rw [g2.rest 3 (.inl (by omega))]; rfl
      · rw [g2.rest 4 (.inl (by omega))]; rfl
      · unfold parsePing
        rw [if_neg (by omega), if_neg (by simp)]
      · exact ((((K0 w).alloc _).alloc _).trans (g3.mono fun k hk _ => by omega)).below (Nat.le_refl _)
    have hs : (st != 0) = true := by simp; exact hst
    have hst := Lib.hid hst
    go_enter Tryd.func119, Tryd.ntmps119
    go_wp2_with (go_at_call 49; refine (count_any _ _).mono ?_; rintro e w' ⟨rfl, rfl⟩)
    go_ret2
    exact Parsed.conn (by unfold parsePing; rw [if_neg (by have := HB.out; omega), if_pos hst.out]) (((K0 w).alloc _).below (Nat.le_refl _))
  have h8i : ((n : Int) != 8) = true := by simp; omega
  have h8 := Lib.hid h8
  go_enter Tryd.func119, Tryd.ntmps119
  go_wp2_with (go_at_call 49; refine (count_any _ _).mono ?_; rintro e w' ⟨rfl, rfl⟩)
  go_ret2
  exact Parsed.conn (by unfold parsePing; rw [if_pos (by have := HB.out; have := h8.out; omega)]) (((K0 w).alloc _).below (Nat.le_refl _))
end Go.Proofs.YtfdlbjibninakaaDoor
