/- The raw frame that the package writes; the bytes of a number and of a header by the reference. -/
import Derived.Test.YtfdlbjibninakaaDoorQWs3
set_option linter.unusedVariables false
set_option linter.unusedSimpArgs false
namespace Go.Proofs.YtfdlbjibninakaaDoor
open Go.RowKit

set_option maxRecDepth 10000 in
set_option maxHeartbeats 800000 in
theorem writeRaw_any {K : Nat → Prop} {w : World} {bF cl bW : Nat} {cur out l : List Int} {wb al v : Value} (h : WS K w bF cl bW cur out wb al) (t fl s : Int) (hs0 : 0 ≤ s) (hs1 : s < 4294967296)
    (hv : RdB w v l) (hK : inK K v) (hl : l.length ≤ 16000000) (hl2 : out.length ≤ 100000000) :
    Calls Tryd.prog 32 #[.pointer (some ⟨bF, 0, none⟩), .int .u8 t, .int .u8 fl, .int .u32 s, v] w (Wrote K w bF cl bW (sealed (hdr0 t fl s ++ l)) (out ++ sealed (hdr0 t fl s ++ l)) .nilIface) := by
  go_enter Tryd.func32, Tryd.ntmps32
  go_wp2_with (first
    | (go_at_call 51; refine (startWrite_any h t fl s hs0 hs1).mono ?_; rintro e w1 ⟨rfl, k1, wb1, al1, h1⟩)
    | (go_at_call 52; refine (writeBytes_any h1 (hv.kept k1 hK) (by simp [hdr0]) (by omega)).mono ?_; rintro e w2 ⟨rfl, k2, wb2, al2, h2⟩)
    | (go_at_call 53; refine (endWrite_any h2 (by simp [hdr0]) (by simp [hdr0]; omega) hl2).mono ?_; rintro e w3 ⟨rfl, k3, wb3, al3, h3⟩))
  go_ret
  exact ⟨rfl, (k1.trans k2).trans k3, _, _, h3⟩

/-! ## The reference: the bytes of a number -/
def toBytes (v : Int) : Nat → List Int
  | 0 => []
  | n + 1 => v / 2 ^ (8 * n) % 256 :: toBytes v n

theorem toBytes_length (v : Int) (n : Nat) : (toBytes v n).length = n := by
  induction n with
  | zero => rfl
  | succ n ih => simp [toBytes, ih]
theorem toBytes_take (v : Int) (n m : Nat) (h : m < n) : (toBytes v n).take (n - (m + 1) + 1) = (toBytes v n).take (n - (m + 1)) ++ [v / 2 ^ (8 * m) % 256] := by
  induction n with
  | zero => omega
  | succ n ih =>
    rcases Nat.lt_or_ge m n with hlt | hge
    · have e1 : n + 1 - (m + 1) = n - (m + 1) + 1 := by omega
      rw [e1]
      simp only [toBytes, List.take_succ_cons, List.cons_append]
      rw [ih hlt]
    · have : m = n := by omega
      subst this
      simp [toBytes]
set_option maxRecDepth 10000 in
set_option maxHeartbeats 800000 in
theorem bytes_any (v : Int) (n : Nat) (w : World) (_h0 : 0 ≤ v) (_h1 : v < 4294967296) (hn : n ≤ 4) :
    Calls Tryd.prog 33 #[.int .u32 v, .int .i64 n] w (RetB w (toBytes v n)) := by
  go_enter Tryd.func33, Tryd.ntmps33
  go_wp2_with fail
  go_loopw [5, 6] (fun o i wr => ∃ k : Nat, k ≤ n ∧ i = .int .i64 ((k : Int) - 1) ∧ Row wr 5 1 o (n - k) (bv ((toBytes v n).take (n - k))) ∧ Fresh w.heap.size o ∧ Below w.heap.size w wr) (fun _ i _ => (intOf i + 1).toNat)
  case atStart => exact ⟨n, Nat.le_refl _, rfl, (by simpa [bv] using World.ownsRow_nil w 0 5 1), Fresh.nil _, Below.refl _ _⟩
  case round =>
    obtain ⟨k, hk, rfl, hrow, hfr, hbel⟩ := hrel
    by_cases h : k = 0
    · subst h
      go_wp2_with fail
      go_ret
      refine ⟨_, rfl, hbel, ?_, hfr⟩
      rw [toBytes_length]
      simp at hrow
      rwa [List.take_of_length_le (by rw [toBytes_length]; omega)] at hrow
    · obtain ⟨a, cap, rfl, hcap, hmax⟩ := own_shape hrow
      go_wp2_with (at_builtin; refine wpList_app E5 rfl _ _ rfl (.slice a (n - k) cap) (n - k) _ rfl (own_alloc hrow _) 1 _ (src_of_block Tryd.underlying23 (blk_new _ _) rfl (by simp [Value.oneCell'])) (by omega) (by unfold maxLen; omega) ?_; intro a' c' w1 hown1 hgrow hat)
      go_roundw
      case rel =>
        obtain ⟨m, rfl⟩ : ∃ m, k = m + 1 := ⟨k - 1, by omega⟩
        refine ⟨m, by omega, by congr 1; omega, ?_, hfr.app (by have := hbel.size; simp; omega) hat, Below.app (hbel.alloc hbel.size _) (by have := hbel.size; simp; omega) hgrow hfr⟩
        have e1 : n - m = n - (m + 1) + 1 := by omega
        rw [e1, toBytes_take v n m (by omega)]
        simpa [bv] using hown1
      case measure => simp [intOf]; omega
theorem bytes3 (v : Int) (w : World) (h0 : 0 ≤ v) (h1 : v < 4294967296) : Calls Tryd.prog 33 #[.int .u32 v, .int .i64 3] w (RetB w [v / 65536 % 256, v / 256 % 256, v % 256]) := by
  have := bytes_any v 3 w h0 h1 (by omega)
  simpa [toBytes] using this
theorem bytes4 (v : Int) (w : World) (h0 : 0 ≤ v) (h1 : v < 4294967296) : Calls Tryd.prog 33 #[.int .u32 v, .int .i64 4] w (RetB w (be32 v)) := by
  have := bytes_any v 4 w h0 h1 (by omega)
  have e : v / 16777216 % 256 = v / 16777216 := by omega
  simpa [toBytes, be32, e] using this
theorem bytes2 (v : Int) (w : World) (h0 : 0 ≤ v) (h1 : v < 65536) : Calls Tryd.prog 33 #[.int .u32 v, .int .i64 2] w (RetB w (be16 v)) := by
  have := bytes_any v 2 w h0 (by omega) (by omega)
  have e : v / 256 % 256 = v / 256 := by omega
  simpa [toBytes, be16, e] using this

/-- A frame header by the reference. -/
def hdrS (length kind flags stream : Int) : List Int := [length / 65536 % 256, length / 256 % 256, length % 256, kind, flags] ++ be32 stream

set_option maxRecDepth 10000 in
set_option maxHeartbeats 800000 in
theorem headerBytesS_any (l k f s : Int) (w : World) (hl0 : 0 ≤ l) (hl1 : l < 16777216) (hk0 : 0 ≤ k) (hk1 : k < 256) (hf0 : 0 ≤ f) (hf1 : f < 256) (hs0 : 0 ≤ s) (hs1 : s < 4294967296) :
    Calls Tryd.prog 13 #[.int .i64 l, .int .i64 k, .int .i64 f, .int .u32 s] w (RetB w (hdrS l k f s)) := by
  go_enter Tryd.func13, Tryd.ntmps13
  go_wp2_with fail
  refine (bytes3 l _ hl0 (by omega)).mono ?_
  rintro e w1 ⟨r1, rfl, b1, o1, f1⟩
  obtain ⟨a1, c1, rfl, hc1, hm1⟩ := own_shape o1
  go_wp2_with (at_builtin; refine wpList_app E5 rfl _ _ rfl (.slice a1 3 c1) 3 _ rfl (own_alloc o1 _) 2 _ (src_of_block Tryd.underlying23 (blk_new _ _) rfl (by simp [Value.oneCell'])) (by omega) (by unfold maxLen; omega) ?_; intro a2 c2 w2 o2 g2 t2)
  have z1 := b1.size
  have B2 : Below w.heap.size w w2 := Below.app (b1.alloc z1 _) (by simp <;> omega) g2 f1
  have F2 : Fresh w.heap.size _ := f1.app (by simp <;> omega) t2
  refine (bytes4 s _ hs0 hs1).mono ?_
  rintro e w3 ⟨r3, rfl, b3, o3, f3⟩
  obtain ⟨a3, c3, rfl, hc3, hm3⟩ := own_shape o3
  have B3 := Below.then B2 (Nat.le_refl _) b3
  have z3 := B3.size
  have o2' := own_below o2 b3
  go_wp2_with (at_builtin; refine wpList_app E5 rfl _ _ rfl (.slice a2 5 c2) 5 _ rfl o2' 4 _ (src_of_row Tryd.underlying23 o3 (bv_one _)) (by omega) (by unfold maxLen; omega) ?_; intro a4 c4 w4 o4 g4 t4)
  go_ret
  exact ⟨_, rfl, Below.app B3 z3 g4 F2, by simpa [hdrS, be32, bv] using o4, F2.app z3 t4⟩
end Go.Proofs.YtfdlbjibninakaaDoor
