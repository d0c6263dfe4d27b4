/- A DATA frame with a padding that must not be is refused. -/
import Derived.Test.YtfdlbjibninakaaDoorRefuse
namespace Go.Proofs.YtfdlbjibninakaaDoor
open Go.RowKit
variable {w : World} {bF : Nat} {vS vP vB : Value}

theorem rd_cell {k : IntKind} {w : World} {v : Value} {l : List Int} (h : RdI k w v l) (hl : 0 < l.length) :
    ∃ b o c, v = .slice (some ⟨b, o, none⟩) l.length c ∧ l.length ≤ c ∧ c ≤ maxLen ∧ ∀ j x, l[j]? = some x → w.cell? ⟨b, o + j, none⟩ = some (.int k x) := by
  obtain ⟨a, c, rfl, h1, h2, h3⟩ := h
  obtain ⟨b, o, rfl, -⟩ := h3 0 l[0] (by simp [hl])
  refine ⟨b, o, c, rfl, h1, h2, fun j x hj => ?_⟩
  obtain ⟨b', o', e, hc⟩ := h3 j x hj
  cases e
  exact hc

set_option maxRecDepth 10000 in
set_option maxHeartbeats 4000000 in
theorem startData_pad (h : RS w bF vS vP vB) (s : Int) (h0 : 0 ≤ s) (h1 : s < 4294967296) (hs : vs s = true) (p1 p2 p : Value) (l : List Int) (hp : RdB w p l) (hl : 0 < l.length) (hbad : badPad l = true) :
    Calls Tryd.prog 92 #[.pointer (some ⟨bF, 0, none⟩), .int .u32 s, p1, p2, p] w (Refuses w) := by
  have g1 := h.al
  have g2 := h.ep
  have g3 := h.eb
  obtain ⟨b, o, c, rfl, hc1, hc2, hcell⟩ := rd_cell hp hl
  by_cases hlong : 255 < l.length
  · go_enter Tryd.func92, Tryd.ntmps92
    go_wp2_with (go_at_call 93; refine (validStreamID_any s _ h0 h1).mono ?_; rw [hs]; rintro e w' ⟨rfl, rfl⟩)
    go_ret
    exact ⟨_, rfl, Below.refl _ _⟩
  have hany : l.any (· != 0) = true := by
    unfold badPad at hbad
    simpa [hlong] using hbad
  go_enter Tryd.func92, Tryd.ntmps92
  go_wp2_with (go_at_call 93; refine (validStreamID_any s _ h0 h1).mono ?_; rw [hs]; rintro e w' ⟨rfl, rfl⟩)
  go_loopw [39] (fun i wr => ∃ k : Nat, k ≤ l.length ∧ i = .int .i64 k ∧ (∀ j x, j < k → l[j]? = some x → x = 0) ∧ wr = w) (fun i _ => l.length - (intOf i).toNat)
  case atStart => exact ⟨0, Nat.zero_le _, rfl, (fun j x hj => by omega), rfl⟩
  case round =>
    obtain ⟨k, hk, rfl, hz, rfl⟩ := hrel
    by_cases hlt : k < l.length
    · have hx := hcell k l[k] (by simp [hlt])
      by_cases hx0 : l[k] = 0
      · rw [hx0] at hx
        go_wp2_with fail
        go_roundw
        case rel =>
          refine ⟨k + 1, by omega, by go_num, fun j x hj hy => ?_, trivial⟩
          by_cases e : j = k
          · subst e
            rw [List.getElem?_eq_getElem hlt, hx0] at hy
            exact (Option.some.inj hy).symm
          · exact hz j x (by omega) hy
        case measure => simp [intOf]; omega
      · have hb : (l[k] != 0) = true := by simp [hx0]
        go_wp2_with fail
        go_ret
        exact ⟨_, rfl, Below.refl _ _⟩
    · exfalso
      rw [List.any_eq_true] at hany
      obtain ⟨x, hm, hx⟩ := hany
      obtain ⟨j, hj, rfl⟩ := List.getElem_of_mem hm
      simp at hx
      exact hx (hz j _ (by omega) (List.getElem?_eq_getElem hj))
set_option maxRecDepth 10000 in
set_option maxHeartbeats 1000000 in
theorem dataPadded_ref {v0 v1 v2 v3 v4 : Value} (hs : Calls Tryd.prog 92 #[v0, v1, v2, v3, v4] w (Refuses w)) : Calls Tryd.prog 56 #[v0, v1, v2, v3, v4] w (Refuses w) := by
  have hs' := hs.mono (R' := fun e w' => ∃ v, e = .returned (.iface 247 v) ∧ Below w.heap.size w w') (fun _ _ h => h)
  clear hs
  go_enter Tryd.func56, Tryd.ntmps56
  go_wp2_with (go_at_call 92; ((with_reducible refine hs'.mono ?_); rintro e w' ⟨v, rfl, hb⟩))
  go_ret
  exact ⟨_, rfl, hb⟩
set_option maxRecDepth 10000 in
set_option maxHeartbeats 1000000 in
theorem data_ref (h : RS w bF vS vP vB) (s : Int) (h0 : 0 ≤ s) (h1 : s < 4294967296) (hs : vs s = false) (p1 p2 : Value) :
    Calls Tryd.prog 57 #[.pointer (some ⟨bF, 0, none⟩), .int .u32 s, p1, p2] w (Refuses w) := by
  go_enter Tryd.func57, Tryd.ntmps57
  go_wp2_with (go_at_call 56; refine (dataPadded_ref (startData_stream h s h0 h1 hs p1 p2 _)).mono ?_; rintro e w' ⟨v, rfl, hb⟩)
  go_ret
  exact ⟨_, rfl, hb⟩
end Go.Proofs.YtfdlbjibninakaaDoor
