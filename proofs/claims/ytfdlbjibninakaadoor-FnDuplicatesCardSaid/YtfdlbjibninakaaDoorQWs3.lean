/- The writing side: endWrite; a raw frame; the header's bytes. -/
import Derived.Test.YtfdlbjibninakaaDoorQWs2
import Derived.BigQuiet
import Derived.Deep.QuietTactic
import Derived.Deep.RegionHeld3
set_option linter.unusedVariables false
set_option linter.unusedSimpArgs false
namespace Go.Proofs.YtfdlbjibninakaaDoor
open Go.RowKit

theorem wpList_over {P : Program} {T e size bytes tx : Nat} {z : Value} {w : World} {ops : Array Oper} {rest : List Oper} {o : Oper} {a : Act} {Q : Exit → Act → World → Prop}
    (E : Elem P T e size bytes z) (hgd : o.guard = none) (s x : Operand) (ho : o.op = .call { callee := .builtin .append, args := #[s, x], argTypes := #[T, tx] })
    (ad : Option Addr) (n cap : Nat) (xs : List Value) (hs : a.eval s = .slice ad 0 cap) (hown : Row w e size (.slice ad n cap) n xs) (m : Nat) (news : List Value) (hx : Src P size tx (a.eval x) m news w) (hm : m ≤ n) (hm0 : 0 < m)
    (h : ∀ w', Row w' e size (.slice ad n cap) n (news ++ xs.drop (m * size)) → w.grownBy w' (Value.slice ad n cap).ownBlock → wpList P ops Q rest (a.put o.dst (.slice ad m cap)) w') :
    wpList P ops Q (o :: rest) a w :=
  wpList_plain hgd fun _ hK => by
    obtain ⟨w', hr, h2, h3⟩ := run_over (P := P) E w tx o.type ad n cap xs hown (a.eval x) m news hx hm hm0
    unfold Oper.wp execOp
    simp only [ho, resolve, invoke, builtin, Sem.run_bind, Sem.run_pure, Result.andThen_ok, List.map_toArray, List.map_cons, List.map_nil, hs, hr]
    exact hK _ _ (h w' h2 h3)

/-- The state behind a change of the buffer's own row alone. -/
theorem WS.over {K : Nat → Prop} {w w1 : World} {bF cl bW : Nat} {cur cur' out : List Int} {wb al : Value} (h : WS K w bF cl bW cur out wb al) (hg : w.grownBy w1 wb.ownBlock)
    (hown : Row w1 5 1 wb cur'.length (bv cur')) : WS K w1 bF cl bW cur' out wb al ∧ Kept K w w1 := by
  refine ⟨⟨blk_grown h.F hg h.neF, blk_grown h.W hg h.neW, hown, own_grown h.all hg ?_, h.kF, h.kW, h.kw, h.ka, h.ne, fun k hk => by have := h.lt k hk; have := hg.size; omega⟩, Kept.grown (Kept.refl K w) hg (fun k e hk => absurd hk (h.kw k e))⟩
  cases hb : al.ownBlock with
  | none => exact .inl rfl
  | some g => exact .inr fun e => h.ne g e.symm hb

theorem method_write (x : Addr) (w : World) : (method 389 71 (.pointer (some x)) "Write").run Tryd.prog w = .ok (147, .pointer (some x)) w := by kernel_rfl
/-- A frame as endWrite sends it: its length ahead. -/
def sealed (cur : List Int) : List Int := [(cur.length - 9 : Int) / 65536, (cur.length - 9 : Int) / 256 % 256, (cur.length - 9 : Int) % 256] ++ cur.drop 3

set_option maxRecDepth 10000 in
set_option maxHeartbeats 1600000 in
theorem endWrite_any {K : Nat → Prop} {w : World} {bF cl bW : Nat} {cur out : List Int} {wb al : Value} (h : WS K w bF cl bW cur out wb al) (h9 : 9 ≤ cur.length) (hl : cur.length ≤ 16777000) (hl2 : out.length ≤ 100000000) :
    Calls Tryd.prog 53 #[.pointer (some ⟨bF, 0, none⟩)] w (Wrote K w bF cl bW (sealed cur) (out ++ sealed cur) .nilIface) := by
  obtain ⟨a, cap, rfl, hcap, hmax⟩ := own_shape h.own
  have hc' : w.cell? ⟨bF, 20, none⟩ = some (.slice a cur.length cap) := blk_cell h.F 20
  have hlen : (sealed cur).length = cur.length := by simp [sealed]; omega
  have hn : ((cur.length : Int) - 9 ≥ 0) := by omega
  go_enter Tryd.func53, Tryd.ntmps53
  go_wp2_with (at_builtin; refine wpList_over E5 rfl _ _ rfl a cur.length cap (bv cur) rfl (own_alloc h.own _) 3 _ (src_of_block Tryd.underlying23 (blk_new w _) rfl (by simp [Value.oneCell'])) (by omega) (by omega) ?_; intro w1 hown1 hgrow)
  have h1 := (h.alloc _).over (cur' := sealed cur) hgrow (by rw [hlen]; simpa [sealed, bv, List.map_drop] using hown1)
  have k1 := ((Kept.refl K w).alloc _).trans h1.2
  replace h1 := h1.1
  have e19 : w1.cell? ⟨bF, 19, none⟩ = some (.iface 71 (.pointer (some ⟨bW, 0, none⟩))) := blk_cell h1.F 19
  have e20 : w1.cell? ⟨bF, 20, none⟩ = some (.slice a cur.length cap) := blk_cell h1.F 20
  clear hown1 hgrow hc' h
  have hmw := fun w => method_write ⟨bW, 0, none⟩ w
  go_region_held3 (fun w' => w'.cell? ⟨bF, 19, none⟩ = some (.iface 71 (.pointer (some ⟨bW, 0, none⟩))) ∧ w'.cell? ⟨bF, 20, none⟩ = some (.slice a cur.length cap)) (first | go_keep | (exact ⟨blk_cell h2.F 19, blk_cell h2.F 20⟩))
    (first | (go_at_call 147; refine (write_any h1.drew (by omega) (by omega)).mono ?_; rintro e w' ⟨rfl, hk2, al2, h2⟩))
  have f20 : w'.cell? ⟨bF, 20, none⟩ = some (.slice a cur.length cap) := blk_cell h2.F 20
  rw [hlen] at *
  go_wp2
  go_ret
  exact ⟨rfl, k1.trans ((Kept.refl K w1).drew.trans hk2), _, _, h2⟩
end Go.Proofs.YtfdlbjibninakaaDoor
