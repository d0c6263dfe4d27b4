/- The writing side: the framer that writes, and what she has written. The state; the small methods: startWrite, writeByte, writeBytes, writeUint16, writeUint32, endWrite; the writer's Write. -/
import Derived.Test.YtfdlbjibninakaaGreatDoorBase
set_option linter.unusedVariables false
set_option linter.unusedSimpArgs false
namespace Go.Proofs.YtfdlbjibninakaaGreatDoor
open Go.RowKit

/-- A framer that writes: her cells. -/
def framerW (cl bW : Nat) (wb : Value) : Array Value :=
  #[.nilIface, .nilIface, .nilIface, .func (.func 44) #[] #[], .int .u32 0, .int .u8 0, .int .u32 16777215,
    .int .u8 0, .int .u8 0, .int .u8 0, .int .u8 0, .int .u8 0, .int .u8 0, .int .u8 0, .int .u8 0, .int .u8 0,
    .func (.func 45) #[] #[.pointer (some ⟨cl, 0, none⟩)], .slice none 0 0, .int .u32 0, .iface 99 (.pointer (some ⟨bW, 0, none⟩)), wb, .bool false, .bool false, .pointer none]

/-- The state of a framer that writes: 'cur' lies in her buffer, 'out' is what the writer has got. The blocks of K are none of hers. -/
structure WS (K : Nat → Prop) (w : World) (bF cl bW : Nat) (cur out : List Int) (wb al : Value) : Prop where
  F : w.heap[bF]? = some (.cells (framerW cl bW wb) 86 (0, 0))
  W : w.heap[bW]? = some (.cells #[al] 101 (0, 0))
  own : Row w 5 1 wb cur.length (bv cur)
  all : Row w 5 1 al out.length (bv out)
  kF : ¬ K bF
  kW : ¬ K bW
  kw : ∀ g, wb.ownBlock = some g → ¬ K g
  ka : ∀ g, al.ownBlock = some g → ¬ K g
  ne : ∀ g, wb.ownBlock = some g → al.ownBlock ≠ some g
  lt : ∀ k, K k → k < w.heap.size
section
variable {K : Nat → Prop} {w w1 : World} {bF cl bW : Nat} {cur out : List Int} {wb al : Value}
theorem WS.neF (h : WS K w bF cl bW cur out wb al) : wb.ownBlock ≠ some bF := own_block h.own h.F (by decide)
theorem WS.neW (h : WS K w bF cl bW cur out wb al) : wb.ownBlock ≠ some bW := own_block h.own h.W (by decide)
theorem WS.aeF (h : WS K w bF cl bW cur out wb al) : al.ownBlock ≠ some bF := own_block h.all h.F (by decide)
theorem WS.aeW (h : WS K w bF cl bW cur out wb al) : al.ownBlock ≠ some bW := own_block h.all h.W (by decide)
theorem WS.FW (h : WS K w bF cl bW cur out wb al) : bF ≠ bW := fun e => by
  have h1 := h.F
  rw [e, h.W] at h1
  cases h1
theorem WS.alloc (h : WS K w bF cl bW cur out wb al) (o : Obj) : WS K (w.alloc o) bF cl bW cur out wb al :=
  ⟨blk_alloc h.F, blk_alloc h.W, own_alloc h.own o, own_alloc h.all o, h.kF, h.kW, h.kw, h.ka, h.ne, fun k hk => by have := h.lt k hk; simp; omega⟩
theorem WS.drew (h : WS K w bF cl bW cur out wb al) : WS K w.drew bF cl bW cur out wb al :=
  ⟨h.F, h.W, own_drew h.own, own_drew h.all, h.kF, h.kW, h.kw, h.ka, h.ne, h.lt⟩
/-- What is made beside may be kept. -/
theorem WS.widen (h : WS K w bF cl bW cur out wb al) {K' : Nat → Prop} (hK : ∀ k, K' k → K k ∨ (w.heap.size ≤ k ∧ k < w1.heap.size)) (hk : Below w.heap.size w w1) : WS K' w1 bF cl bW cur out wb al := by
  have hkk : Kept (fun _ => True) w w1 := Kept.all hk
  refine ⟨hkk.at trivial h.F, hkk.at trivial h.W, own_kept h.own hkk (fun _ _ => trivial), own_kept h.all hkk (fun _ _ => trivial), ?_, ?_, ?_, ?_, h.ne, ?_⟩
  · intro hf
    rcases hK _ hf with hf | hf
    · exact h.kF hf
    · have := lt_of_block h.F; omega
  · intro hf
    rcases hK _ hf with hf | hf
    · exact h.kW hf
    · have := lt_of_block h.W; omega
  · intro g hg hf
    rcases hK _ hf with hf | hf
    · exact h.kw g hg hf
    · have := own_lt h.own g hg; omega
  · intro g hg hf
    rcases hK _ hf with hf | hf
    · exact h.ka g hg hf
    · have := own_lt h.all g hg; omega
  · intro k hf
    rcases hK _ hf with hf | hf
    · have := h.lt k hf; have := hk.size; omega
    · exact hf.2
/-- The buffer appended to, and the field set. -/
theorem WS.put (h : WS K w bF cl bW cur out wb al) {v' : Value} {cur' : List Int} (hg : w.grownBy w1 wb.ownBlock) (hown : Row w1 5 1 v' cur'.length (bv cur')) (hv : v'.ownBlock = wb.ownBlock ∨ v'.ownBlock = some w.heap.size) :
    WS K (w1.setCell ⟨bF, 20, none⟩ v') bF cl bW cur' out v' al ∧ Kept K w (w1.setCell ⟨bF, 20, none⟩ v') := by
  have hF1 := blk_grown h.F hg h.neF
  have hF2 := blk_set hF1 20 v'
  have hW1 := blk_grown h.W hg h.neW
  have hal : Row w1 5 1 al out.length (bv out) := own_grown h.all hg (by
    cases hb : al.ownBlock with
    | none => exact .inl rfl
    | some g =>
      refine .inr fun e => ?_
      exact h.ne g e.symm hb)
  have hv2 : v'.ownBlock ≠ some bF := own_block hown hF1 (by decide)
  refine ⟨⟨hF2, blk_set_other hW1 (Ne.symm h.FW) _, own_set hown hv2 _, own_set hal (own_block hal hF1 (by decide)) _, h.kF, h.kW, ?_, h.ka, ?_, ?_⟩, ?_⟩
  · intro g hg'
    rcases hv with e | e
    · exact h.kw g (by rw [← e]; exact hg')
    · intro hk
      have := h.lt g hk
      rw [e] at hg'
      cases hg'
      omega
  · intro g hg' ha
    rcases hv with e | e
    · exact h.ne g (by rw [← e]; exact hg') ha
    · rw [e] at hg'
      cases hg'
      have := own_lt h.all _ ha
      omega
  · intro k hk
    have h1 := h.lt k hk
    have h2 := hg.size
    simp
    omega
  · exact (Kept.grown (Kept.refl K w) hg (fun k e hk => absurd hk (h.kw k e))).setCell (fun hk => absurd hk h.kF) v'
end

theorem setMax_any (b : Nat) (v x : Int) (w : World) (_hx0 : 0 ≤ x) (_hx : x ≤ 16777215) (hc : w.cell? ⟨b, 6, none⟩ = some (.int .u32 v)) (hf : w.frozen? ⟨b, 6, none⟩ = false) :
    Calls Tryz.prog 27 #[.pointer (some ⟨b, 0, none⟩), .int .u32 x] w fun e w' => e = .returned (.tuple #[]) ∧ w.setCell ⟨b, 6, none⟩ (.int .u32 x) = w' := by
  go_enter Tryz.func27, Tryz.ntmps27
  go_wp2
  go_end0
  exact ⟨rfl, rfl⟩

theorem newFramer_w (bW : Nat) (w : World) :
    Calls Tryz.prog 26 #[.iface 99 (.pointer (some ⟨bW, 0, none⟩)), .nilIface] w fun e w' => e = .returned (.pointer (some ⟨w.heap.size, 0, none⟩)) ∧
      ((w.alloc (.cells (framerW (w.heap.size + 1) bW (.slice none 0 0)) 86)).alloc (.cells #[.pointer (some ⟨w.heap.size, 0, none⟩)] 67)) = w' := by
  go_enter Tryz.func26, Tryz.ntmps26
  go_wp2_with (go_at_call 27; refine (setMax_any _ 0 _ _ (by omega) (by omega) (by simp) (by simp)).mono ?_; rintro e w' ⟨rfl, rfl⟩)
  go_ret
  exact ⟨rfl, rfl⟩

/-- The state behind NewFramer. -/
theorem WS.new {w : World} {bF cl bW : Nat} {K : Nat → Prop} (hF : w.heap[bF]? = some (.cells (framerW cl bW (.slice none 0 0)) 86 (0, 0))) (hW : w.heap[bW]? = some (.cells #[.slice none 0 0] 101 (0, 0)))
    (kF : ¬ K bF) (kW : ¬ K bW) (lt : ∀ k, K k → k < w.heap.size) : WS K w bF cl bW [] [] (.slice none 0 0) (.slice none 0 0) :=
  ⟨hF, hW, World.ownsRow_nil _ _ _ _, World.ownsRow_nil _ _ _ _, kF, kW, fun g hg => (by cases hg), fun g hg => (by cases hg), fun g hg => (by cases hg), lt⟩

/-- What a method that writes leaves. -/
def Wrote (K : Nat → Prop) (w : World) (bF cl bW : Nat) (cur out : List Int) (r : Value) (e : Ending) (w' : World) : Prop :=
  e = .returned r ∧ Kept K w w' ∧ ∃ wb al, WS K w' bF cl bW cur out wb al

def hdr0 (t fl s : Int) : List Int := [0, 0, 0, t, fl, s / 16777216, s / 65536 % 256, s / 256 % 256, s % 256]

set_option maxRecDepth 10000 in
set_option maxHeartbeats 800000 in
theorem startWrite_any {K : Nat → Prop} {w : World} {bF cl bW : Nat} {cur out : List Int} {wb al : Value} (h : WS K w bF cl bW cur out wb al) (t fl s : Int) (hs0 : 0 ≤ s) (hs1 : s < 4294967296) :
    Calls Tryz.prog 99 #[.pointer (some ⟨bF, 0, none⟩), .int .u8 t, .int .u8 fl, .int .u32 s] w (Wrote K w bF cl bW (hdr0 t fl s) out (.tuple #[])) := by
  obtain ⟨a, cap, rfl, hcap, hmax⟩ := own_shape h.own
  have hc := blk_cell h.F 20
  have hf := blk_free h.F 20
  have hc' : w.cell? ⟨bF, 20, none⟩ = some (.slice a cur.length cap) := hc
  clear hc
  go_enter Tryz.func99, Tryz.ntmps99
  go_wp2_with (at_builtin; refine wpList_app E5 rfl _ _ rfl (.slice a 0 cap) 0 [] rfl (own_alloc (own_zero h.own) _) 9 _ (src_of_block Tryz.underlying22 (blk_new w _) rfl (by simp [Value.oneCell'])) (by omega) (by unfold maxLen; omega) ?_; intro a' c' w1 hown1 hgrow hat; rw [own_blk a 0 cap cur.length cap] at hgrow hat; have hF1 := blk_grown (blk_alloc h.F) hgrow h.neF; have hc1 : w1.cell? ⟨bF, 20, none⟩ = some (.slice a cur.length cap) := blk_cell hF1 20; have hf1 := blk_free hF1 20; clear hF1)
  go_end0
  have hp := (h.alloc _).put (cur' := hdr0 t fl s) hgrow hown1 hat
  exact ⟨rfl, ((Kept.refl K w).alloc _).trans hp.2, _, _, hp.1⟩
end Go.Proofs.YtfdlbjibninakaaGreatDoor
