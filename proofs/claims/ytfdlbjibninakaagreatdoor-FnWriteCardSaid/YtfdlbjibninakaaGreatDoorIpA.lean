/- impl.plain at every frame that is read. -/
import Derived.Test.YtfdlbjibninakaaGreatDoorIp
import Derived.Test.YtfdlbjibninakaaGreatDoorIpG
import Derived.Test.YtfdlbjibninakaaGreatDoorFrd
set_option linter.unusedVariables false
set_option linter.unusedSimpArgs false
namespace Go.Proofs.YtfdlbjibninakaaGreatDoor
open Go.RowKit
theorem FrB.hd {h : Hd} {x : Fr} (hb : FrB x) (h1 : x.ty = h.ty) (h2 : x.fl = h.fl) (h3 : x.ln = h.ln) : HdB h := ⟨h1 ▸ hb.t0, h1 ▸ hb.t1, h2 ▸ hb.f0, h2 ▸ hb.f1, h3 ▸ hb.l0, h3 ▸ hb.l1⟩
theorem FrC.ofBlk {w : World} {p : Nat} {cs : Array Value} {t : TypeId} {h : Hd} (hp : w.heap[p]? = some (.cells cs t (0, 0))) (h0 : cs[0]? = some (.bool true)) (h1 : cs[1]? = some (.int .u8 h.ty)) (h2 : cs[2]? = some (.int .u8 h.fl)) (h3 : cs[3]? = some (.int .u32 h.ln)) (h4 : cs[4]? = some (.int .u32 h.st)) : FrC w p h :=
  ⟨(blk_cell hp 0).trans h0, (blk_cell hp 1).trans h1, (blk_cell hp 2).trans h2, (blk_cell hp 3).trans h3, (blk_cell hp 4).trans h4⟩
theorem plain_any {A : Nat} {w : World} {fv : Value} {x : Fr} (hf : FrV A w fv x) (hb : FrB x) : Calls Tryz.prog 30 #[fv] w (PlnEnd w x) := by
  have hd := hb.dl
  cases hf with
  | data h b p v hB hp hv =>
    have hv' := hv
    obtain ⟨a, c, rfl, -, -, -⟩ := hv'
    exact plain_data (hb.hd rfl rfl rfl) (.ofBlk hp rfl rfl rfl rfl rfl) (blk_cell hp 5) hv (by have : b.length ≤ 16777215 := hd; omega)
  | headers h b p v dep wt ex hB hp hv =>
    have hv' := hv
    obtain ⟨a, c, rfl, -, -, -⟩ := hv'
    exact plain_headers (hb.hd rfl rfl rfl) (.ofBlk hp rfl rfl rfl rfl rfl) (blk_cell hp 5) (blk_cell hp 6) (blk_cell hp 7) (blk_cell hp 8) (blk_cell hp 9) hb.w0 hb.w1 (blk_cell hp 10) hv (by have : b.length ≤ 16777215 := hd; omega)
  | priority h p dep wt ex hB hp => exact plain_priority (hb.hd rfl rfl rfl) (.ofBlk hp rfl rfl rfl rfl rfl) (blk_cell hp 5) (blk_cell hp 6) (blk_cell hp 7) (blk_cell hp 8) (blk_cell hp 9) hb.w0 hb.w1
  | rst h p co hB hp => exact plain_rst (hb.hd rfl rfl rfl) (.ofBlk hp rfl rfl rfl rfl rfl) (blk_cell hp 5)
  | settings h b p v hB hp hv h6 hbs =>
    have hv' := hv
    obtain ⟨a, c, rfl, -, -, -⟩ := hv'
    have hs := hb.sl
    refine plain_settings (hb.hd rfl rfl rfl) (.ofBlk hp rfl rfl rfl rfl rfl) (blk_cell hp 5) hv hbs ?_
    have : (pairs (b.length / 6) b).length * 6 ≤ 16777215 := hs
    rw [pairs_len'] at this
    omega
  | push h b p v pr hB hp hv =>
    have hv' := hv
    obtain ⟨a, c, rfl, -, -, -⟩ := hv'
    exact plain_push (hb.hd rfl rfl rfl) (.ofBlk hp rfl rfl rfl rfl rfl) (blk_cell hp 5) (blk_cell hp 6) hv (by have : b.length ≤ 16777215 := hd; omega)
  | ping h b p cs hB hp hz h0 h1 h2 h3 h4 hd' hl =>
    exact plain_ping (hb.hd rfl rfl rfl) (.ofBlk hp h0 h1 h2 h3 h4) (fun j y hj => (blk_cell hp (5 + j)).trans (hd' j y hj)) hl
  | goaway h b p v la co hB hp hv =>
    have hv' := hv
    obtain ⟨a, c, rfl, -, -, -⟩ := hv'
    exact plain_goaway (hb.hd rfl rfl rfl) (.ofBlk hp rfl rfl rfl rfl rfl) (blk_cell hp 5) (blk_cell hp 6) (blk_cell hp 7) hv (by have : b.length ≤ 16777215 := hd; omega)
  | window h p inc hB hp => exact plain_window (hb.hd rfl rfl rfl) (.ofBlk hp rfl rfl rfl rfl rfl) (blk_cell hp 5)
  | cont h b p v hB hp hv =>
    have hv' := hv
    obtain ⟨a, c, rfl, -, -, -⟩ := hv'
    exact plain_cont (hb.hd rfl rfl rfl) (.ofBlk hp rfl rfl rfl rfl rfl) (blk_cell hp 5) hv (by have : b.length ≤ 16777215 := hd; omega)
  | update h b p pr hB hp hl hbs => exact plain_update (hb.hd rfl rfl rfl) (.ofBlk hp rfl rfl rfl rfl rfl) (blk_cell hp 5) (blk_cell hp 6) hbs (by have : b.length ≤ 16777215 := hd; omega)
  | unknown h b p v hB hp hv =>
    have hv' := hv
    obtain ⟨a, c, rfl, -, -, -⟩ := hv'
    exact plain_unknown (hb.hd rfl rfl rfl) (.ofBlk hp rfl rfl rfl rfl rfl) (blk_cell hp 5) hv (by have : b.length ≤ 16777215 := hd; omega)
end Go.Proofs.YtfdlbjibninakaaGreatDoor
