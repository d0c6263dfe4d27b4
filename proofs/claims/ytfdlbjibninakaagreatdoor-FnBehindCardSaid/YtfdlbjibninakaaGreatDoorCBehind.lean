/- FnBehind is proved: frames behind other ones that end well, with no header block that goes on, are read as by themselves; where the statement asks nothing it is true at once. The card is tied to the program's text. -/
import Derived.Test.YtfdlbjibninakaaGreatDoorBase
import Derived.Test.YtfdlbjibninakaaGreatDoorMa
import Derived.Test.YtfdlbjibninakaaGreatDoorIp1
import Derived.Test.YtfdlbjibninakaaGreatDoorMl2
import Derived.Test.YtfdlbjibninakaaGreatDoorSp2
import Derived.Test.YtfdlbjibninakaaGreatDoorSr
import Derived.Test.YtfdlbjibninakaaGreatDoorLr2
import Derived.Test.YtfdlbjibninakaaGreatDoorRl
import Derived.Test.YtfdlbjibninakaaGreatDoorFrame
set_option linter.unusedVariables false
set_option linter.unusedSimpArgs false
namespace Go.Proofs.YtfdlbjibninakaaGreatDoor
open Go.RowKit
theorem run_app_full {P : Program} {T e size bytes : Nat} {z : Value} (E : Elem P T e size bytes z) (w : World) (tx ty : Nat) (g n : Nat) (xs : List Value) (hlen : xs.length = n * size) (holds : ∀ j u, xs[j]? = some u → w.cell? ⟨g, j, none⟩ = some u) (x : Value) (m : Nat) (news : List Value) (hs : Src P size tx x m news w) (hm : 0 < m)
    (hb : (n + m) * bytes ≤ 140737488355328) (h63 : n + m ≤ maxLen) :
    ∃ a' c' w', (Builtin.append_ #[T, tx] ty #[.slice (some ⟨g, 0, none⟩) n n, x]).run P w = .ok (.slice a' (n + m) c') w' ∧ Row w' e size (.slice a' (n + m) c') (n + m) (xs ++ news) ∧ Below w.heap.size w w' ∧
      (Value.slice a' (n + m) c').ownBlock = some w.heap.size := by
  obtain ⟨i, hi, hz, hsize, hby⟩ := info_parts E.info
  subst hsize
  subst hby
  have hsmall : n + m ≤ 9223372036854775807 := by simp only [maxLen] at h63; omega
  have hlen2 : (xs ++ news).length = (n + m) * i.size := by rw [List.length_append, hlen, hs.newsLen, Nat.add_mul]
  have hzs := E.zs
  have hge := grownCap_ge w (n + m) n e
  have hcm : grownCap w (n + m) n e ≤ maxLen := grownCap_le_maxLen w (n + m) n e h63
  have holds' : ∀ j u, xs[j]? = some u → w.drew.cell? ((⟨g, 0, none⟩ : Addr).add j) = some u := fun j u hu => by
    rw [Addr.add_lit, Nat.zero_add]
    exact holds j u hu
  have hr := run_append_grow_src (P := P) w T tx ty e i z E.sl hi hz (some ⟨g, 0, none⟩) n n xs (run_firstCells_some w.drew i.size n ⟨g, 0, none⟩ n n xs hlen holds') x m news hs (by omega) (by omega) (growslice_fits (by omega) hb)
  refine ⟨_, _, _, hr, ⟨hlen2, .inr ⟨w.heap.size, _, _, rfl, Nat.zero_le _, heap_alloc_new w.drew _, hge, hcm, ?_, ?_⟩⟩, ⟨rfl, rfl, rfl, by simp, fun k hk => Below.heap_alloc w.drew _ k hk⟩, rfl⟩
  · simp only [Array.size_append, List.size_toArray, size_zeroCells, hzs, hlen2, ← Nat.add_mul]
    congr 1
    omega
  · simp only [Array.toList_append, ← hlen2]
    exact List.take_left
section
variable {P : Program} {T e size bytes tx : Nat} {z : Value} {w : World} {ops : Array Oper} {rest : List Oper} {o : Oper} {a : Act} {Q : Exit → Act → World → Prop}
theorem wp_app_full (E : Elem P T e size bytes z) {K : Act → World → Prop} (s x : Operand) (ho : o.op = .call { callee := .builtin .append, args := #[s, x], argTypes := #[T, tx] })
    (g n : Nat) (xs : List Value) (hs : a.eval s = .slice (some ⟨g, 0, none⟩) n n) (hlen : xs.length = n * size) (holds : ∀ j u, xs[j]? = some u → w.cell? ⟨g, j, none⟩ = some u) (m : Nat) (news : List Value) (hx : Src P size tx (a.eval x) m news w) (hm : 0 < m)
    (hb : (n + m) * bytes ≤ 140737488355328) (h63 : n + m ≤ maxLen)
    (h : ∀ a' c' w', Row w' e size (.slice a' (n + m) c') (n + m) (xs ++ news) → Below w.heap.size w w' → (Value.slice a' (n + m) c').ownBlock = some w.heap.size → K (a.put o.dst (.slice a' (n + m) c')) w') : o.wp P a w K Q := by
  obtain ⟨a', c', w', hr, h2, h3, h4⟩ := run_app_full (P := P) E w tx o.type g n xs hlen holds (a.eval x) m news hx hm hb h63
  unfold Oper.wp execOp
  simp only [ho, resolve, invoke, builtin, Sem.run_bind, Sem.run_pure, Result.andThen_ok, List.map_toArray, List.map_cons, List.map_nil, hs, hr]
  exact h a' c' w' h2 h3 h4
theorem wpList_app_full (E : Elem P T e size bytes z) (hgd : o.guard = none) (s x : Operand) (ho : o.op = .call { callee := .builtin .append, args := #[s, x], argTypes := #[T, tx] })
    (g n : Nat) (xs : List Value) (hs : a.eval s = .slice (some ⟨g, 0, none⟩) n n) (hlen : xs.length = n * size) (holds : ∀ j u, xs[j]? = some u → w.cell? ⟨g, j, none⟩ = some u) (m : Nat) (news : List Value) (hx : Src P size tx (a.eval x) m news w) (hm : 0 < m)
    (hb : (n + m) * bytes ≤ 140737488355328) (h63 : n + m ≤ maxLen)
    (h : ∀ a' c' w', Row w' e size (.slice a' (n + m) c') (n + m) (xs ++ news) → Below w.heap.size w w' → (Value.slice a' (n + m) c').ownBlock = some w.heap.size → wpList P ops Q rest (a.put o.dst (.slice a' (n + m) c')) w') :
    wpList P ops Q (o :: rest) a w :=
  wpList_plain hgd fun _ hK => wp_app_full E s x ho g n xs hs hlen holds m news hx hm hb h63 fun a' c' w' h2 h3 h4 => hK _ _ (h a' c' w' h2 h3 h4)
theorem step_app_full {K : Act → World → Prop} {X : Prop} (E : Elem P T e size bytes z) (hgd : o.guard = none) (s x : Operand) (ho : o.op = .call { callee := .builtin .append, args := #[s, x], argTypes := #[T, tx] })
    (g n : Nat) (xs : List Value) (hs : a.eval s = .slice (some ⟨g, 0, none⟩) n n) (hlen : xs.length = n * size) (holds : ∀ j u, xs[j]? = some u → w.cell? ⟨g, j, none⟩ = some u) (m : Nat) (news : List Value) (hx : Src P size tx (a.eval x) m news w) (hm : 0 < m)
    (hb : (n + m) * bytes ≤ 140737488355328) (h63 : n + m ≤ maxLen)
    (h : ∀ a' c' w', Row w' e size (.slice a' (n + m) c') (n + m) (xs ++ news) → Below w.heap.size w w' → (Value.slice a' (n + m) c').ownBlock = some w.heap.size → K (a.put o.dst (.slice a' (n + m) c')) w') :
    if Region.wanted o (yielded ops a.tmps) = true then Oper.wp P o a w K Q else X := by
  rw [if_pos (by simp [Region.wanted, hgd])]
  exact wp_app_full E s x ho g n xs hs hlen holds m news hx hm hb h63 h
end
end Go.Proofs.YtfdlbjibninakaaGreatDoor

namespace Go.Proofs.YtfdlbjibninakaaGreatDoor
open Go.RowKit
namespace Pl
theorem openB_snoc (l : List Rs) (r : Rs) : ∀ q, openB q (l ++ [r]) = if r.f = 0 ∧ (r.x.ty = 1 ∨ r.x.ty = 9) then !(bitOf r.x.fl 4) else openB q l := by
  induction l with
  | nil => intro q; rfl
  | cons y l ih => intro q; rw [List.cons_append, openB, ih, openB]
/-- The flags of what the reference reads. -/
theorem sRead_fl {m : Int} (n : Nat) : ∀ (b : List Int), b.length = n → Byt b → ∀ o, ∀ r ∈ (sRead m o b).1, r.f = 0 → 0 ≤ r.x.fl ∧ r.x.fl < 256 := by
  induction n using Nat.strongRecOn with
  | _ n ih =>
    intro b hn hb o r hr hf
    cases hS : sStep m o b with
    | stop l q =>
      rw [sRead_stop hS] at hr
      have hr' : r ∈ l := hr
      unfold sStep at hS
      by_cases h1 : b.length < 9
      · rw [if_pos h1] at hS; cases hS
        simp at hr'
        rcases cutOff_f b with h | h
        · rw [hr'] at hf; have := h.1; omega
        · rw [hr'] at hf; omega
      rw [if_neg h1] at hS
      by_cases h2 : 0 < m ∧ m < (hdOf b).ln
      · rw [if_pos h2] at hS
        split at hS
        · cases hS; simp at hr'; subst hr'; simp [Rs.bad] at hf
        · cases hS; simp at hr'; subst hr'; simp [Rs.bad] at hf
      rw [if_neg h2] at hS
      by_cases h3 : ((b.drop 9).length : Int) < (hdOf b).ln
      · rw [if_pos h3] at hS; cases hS; simp at hr'; subst hr'; simp [Rs.bad] at hf
      rw [if_neg h3] at hS
      have hsF := sPayload_sF (hdOf b) ((b.drop 9).take (hdOf b).ln.toNat)
      have hbd := (hdOf_bd hb).2.1
      generalize sPayload (hdOf b) ((b.drop 9).take (hdOf b).ln.toNat) = p at *
      have key : r = p → 0 ≤ r.x.fl ∧ r.x.fl < 256 := by
        intro e
        subst e
        rcases hsF with h | h | h | h | h
        · rw [h.2.2.2.2.1]; exact hbd
        all_goals omega
      unfold sAfter at hS
      split at hS
      · cases hS; cases hr'
      split at hS
      · split at hS
        · cases hS; simp at hr'; subst hr'; simp [Rs.bad] at hf
        · cases hS; simp at hr'; subst hr'; simp [Rs.bad] at hf
      split at hS
      · cases hS; simp at hr'; exact key hr'
      split at hS
      · cases hS; simp at hr'; exact key hr'
      split at hS
      · cases hS; simp at hr'; exact key hr'
      · cases hS
    | go r0 o' b' =>
      rw [sRead_go hS] at hr
      have hless := sStep_less hS
      obtain ⟨h1, h2, h3, hA⟩ := sStep_go hS
      obtain ⟨hr0, rfl, -⟩ := sAfter_go hA
      have hsF := sPayload_sF (hdOf b) ((b.drop 9).take (hdOf b).ln.toNat)
      rcases List.mem_cons.1 hr with rfl | hr
      · rw [← hr0] at hsF
        rcases hsF with h | h | h | h | h
        · rw [h.2.2.2.2.1]; exact (hdOf_bd hb).2.1
        all_goals omega
      · exact ih _ (by omega) _ rfl ((hb.drop 9).drop _) o' r hr hf
end Pl
set_option maxRecDepth 10000 in
set_option maxHeartbeats 8000000 in
theorem closed_any {w : World} {v : Value} {rs : List Rs} (h : ResR 31 w v rs) (hfl : ∀ r ∈ rs, r.f = 0 → 0 ≤ r.x.fl ∧ r.x.fl < 256) :
    Calls Tryz.prog 8 #[v] w fun e w' => e = .returned (.bool (!Pl.openB false rs)) ∧ Below w.heap.size w w' := by
  obtain ⟨a1, c1, rfl, hc1, hx1⟩ := own_shape h.choose_spec.1
  have hnm : rs.length ≤ 9223372036854775807 := by unfold maxLen at hx1; omega
  have H1 := Lib.hid h
  have HF := Lib.hid hfl
  clear h hfl
  go_enter Tryz.func8, Tryz.ntmps8
  go_wp2_with fail
  go_loopw [3, 9] (fun x i wr => ∃ k : Nat, k ≤ rs.length ∧ i = .int .i64 k ∧ x = .bool (Pl.openB false (rs.take k)) ∧ Below w.heap.size w wr) (fun _ i _ => rs.length - (intOf i).toNat)
  case atStart => exact ⟨0, Nat.zero_le _, rfl, rfl, Below.refl _ _⟩
  case round =>
    obtain ⟨k, hk, rfl, rfl, hbel⟩ := hrel
    by_cases hlt : k < rs.length
    · obtain ⟨b1, dv, sv, rfl, hd1, hs1, hcl1⟩ := resR_at H1.out hlt
      have hsn : rs.take (k + 1) = rs.take k ++ [rs[k]] := List.take_succ_eq_append_getElem hlt
      have hop := congrArg (Pl.openB false) hsn
      rw [Pl.openB_snoc] at hop
      have hfl := HF.out rs[k] (List.getElem_mem hlt)
      generalize rs[k] = x at hop hfl hd1 hs1 hcl1
      obtain ⟨d1, e1, rfl, -, -, -⟩ := id hd1
      obtain ⟨s1, t1, rfl, -, -, -⟩ := id hs1
      obtain ⟨fr1, hz1, hi1, ho1, q0, q3, q4, hcl⟩ : ∃ fr : Array Value, fr.size = 17 ∧ (Tryz.prog.info? 31).map (·.size) = some fr.size ∧ (∀ u ∈ fr.toList, u.oneCell' = true) ∧ fr[0]? = some (.int .i64 x.f) ∧ fr[3]? = some (.int .i64 x.x.ty) ∧ fr[4]? = some (.int .i64 x.x.fl) ∧ (∀ j u, fr[j]? = some u → w.cell? ⟨b1, k * 17 + j, none⟩ = some u) := ⟨rsX x (.slice d1 x.x.data.length e1) (.slice s1 x.x.set.length t1), rfl, infoRs, rsX_one _ _ _ _ _ _ _, rfl, rfl, rfl, hcl1⟩
      have C1 : Hid (∀ j u, fr1[j]? = some u → wr.cell? ⟨b1, k * 17 + j, none⟩ = some u) := Lib.hid fun j u hu => cell_below (hcl j u hu) hbel
      have Q0 := Lib.hid q0
      have Q3 := Lib.hid q3
      have Q4 := Lib.hid q4
      have HOP := Lib.hid hop
      obtain ⟨z, hz⟩ : ∃ z, Pl.openB false (rs.take k) = z := ⟨_, rfl⟩
      rw [hz] at hop
      have HZ := Lib.hid hop
      clear hd1 hs1 hcl1 hcl hsn q0 q3 q4 hop HOP
      rw [hz]
      clear hz
      rcases (show (x.f != 0) = true ∨ (x.f != 0) = false by cases (x.f != 0) <;> simp) with hf | hf
      · have hf0 : ¬ x.f = 0 := by simpa using hf
        have hnx : Pl.openB false (rs.take (k + 1)) = z := by rw [HZ.out, if_neg (fun h => hf0 h.1)]
        have HN := Lib.hid hnx
        clear hnx hf0 hfl
        go_wp2_with (first
          | (refine wpList_load_at rfl _ _ rfl b1 (k * 17) rfl fr1 C1.out Tryz.underlying31 hi1 ?_)
          | (refine wpList_store_blk rfl _ _ _ rfl wr.heap.size rfl fr1 _ rfl 31 (blk_new _ _) hz1 hi1 ho1 ?_; intro w1 hb1 k1; have B1 := below_new k1; have A0 : w1.cell? ⟨wr.heap.size, 0, none⟩ = some (.int .i64 x.f) := (blk_cell hb1 0).trans Q0.out; have A3 : w1.cell? ⟨wr.heap.size, 3, none⟩ = some (.int .i64 x.x.ty) := (blk_cell hb1 3).trans Q3.out; have A4 : w1.cell? ⟨wr.heap.size, 4, none⟩ = some (.int .i64 x.x.fl) := (blk_cell hb1 4).trans Q4.out))
        go_roundw
        case rel => exact ⟨k + 1, by omega, by go_num, by rw [HN.out], Below.step hbel B1⟩
        case measure => simp [intOf]; omega
      · have hf0 : x.f = 0 := by simpa using hf
        obtain ⟨f0, f1⟩ := hfl hf0
        have hand := i64_and4 x.x.fl f0 f1
        by_cases ht : x.x.ty = 1 ∨ x.x.ty = 9
        · have htt : ((x.x.ty == 1) = true ∨ (x.x.ty == 1) = false ∧ (x.x.ty == 9) = true) := by rcases ht with h | h <;> simp [h]
          have hnx : Pl.openB false (rs.take (k + 1)) = !(bitOf x.x.fl 4) := by rw [HZ.out, if_pos ⟨hf0, ht⟩]
          have HN := Lib.hid hnx
          clear hnx hf0 ht hfl
          cases hb4 : bitOf x.x.fl 4
          all_goals
            rw [hb4] at hand
            have HB4 := Lib.hid hb4
            clear hb4
            rcases htt with ht1 | ⟨ht1, ht9⟩
            all_goals
              go_wp2_with (first
                | (refine wpList_load_at rfl _ _ rfl b1 (k * 17) rfl fr1 C1.out Tryz.underlying31 hi1 ?_)
                | (refine wpList_store_blk rfl _ _ _ rfl wr.heap.size rfl fr1 _ rfl 31 (blk_new _ _) hz1 hi1 ho1 ?_; intro w1 hb1 k1; have B1 := below_new k1; have A0 : w1.cell? ⟨wr.heap.size, 0, none⟩ = some (.int .i64 x.f) := (blk_cell hb1 0).trans Q0.out; have A3 : w1.cell? ⟨wr.heap.size, 3, none⟩ = some (.int .i64 x.x.ty) := (blk_cell hb1 3).trans Q3.out; have A4 : w1.cell? ⟨wr.heap.size, 4, none⟩ = some (.int .i64 x.x.fl) := (blk_cell hb1 4).trans Q4.out))
              go_roundw
              case rel => exact ⟨k + 1, by omega, by go_num, by rw [HN.out, HB4.out]; rfl, Below.step hbel B1⟩
              case measure => simp [intOf]; omega
        · have ht1 : (x.x.ty == 1) = false := beq_false_of_ne fun e => ht (.inl e)
          have ht9 : (x.x.ty == 9) = false := beq_false_of_ne fun e => ht (.inr e)
          have hnx : Pl.openB false (rs.take (k + 1)) = z := by rw [HZ.out, if_neg (fun h => ht h.2)]
          have HN := Lib.hid hnx
          clear hnx hf0 ht hfl hand f0 f1
          go_wp2_with (first
            | (refine wpList_load_at rfl _ _ rfl b1 (k * 17) rfl fr1 C1.out Tryz.underlying31 hi1 ?_)
            | (refine wpList_store_blk rfl _ _ _ rfl wr.heap.size rfl fr1 _ rfl 31 (blk_new _ _) hz1 hi1 ho1 ?_; intro w1 hb1 k1; have B1 := below_new k1; have A0 : w1.cell? ⟨wr.heap.size, 0, none⟩ = some (.int .i64 x.f) := (blk_cell hb1 0).trans Q0.out; have A3 : w1.cell? ⟨wr.heap.size, 3, none⟩ = some (.int .i64 x.x.ty) := (blk_cell hb1 3).trans Q3.out; have A4 : w1.cell? ⟨wr.heap.size, 4, none⟩ = some (.int .i64 x.x.fl) := (blk_cell hb1 4).trans Q4.out))
          go_roundw
          case rel => exact ⟨k + 1, by omega, by go_num, by rw [HN.out], Below.step hbel B1⟩
          case measure => simp [intOf]; omega
    · have hkl : k = rs.length := by omega
      subst hkl
      rw [List.take_length]
      go_wp2
      go_ret
      exact ⟨rfl, hbel⟩
end Go.Proofs.YtfdlbjibninakaaGreatDoor

namespace Go.Proofs.YtfdlbjibninakaaGreatDoor
open Go.RowKit
theorem maxOk_mx {mx : Int} : Pl.MaxOk mx (mxOf mx) := by
  by_cases h : 0 < mx
  · exact .inl ⟨h, mxOf_pos h⟩
  · exact .inr ⟨h, by rw [mxOf_neg h]; omega⟩
set_option maxRecDepth 10000 in
set_option maxHeartbeats 8000000 in
theorem fnRead_any {B : Nat} {aE aU aT : Addr} {w : World} {L ps : List Int} {data pcs : Value} (hV : GV B w aE aU aT) (hB : B ≤ w.heap.size) (hd : RdB w data L) (hp : RdI .i64 w pcs ps) (bs : Bs L) (mx : Int) :
    Calls Tryz.prog 4 #[data, pcs, .int .i64 mx] w (YesEnd w) := by
  have hd' := hd
  have hp' := hp
  obtain ⟨da, dc, rfl, -, -, -⟩ := hd'
  obtain ⟨pa, pc, rfl, -, -, -⟩ := hp'
  by_cases h1 : (2147483647 : Int) < L.length
  · clear hd hp
    go_enter Tryz.func4, Tryz.ntmps4
    go_wp2
    go_ret
    exact ⟨rfl, Below.refl _ _⟩
  by_cases h0 : (2147483647 : Int) < ps.length
  · clear hd hp
    go_enter Tryz.func4, Tryz.ntmps4
    go_wp2
    go_ret
    exact ⟨rfl, Below.refl _ _⟩
  by_cases h2 : (65536 : Int) < L.length
  · clear hd hp
    go_enter Tryz.func4, Tryz.ntmps4
    go_wp2
    go_ret
    exact ⟨rfl, Below.refl _ _⟩
  by_cases h3 : mx < 0
  · clear hd hp
    go_enter Tryz.func4, Tryz.ntmps4
    go_wp2
    go_ret
    exact ⟨rfl, Below.refl _ _⟩
  by_cases h4 : 65536 < mx
  · clear hd hp
    go_enter Tryz.func4, Tryz.ntmps4
    go_wp2
    go_ret
    exact ⟨rfl, Below.refl _ _⟩
  have hr1 := specRead_any hd bs (by omega) mx (by omega)
  obtain ⟨hs1, hs2⟩ := readAll_small (m := mxOf mx) (o := 0) bs (by omega)
  have hmat := Pl.read_mat (maxOk_mx (mx := mx)) _ L rfl bs 0
  have hr2 := fun (w' : World) (hb : Below w.heap.size w w') => implRead_any (pcs := .slice pa ps.length pc) (ps := ps) (hV.below hb) (Nat.le_trans hB hb.size) (hd.below hb) (hp.below hb) bs (by omega) mx (by omega) (by omega)
  generalize readAll (mxOf mx) 0 L = rs at *
  obtain ⟨⟨ws, q⟩, hwq⟩ : ∃ x, Pl.sRead mx 0 L = x := ⟨_, rfl⟩
  rw [hwq] at hr1 hmat
  simp only at hr1 hmat
  have R2 := Lib.hid hr2
  have HM := Lib.hid hmat
  have HS := Lib.hid hs2
  clear hr2 hmat hs2 hd hp hwq
  go_enter Tryz.func4, Tryz.ntmps4
  go_wp2_with fail
  refine hr1.mono ?_
  rintro e w1 ⟨v1, rfl, b1, hR1, hf1⟩
  clear hr1 hf1
  obtain ⟨va1, vc1, rfl, -, -⟩ := own_shape hR1.choose_spec.1
  have H1 := Lib.hid hR1
  have hr3 := R2.out w1 b1
  clear hR1
  go_wp2_with fail
  refine hr3.mono ?_
  rintro e w3 ⟨v3, rfl, b3, hR3, hf3⟩
  have r3 := results_any v3 rs w3 hR3 hs1 HS.out
  clear hr3
  go_wp2_with fail
  refine r3.mono ?_
  rintro e w4 ⟨v4, rfl, b4, hR4, hf4⟩
  clear r3 hR3 hf3
  have b14 : Below w1.heap.size w1 w4 := Below.step b3 b4
  have hm := matches_yes HM.out (H1.out.stay b14) hR4
  have b04 : Below w.heap.size w w4 := Below.step b1 b14
  obtain ⟨va4, vc4, rfl, -, -⟩ := own_shape hR4.choose_spec.1
  clear hR4 hf4
  go_wp2_with fail
  refine hm.mono ?_
  rintro e w5 ⟨rfl, b5⟩
  clear hm
  have b15 := Below.step b04 b5
  have hrd := reads_any (hV.below b15) (Nat.le_trans hB b15.size)
  go_wp2_with (go_at_call 12; refine hrd.mono ?_; rintro e w6 ⟨rfl, b6⟩)
  go_ret
  exact ⟨rfl, Below.step b15 b6⟩
end Go.Proofs.YtfdlbjibninakaaGreatDoor

namespace Go.Proofs.YtfdlbjibninakaaGreatDoor
open Go.RowKit
theorem RsAll.take {K : Nat → Prop} {w : World} {xs : List Value} {rs : List Rs} (h : RsAll K w xs rs) : ∀ k, RsAll K w (xs.take (k * 17)) (rs.take k) := by
  induction h with
  | nil => intro k; rw [List.take_nil, List.take_nil]; exact .nil
  | cons r dv sv xs rs hd hdk hs hsk h ih =>
    intro k
    cases k with
    | zero => rw [Nat.zero_mul, List.take_zero, List.take_zero]; exact .nil
    | succ k =>
      have hl : (rsX r dv sv).toList.length = 17 := by rw [Array.length_toList, rsX_size]
      rw [List.take_succ_cons, List.take_append, hl, show (k + 1) * 17 - 17 = k * 17 by omega, List.take_of_length_le (by rw [hl]; omega)]
      exact .cons r dv sv _ _ hd hdk hs hsk (ih k)
theorem rsAll_one' {K : Nat → Prop} {w : World} {xs : List Value} {rs : List Rs} (h : RsAll K w xs rs) : ∀ u ∈ xs, u.oneCell' = true := by
  induction h with
  | nil => intro u hu; cases hu
  | cons r dv sv xs rs hd hdk hs hsk h ih =>
    intro u hu
    obtain ⟨a, c, rfl, -, -, -⟩ := hd
    obtain ⟨b, d, rfl, -, -, -⟩ := hs
    rcases List.mem_append.1 hu with h | h
    · exact rsX_one _ _ _ _ _ _ _ u h
    · exact ih u h
theorem own_at' {w : World} {e size n g c : Nat} {xs : List Value} (h : Row w e size (.slice (some ⟨g, 0, none⟩) n c) n xs) : ∀ j u, xs[j]? = some u → w.cell? ⟨g, j, none⟩ = some u := fun j u hu => by
  obtain ⟨g', c', e, hc⟩ := own_cell h j u hu
  cases e
  exact hc
theorem bs_app {a b : List Int} (h : Bs a) (g : Bs b) : Bs (a ++ b) := fun x hx => (List.mem_append.1 hx).elim (h x) (g x)
theorem rdNilB (w : World) : RdI .i64 w (.slice none 0 0) [] := ⟨none, 0, rfl, Nat.le_refl _, Nat.zero_le _, fun j x h => by simp at h⟩
/-- A full slice of results: x[:k:k]. -/
theorem run_slice_full {g n c k : Nat} (h1 : k ≤ n) (h2 : n ≤ c) (w : World) : (Instr.slice 23 (.slice (some ⟨g, 0, none⟩) n c) none (some (.int .i64 (k : Int))) (some (.int .i64 (k : Int)))).run Tryz.prog w = .ok (.slice (some ⟨g, 0, none⟩) k k) w := by
  obtain ⟨i, hi, hs⟩ := Option.map_eq_some_iff.1 (show (Tryz.prog.info? 31).map (·.size) = some 17 by kernel_rfl)
  have hk : k ≤ c := by omega
  simp [Instr.slice, run_underlying Tryz.underlying23, Instr.sliceBounds, Instr.sliceBound, asIntOf, sizeOf, typeInfo, hi, hs, hk, Addr.add_lit]
/-- Results with the last one off, and others behind them. -/
theorem res_behind {w w2 : World} {m : Nat} {v : Value} {ra rb : List Rs} {xs ys : List Value} (ha : RsAll All w xs ra) (hm : ra.length = m + 1) (hb : RsAll All w ys rb) (hr : Row w2 31 17 v (m + rb.length) (xs.take (m * 17) ++ ys)) (hbel : Below w.heap.size w w2) : ResR 31 w2 v (ra.dropLast ++ rb) := by
  have e : ra.dropLast = ra.take m := by rw [List.dropLast_eq_take, hm]; rfl
  rw [e]
  refine ⟨_, by rw [List.length_append, List.length_take, hm, Nat.min_eq_left (by omega)]; exact hr, ?_⟩
  exact RsAll.app ((ha.take m).stay hbel) (hb.stay hbel)
set_option maxRecDepth 10000 in
set_option maxHeartbeats 16000000 in
theorem fnBehind_main {B : Nat} {aE aU aT : Addr} {w : World} {L R : List Int} {da db : Option Addr} {dc dd : Nat} (hV : GV B w aE aU aT) (hB : B ≤ w.heap.size) (ha : RdB w (.slice da L.length dc) L) (hb : RdB w (.slice db R.length dd) R) (bs : Bs L) (br : Bs R) (mx : Int)
    (h2 : (L.length : Int) + (R.length : Int) ≤ 65536) (h3 : 0 ≤ mx) (h4 : mx ≤ 65536) :
    Calls Tryz.prog 3 #[.slice da L.length dc, .slice db R.length dd, .int .i64 mx] w (YesEnd w) := by
  have hr0 := specRead_any ha bs (by omega) mx h3
  have hfl := Pl.sRead_fl (m := mx) _ L rfl bs 0
  have hbh := Pl.read_behind (maxOk_mx (mx := mx)) R _ L rfl bs 0
  obtain ⟨⟨ws, q⟩, hwq⟩ : ∃ x, Pl.sRead mx 0 L = x := ⟨_, rfl⟩
  rw [hwq] at hr0 hfl hbh
  simp only [ne_eq, not_true_eq_false, decide_false] at hr0 hfl hbh
  have rA := fun (W : World) (b : Below w.heap.size w W) => implRead_any (pcs := .slice none 0 0) (ps := []) (hV.below b) (Nat.le_trans hB b.size) (ha.below b) (rdNilB W) bs (by omega) mx (by omega) (by omega)
  have rB := fun (W : World) (b : Below w.heap.size w W) => implRead_any (pcs := .slice none 0 0) (ps := []) (hV.below b) (Nat.le_trans hB b.size) (hb.below b) (rdNilB W) br (by omega) mx (by omega) (by omega)
  have rC := fun (W : World) (v : Value) (b : Below w.heap.size w W) (hv : RdB W v (L ++ R)) => implRead_any (pcs := .slice none 0 0) (ps := []) (hV.below b) (Nat.le_trans hB b.size) hv (rdNilB W) (bs_app bs br) (by rw [List.length_append]; omega) mx (by omega) (by omega)
  obtain ⟨sA1, sA2⟩ := readAll_small (m := mxOf mx) (o := 0) bs (by omega)
  obtain ⟨sB1, sB2⟩ := readAll_small (m := mxOf mx) (o := 0) br (by omega)
  obtain ⟨sC1, sC2⟩ := readAll_small (m := mxOf mx) (o := 0) (b := L ++ R) (bs_app bs br) (by rw [List.length_append]; omega)
  have nA : 0 < (readAll (mxOf mx) 0 L).length := List.length_pos_iff.2 Pl.readAll_ne
  have nB : 0 < (readAll (mxOf mx) 0 R).length := List.length_pos_iff.2 Pl.readAll_ne
  have hmat := Pl.read_same (m := mxOf mx) (o := 0) (b := L ++ R) (q := true)
  generalize readAll (mxOf mx) 0 L = ra at *
  generalize readAll (mxOf mx) 0 R = rb at *
  generalize readAll (mxOf mx) 0 (L ++ R) = rc at *
  have HFL := Lib.hid hfl
  have HBH := Lib.hid hbh
  have HM := Lib.hid hmat
  have RA := Lib.hid rA
  have RB := Lib.hid rB
  have RC := Lib.hid rC
  have SA2 := Lib.hid sA2
  have SB2 := Lib.hid sB2
  have SC2 := Lib.hid sC2
  have HA := Lib.hid ha
  have HBB := Lib.hid hb
  clear hfl hbh hmat rA rB rC sA2 sB2 sC2 ha hb hwq
  go_enter Tryz.func3, Tryz.ntmps3
  go_wp2_with fail
  refine hr0.mono ?_
  rintro e w1 ⟨v1, rfl, b1, hR1, hf1⟩
  clear hr0 hf1
  replace hR1 : ResR 31 w1 v1 ws := hR1
  obtain ⟨va1, vc1, rfl, hc1, hx1⟩ := own_shape hR1.choose_spec.1
  have hwm : ws.length ≤ 9223372036854775807 := by unfold maxLen at hx1; omega
  cases q with
  | false =>
    clear hR1
    go_wp2
    go_ret
    exact ⟨rfl, b1⟩
  | true =>
    by_cases h0 : ws.length = 0
    · have hq0 : ((ws.length : Int) == 0) = true := beq_iff_eq.2 (by omega)
      clear hR1 h0
      go_wp2
      go_ret
      exact ⟨rfl, b1⟩
    · obtain ⟨n, hn⟩ : ∃ n, ws.length = n + 1 := ⟨ws.length - 1, by omega⟩
      have hlt : n < ws.length := by omega
      have hq0 : ((ws.length : Int) == 0) = false := beq_false_of_ne (by omega)
      have hw1 : IntKind.i64.wrap ((ws.length : Int) - 1) = (n : Int) := by rw [IntWalk.i64_in _ ⟨by omega, by omega⟩]; omega
      have H1 := Lib.hid hR1
      obtain ⟨g, dv, sv, rfl, -, -, hcl⟩ := resR_at hR1 hlt
      have c0 : w1.cell? ⟨g, n * 17, none⟩ = some (.int .i64 ws[n].f) := hcl 0 _ rfl
      have hla : ws.getLast? = some ws[n] := by rw [List.getLast?_eq_getElem?, show ws.length - 1 = n by omega]; exact List.getElem?_eq_getElem hlt
      have hlti : (n : Int) < ws.length := by omega
      have HBX := Lib.hid (HBH.out rfl _ hla)
      generalize ws[n] = x at c0 HBX
      clear hcl hla hR1 hn h0
      rcases (show (x.f != 1) = true ∨ (x.f != 1) = false by cases (x.f != 1) <;> simp) with hx | hx
      · go_wp2
        go_ret
        exact ⟨rfl, b1⟩
      · have hx1 : x.f = 1 := by simpa using hx
        have HBY := Lib.hid (HBX.out hx1)
        have hcls := closed_any H1.out HFL.out
        obtain ⟨z, hz⟩ : ∃ z, Pl.openB false ws = z := ⟨_, rfl⟩
        rw [hz] at hcls
        have HZ := Lib.hid hz
        have HCL := Lib.hid hcls
        clear hz hcls hx1
        cases z with
        | true =>
          go_wp2_with (go_at_call 8; refine HCL.out.mono ?_; rintro e w2 ⟨rfl, b2⟩)
          go_ret
          exact ⟨rfl, Below.step b1 b2⟩
        | false =>
          have hrc := HBY.out HZ.out
          have hm := HM.out
          have hm' : Pl.Mat true (ra.dropLast ++ rb) rc := by rw [hrc] at hm ⊢; exact hm
          have HM' := Lib.hid hm'
          clear hm hm' hrc
          go_wp2_with (go_at_call 8; refine HCL.out.mono ?_; rintro e w2 ⟨rfl, b2⟩)
          have B2 := Below.step b1 b2
          refine (RA.out w2 B2).mono ?_
          rintro e w3 ⟨v3, rfl, b3, hR3, hf3⟩
          have r3 := results_any v3 ra w3 hR3 sA1 SA2.out
          clear hR3 hf3
          go_wp2_with fail
          refine r3.mono ?_
          rintro e w4 ⟨v4, rfl, b4, hR4, hf4⟩
          clear r3 hf4
          have B4 := Below.step (Below.step B2 b3) b4
          obtain ⟨g4, dv4, sv4, hv4, -, -, -⟩ : ∃ g4 dv sv, v4 = .slice (some ⟨g4, 0, none⟩) ra.length (match v4 with | .slice _ _ c => c | _ => 0) ∧ RdB w4 dv ra[0].x.data ∧ RdP w4 sv ra[0].x.set ∧ True := by
            obtain ⟨va4, vc4, rfl, -, -⟩ := own_shape hR4.choose_spec.1
            obtain ⟨g, dv, sv, rfl, h1, h2, -⟩ := resR_at hR4 nA
            exact ⟨g, dv, sv, rfl, h1, h2, trivial⟩
          obtain ⟨c4, hc4⟩ : ∃ c, (match v4 with | .slice _ _ c => c | _ => 0) = c := ⟨_, rfl⟩
          rw [hc4] at hv4
          clear hc4
          subst hv4
          have hc4 : ra.length ≤ c4 := by
            obtain ⟨_, _, e, h, -⟩ := own_shape hR4.choose_spec.1
            cases e
            exact h
          have H4 := Lib.hid hR4
          clear hR4
          go_wp2_with fail
          refine (RB.out w4 B4).mono ?_
          rintro e w5 ⟨v5, rfl, b5, hR5, hf5⟩
          have r5 := results_any v5 rb w5 hR5 sB1 SB2.out
          clear hR5 hf5
          go_wp2_with fail
          refine r5.mono ?_
          rintro e w6 ⟨v6, rfl, b6, hR6, hf6⟩
          clear r5 hf6
          have b46 := Below.step b5 b6
          have B6 := Below.step B4 b46
          obtain ⟨va6, vc6, rfl, -, -⟩ := own_shape hR6.choose_spec.1
          have H4' := Lib.hid (H4.out.stay b46)
          have H6 := Lib.hid hR6
          clear hR6
          have hra : ((ra.length : Int) == 0) = false := beq_false_of_ne (by omega)
          have D6 : Hid (RdB (w6.alloc (.cells #[] 5)) (.slice da L.length dc) L) := Lib.hid (HA.out.below (Below.step B6 (((Kept.refl (· < w6.heap.size) w6).alloc _).below (Nat.le_refl _))))
          have B6e : Below w.heap.size w (w6.alloc (.cells #[] 5)) := Below.step B6 (((Kept.refl (· < w6.heap.size) w6).alloc _).below (Nat.le_refl _))
          go_wp2_with (first
            | (at_builtin; refine wpList_app E5 rfl _ _ rfl (.slice (some ⟨w6.heap.size, 0, none⟩) 0 0) 0 _ rfl (row_empty (blk_new w6 _)) L.length _ (src_of_rd D6.out) (by omega) (by unfold maxLen; omega) ?_; intro a7 c7 w7 own7 g7 t7;
               have own7' : Row w7 5 1 (.slice a7 L.length c7) L.length (bv L) := by simpa [bv] using own7;
               have B67 : Below w6.heap.size w6 w7 := ((Kept.refl (· < w6.heap.size) w6).alloc _).grown g7 (fun k hk h => by simp [Value.ownBlock] at hk; omega) |>.below (Nat.le_refl _);
               have F7 : Fresh w6.heap.size (.slice a7 L.length c7) := by
                 simp only [Nat.zero_add] at t7
                 exact (show Fresh w6.heap.size (.slice (some ⟨w6.heap.size, 0, none⟩) 0 0) from fun g hg => by simp [Value.ownBlock] at hg; omega).app (by simp) t7;
               have D7 : Hid (RdB w7 (.slice db R.length dd) R) := Lib.hid (HBB.out.below (Below.step B6 B67));
               clear own7 g7 t7)
            | (at_builtin; refine wpList_app E5 rfl _ _ rfl (.slice a7 L.length c7) L.length _ rfl own7' R.length _ (src_of_rd D7.out) (by omega) (by unfold maxLen; omega) ?_; intro a8 c8 w8 own8 g8 t8;
               have B68 : Below w6.heap.size w6 w8 := Below.app B67 B67.size g8 F7;
               have O8 : Hid (RdB w8 (.slice a8 (L.length + R.length) c8) (L ++ R)) := Lib.hid (by have := rd_of_row (l := L ++ R) (by rw [bv_append]; exact own8); exact this);
               clear own8 g8 t8))
          have B8 := Below.step B6 B68
          refine (RC.out w8 _ B8 O8.out).mono ?_
          rintro e w9 ⟨v9, rfl, b9, hR9, hf9⟩
          have r9 := results_any v9 rc w9 hR9 sC1 SC2.out
          clear hR9 hf9
          go_wp2_with fail
          refine r9.mono ?_
          rintro e w10 ⟨v10, rfl, b10, hR10, hf10⟩
          clear r9 hf10
          have B610 := Below.step B68 (Below.step b9 b10)
          have B10 := Below.step B6 B610
          obtain ⟨va10, vc10, rfl, -, -⟩ := own_shape hR10.choose_spec.1
          have H10 := Lib.hid hR10
          obtain ⟨xs4, hx4, hall4⟩ := H4'.out.stay B610
          obtain ⟨ys6, hy6, hall6⟩ := H6.out.stay B610
          obtain ⟨m, hm⟩ : ∃ m, ra.length = m + 1 := ⟨ra.length - 1, by omega⟩
          have hwm2 : IntKind.i64.wrap ((ra.length : Int) - 1) = (m : Int) := by rw [IntWalk.i64_in _ ⟨by omega, by omega⟩]; omega
          have hs := run_slice_full (g := g4) (n := ra.length) (c := c4) (k := m) (by omega) hc4
          have hxl : xs4.length = ra.length * 17 := hall4.length
          have hlen : (xs4.take (m * 17)).length = m * 17 := by rw [List.length_take, hxl, hm]; omega
          have holds : ∀ j u, (xs4.take (m * 17))[j]? = some u → w10.cell? ⟨g4, j, none⟩ = some u := fun j u hu => by
            have hj : j < m * 17 := by rw [← hlen]; exact (List.getElem?_eq_some_iff.1 hu).1
            rw [List.getElem?_take_of_lt hj] at hu
            exact own_at' hx4 j u hu
          have hml : m ≤ 100000000 := by omega
          have HHM := Lib.hid hm
          have HLE := Lib.hid hlen
          have HHO := Lib.hid holds
          have HA4 := Lib.hid hall4
          have HA6 := Lib.hid hall6
          have HY6 := Lib.hid hy6
          clear hm hxl hlen holds hall4 hall6 hx4 hy6 hR10
          have hbb : (m + rb.length) * 128 ≤ 140737488355328 := by omega
          have h63 : m + rb.length ≤ maxLen := by unfold maxLen; omega
          have hsrc := Lib.hid (src_of_row Tryz.underlying23 HY6.out (rsAll_one' HA6.out))
          go_wp2_with (first
            | (at_builtin; refine wpList_app_full ERs rfl _ _ rfl g4 m (xs4.take (m * 17)) rfl HLE.out HHO.out rb.length ys6 hsrc.out nB hbb h63 ?_; intro a12 c12 w12 own12 b12 t12;
               have HX : Hid (ResR 31 w12 (.slice a12 (m + rb.length) c12) (ra.dropLast ++ rb)) := Lib.hid (res_behind HA4.out HHM.out HA6.out own12 b12);
               have B12 := Below.step B10 b12; clear own12 t12)
            | (go_at_call 11; refine (matches_yes HM'.out HX.out (H10.out.stay b12)).mono ?_; rintro e w13 ⟨rfl, b13⟩; have B13 := Below.step B12 b13)
            | (go_at_call 12; refine (reads_any (hV.below B13) (Nat.le_trans hB B13.size)).mono ?_; rintro e w14 ⟨rfl, b14⟩))
          go_ret
          exact ⟨rfl, Below.step B13 b14⟩
set_option maxRecDepth 10000 in
set_option maxHeartbeats 16000000 in
theorem fnBehind_any {B : Nat} {aE aU aT : Addr} {w : World} {L R : List Int} {va vb : Value} (hV : GV B w aE aU aT) (hB : B ≤ w.heap.size) (ha : RdB w va L) (hb : RdB w vb R) (bs : Bs L) (br : Bs R) (mx : Int) :
    Calls Tryz.prog 3 #[va, vb, .int .i64 mx] w (YesEnd w) := by
  have ha' := ha
  have hb' := hb
  obtain ⟨da, dc, rfl, -, -, -⟩ := ha'
  obtain ⟨db, dd, rfl, -, -, -⟩ := hb'
  by_cases h0 : (2147483647 : Int) < L.length
  · clear ha hb
    go_enter Tryz.func3, Tryz.ntmps3
    go_wp2
    go_ret
    exact ⟨rfl, Below.refl _ _⟩
  by_cases h1 : (2147483647 : Int) < R.length
  · clear ha hb
    go_enter Tryz.func3, Tryz.ntmps3
    go_wp2
    go_ret
    exact ⟨rfl, Below.refl _ _⟩
  by_cases h2 : (65536 : Int) < (L.length : Int) + (R.length : Int)
  · clear ha hb
    go_enter Tryz.func3, Tryz.ntmps3
    go_wp2
    go_ret
    exact ⟨rfl, Below.refl _ _⟩
  by_cases h3 : mx < 0
  · clear ha hb
    go_enter Tryz.func3, Tryz.ntmps3
    go_wp2
    go_ret
    exact ⟨rfl, Below.refl _ _⟩
  by_cases h4 : 65536 < mx
  · clear ha hb
    go_enter Tryz.func3, Tryz.ntmps3
    go_wp2
    go_ret
    exact ⟨rfl, Below.refl _ _⟩
  exact fnBehind_main hV hB ha hb bs br mx (by omega) (by omega) (by omega)
end Go.Proofs.YtfdlbjibninakaaGreatDoor

namespace Go.Proofs.YtfdlbjibninakaaGreatDoor.fnBehind
open Go.ChangeShapes Go.WideShapes Go.ChangeAt Go.RowKit

set_option maxRecDepth 100000 in
theorem contract (H : Type) (enc : TypeId × Value → H) (W : World) (base : Nat) (args : Array Value) (ds gs : List (DataW H)) (before : List MemPlace)
    (hval : ∀ (j : Nat) t v, Tryz.f3.params[j]? = some t → args[j]? = some v → Value.okWide Tryz.prog W .any base t v)
    (hW : DataW.Whole enc Tryz.prog Tryz.f3.params.toList Rows.fnBehindSpec.vars false W args.toList ds gs before) (hL : laidMetH Tryz.prog Rows.fnBehindRow.laid W) (hS : W.ShapedOpen Tryz.prog) :
    Calls Tryz.prog 3 args W fun e W' => ∃ v, e = .returned v ∧ Rows.fnBehindSpec.post enc Tryz.prog Tryz.f3 false true false false W args v W' := by
  have hW' := hW
  obtain ⟨p, q, hA0, hV, rfl, hfz, hnd⟩ := hW
  have hA : DataW.TrodAll enc Tryz.prog W 0 (fun _ => true) true Tryz.f3.params.toList args.toList ds p := hA0
  rw [Tryz.params3] at hA hval
  obtain ⟨v0, v1, v2, d0, d1, d2, p0, p1, p2, rfl, rfl, rfl, h0, h1, h2⟩ := trodAll_three hA
  obtain ⟨rfl, rfl⟩ := trodVars_none hV
  obtain ⟨l, hl, hwf⟩ := open_rd Tryz.underlying22 Tryz.underlying5 (by kernel_rfl) (hval 0 22 v0 rfl rfl) h0
  obtain ⟨ps, hp, hwf2⟩ := open_rd Tryz.underlying22 Tryz.underlying5 (by kernel_rfl) (hval 1 22 v1 rfl rfl) h1
  obtain ⟨a2, rfl, rfl, rfl, w2⟩ := open_int Tryz.underlying3 (hval 2 3 v2 rfl rfl) h2
  obtain ⟨aE, aU, aT, hG⟩ := gv_of_reads hS hL
  refine (fnBehind_any hG (Nat.le_refl _) hl hp (bs_of_wf hwf) (bs_of_wf hwf2) a2).mono fun e W' ⟨he, hb⟩ => ?_
  subst he
  exact ⟨_, rfl, law_post rfl rfl (by kernel_rfl) hW' rfl hb⟩

theorem laid_met (os : Os) : laidMetH Tryz.prog Rows.fnBehindRow.laid ((World.doorLaid Tryz.prog 187 os).forCall (fun _ _ => 0) ⟨#[], #[.slice none 0 0, .slice none 0 0, .int .i64 0], []⟩).memory :=
  laidMetH_of_parts3 (fuel := 8) (laidMet_of_run' 8 (by kernel_rfl) (by kernel_rfl)) (by kernel_rfl) (by kernel_rfl)
theorem reads (os : Os) {H : Type} (enc : TypeId × Value → H) : ∃ places, DataW.whole enc Tryz.prog ((World.doorLaid Tryz.prog 187 os).forCall (fun _ _ => 0) ⟨#[], #[.slice none 0 0, .slice none 0 0, .int .i64 0], []⟩).memory Tryz.f3.params.toList Rows.fnBehindSpec.vars false
    #[Value.slice none 0 0, .slice none 0 0, .int .i64 0].toList 8 = some ([.nil, .nil, .lit (.int .i64 0)], [], places) :=
  ⟨[], by kernel_rfl⟩

set_option maxRecDepth 100000 in
theorem lifted (os : Os) (started : os.Started) (H : Type) (enc : TypeId × Value → H) (F : Stop.Interp) :
    ReturnsInHanded {} Tryz.checked os 3 .any ((OpenSpec.ofChange Rows.fnBehindSpec).preRow enc Tryz.prog Tryz.f3 Rows.fnBehindRow.domain false Rows.fnBehindRow.laid)
      (((OpenSpec.ofChange Rows.fnBehindSpec).at F).post enc Tryz.prog Tryz.f3 false true false false) := by
  obtain ⟨places, hx⟩ := reads os enc
  refine returnsInHanded_of_row (C := Tryz.checked) (s := OpenSpec.ofChange Rows.fnBehindSpec) own_knob started (by kernel_rfl) Tryz.func3
    (witness_row_atRef (enc := enc) (C := Tryz.checked) false (World.doorLaid Tryz.prog 187 os) #[.slice none 0 0, .slice none 0 0, .int .i64 0] rfl (by kernel_rfl) (by kernel_rfl) (by kernel_rfl)
      (OpenSpec.preRow_of_cond 8 hx (by kernel_rfl) (fun k hk => by cases hk) (by kernel_rfl) (laid_met os))) ?_
  intro W base args ds gs before hval hW _ _ _ hL hS _
  exact contract H enc W base args ds gs before hval hW hL hS

theorem said : Rows.FnBehindSaid :=
  OpenClaim.holds_of_cond 3 Tryz.f3 rfl rfl rfl rfl rfl rfl rfl ⟨rfl, rfl, rfl, rfl, rfl⟩ rfl rfl rfl rfl rfl (by kernel_rfl) Tryz.func3 (by kernel_rfl)
    (of_decide_eq_true (by kernel_rfl)) (by unfold Func.isWrapper; rw [if_neg (of_decide_eq_false (by kernel_rfl))]; exact ⟨rfl, rfl⟩)
    (fun os started H enc _ F => by rw [OpenClaim.pre_eq_preRow]; exact lifted os started H enc F)

theorem card : Rows.FnBehindCardSaid :=
  Claim7.holds_tied_plain_at .later [] _ _ _ _ said (fun _ h => by cases h) (by kernel_rfl) (fun _ h => by cases h) fnBehind_row_tie rfl ⟨rfl, rfl⟩ (by kernel_rfl) rfl
    (named_of (by kernel_rfl) Tryz.func3 (by kernel_rfl) (by kernel_rfl)) (by kernel_rfl)
#print axioms card
end Go.Proofs.YtfdlbjibninakaaGreatDoor.fnBehind
