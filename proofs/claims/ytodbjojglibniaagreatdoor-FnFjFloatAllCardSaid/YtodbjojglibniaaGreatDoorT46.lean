/- Walks of functions of FnFjFloatAll (L1, L2); conditions stand ahead of each theorem. -/
import Derived.Test.YtodbjojglibniaaGreatDoorT45
import Derived.Test.YtodbjojglibniaaGreatDoorRows
import Derived.ProofKit
import Derived.OpenShut
import Derived.LaidMore
import Derived.Lib.LaidU8
import Derived.LaidOnce
set_option linter.unusedVariables false
set_option linter.unusedSimpArgs false
namespace Go.Proofs.YtodbjojglibniaaGreatDoor
open Go.RowKit Go.Proofs.YtodbjojglibniaaGreatDoorW.PrintWords Go.Proofs.YtodbjojglibniaaGreatDoorW.PrintLast

/-- A plain datum's cell. -/
def litV : Lit → Value
  | .bool b => .bool b
  | .int k n => .int k n
  | .float k b => .float k b
  | .string s => .string ⟨s.toArray⟩
  | .nil => .nilIface
theorem cell_nospot {w : World} {b o : Nat} {s : Option Nat} {v : Value} (h : w.cell? ⟨b, o, s⟩ = some v) : s = none := by
  unfold World.cell? at h
  split at h
  · split at h
    · cases h
    · cases s with
      | none => rfl
      | some x => simp_all
  · cases h
section
variable {H : Type} {enc : TypeId × Value → H} {P : Program} {w : World} {base : Nat} {sp : Nat → Bool} {held : Bool} {fuel : Nat} {t : TypeId} {cs : List Value} {p : List MemPlace}
theorem trod_lit {l : Lit} (h : DataW.trod enc P w base sp held fuel t cs = some (.lit l, p)) : cs = [litV l] := by
  cases fuel with
  | zero => simp [DataW.trod] at h
  | succ n =>
    unfold DataW.trod at h
    split at h <;> simp_all [Option.map_eq_some_iff, Option.bind_eq_some_iff]
    · obtain ⟨rfl, _⟩ := h; rfl
    · obtain ⟨_, rfl, _⟩ := h; rfl
    · obtain ⟨_, rfl, _⟩ := h; rfl
    · obtain ⟨_, rfl, _⟩ := h; simp [litV]
    · split at h <;> simp_all
    · split at h
      · simp only [Option.ite_none_right_eq_some, Option.bind_eq_some_iff] at h
        obtain ⟨_, en, _, h⟩ := h
        simp at h
      · cases h
theorem trod_face {nm : String} {d : DataW H} (h : DataW.trod enc P w base sp held fuel t cs = some (.iface nm d, p)) : ∃ u v, cs = [.iface u v] := by
  cases fuel with
  | zero => simp [DataW.trod] at h
  | succ n =>
    unfold DataW.trod at h
    split at h <;> simp_all [Option.map_eq_some_iff, Option.bind_eq_some_iff]
    · split at h
      · simp only [Option.ite_none_right_eq_some, Option.bind_eq_some_iff] at h
        obtain ⟨_, en, _, h⟩ := h
        simp at h
      · cases h
theorem arr_cell {n : Nat} {e : TypeId} {ds : List (DataW H)} (ht : P.underlying t = some (.array n e)) (hc : P.cellsOf e = 1) (h : DataW.trod enc P w base sp held fuel t cs = some (.agg ds, p)) {i : Nat} (hi : i < n) {l : Lit} (hl : ds[i]? = some (.lit l)) : cs[i]? = some (litV l) := by
  obtain ⟨f', d, q, h1, h2⟩ := Lib.array_elem ht h i hi
  rw [hl] at h1
  obtain rfl := Option.some.inj h1
  have h3 := trod_lit h2
  rw [hc, Nat.mul_one] at h3
  have := congrArg (·[0]?) h3
  simpa [List.getElem?_take, List.getElem?_drop] using this
theorem struct_cell {fs : Array Field} {ds : List (DataW H)} (ht : P.underlying t = some (.struct fs)) (h : DataW.trod enc P w base sp held fuel t cs = some (.agg ds, p)) {i : Nat} {f : Field} (hf : fs[i]? = some f) (ho : f.offset = i) (hc : P.cellsOf f.type = 1) {l : Lit} (hl : ds[i]? = some (.lit l)) : cs[i]? = some (litV l) := by
  obtain ⟨xs, n, rfl, hx, hlen, hxl, hall⟩ := DataW.trod_struct ht h
  have h1 := hall i f hf
  have hds : ds = xs.map (·.1) := by
    have := congrArg Prod.fst hx
    simpa using this
  rw [hds, List.getElem?_map] at hl
  cases hb : xs[i]? with
  | none => rw [hb] at hl; cases hl
  | some b =>
    rw [hb] at hl h1
    obtain ⟨b1, b2⟩ := b
    simp only [Option.map_some, Option.some.injEq] at hl
    subst hl
    have h3 := trod_lit h1
    rw [hc, ho] at h3
    have := congrArg (·[0]?) h3
    simpa [List.getElem?_take, List.getElem?_drop] using this
theorem slice_rows {e : TypeId} {m : Nat} {ds : List (DataW H)} (ht : P.underlying t = some (.slice e)) (hc : P.cellsOf e = m) (hm : 0 < m) (hne : 0 < ds.length) (h : DataW.trod enc P w base sp held fuel t cs = some (.slice ds [], p)) :
    ∃ B O cap, cs = [.slice (some ⟨B, O, none⟩) ds.length cap] ∧ ∀ i d, ds[i]? = some d → ∃ cs' n q, (∀ j, j < m → w.cell? ⟨B, O + (i * m + j), none⟩ = cs'[j]?) ∧ cs'.length = m ∧ DataW.trod enc P w base sp held n e cs' = some (d, q) := by
  rcases DataW.trod_slice ht h with ⟨_, hx⟩ | ⟨a, len, cap, elems, rest, n, _, hcs, hx, _, hl, _, hlen, hel, _⟩
  · simp at hx
  · simp only [Prod.mk.injEq, DataW.slice.injEq] at hx
    obtain ⟨⟨rfl, _⟩, _⟩ := hx
    have el : (elems.map (·.1)).length = len := by simpa using hlen
    have key : ∀ i d, (elems.map (·.1))[i]? = some d → ∃ cs' n q, (∀ j, j < m → w.cell? (a.add (i * m + j)) = cs'[j]?) ∧ cs'.length = m ∧ DataW.trod enc P w base sp held n e cs' = some (d, q) := by
      intro i d hd
      have hi : i < len := by rw [← el]; exact (List.getElem?_eq_some_iff.1 hd).1
      have hE := hel i hi
      rw [hc] at hE
      rw [List.getElem?_map] at hd
      cases hy : elems[i]? with
      | none => simp [hy] at hd
      | some y =>
        rw [hy] at hE hd
        simp only [Option.map_some, Option.some.injEq] at hd
        simp only [Option.bind_eq_some_iff] at hE
        obtain ⟨c1, hc1, hy1⟩ := hE
        unfold World.cells? at hc1
        split at hc1
        · refine ⟨c1, n, y.2, fun j hj => ?_, by have := mapM_some_length hc1; simpa using this, by rw [hy1, ← hd]⟩
          have := mapM_some_get hc1 j j (by simp [hj])
          rw [← this]
          congr 1
          unfold Addr.add
          split <;> split <;> split <;> simp_all <;> omega
        · cases hc1
    obtain ⟨B, O, spt⟩ := a
    have hsp : spt = none := by
      obtain ⟨d, hd⟩ : ∃ d, (elems.map (·.1))[0]? = some d := ⟨_, List.getElem?_eq_getElem hne⟩
      obtain ⟨c1, n1, q1, h1, h2, _⟩ := key 0 d hd
      have h3 := h1 0 hm
      rw [List.getElem?_eq_getElem (by omega)] at h3
      have e : (⟨B, O, spt⟩ : Addr).add (0 * m + 0) = ⟨B, O, spt⟩ := by simp [Addr.add]
      rw [e] at h3
      exact cell_nospot h3
    subst hsp
    refine ⟨B, O, cap, by rw [el]; exact hcs, fun i d hd => ?_⟩
    obtain ⟨c1, n1, q1, h1, h2⟩ := key i d hd
    refine ⟨c1, n1, q1, fun j hj => ?_, h2⟩
    rw [← h1 j hj]
    congr 1
    unfold Addr.add
    split <;> simp_all
end
/-- A variable's cells. -/
theorem var_trod {w : World} {n : String} {g : Nat} {t : TypeId} {d : DataW Unit} (h : Lib.VarReads Tryz.prog w n d) (hg : Tryz.prog.globalNamed n = some g) (ht : (Tryz.prog.globals[g]?).map (·.type) = some t) :
    ∃ (cs : List Value) (fuel : Nat) (p : List MemPlace), (∀ r, w.cell? ⟨g, r, none⟩ = cs[r]?) ∧ DataW.trod (fun _ => ()) Tryz.prog w 0 (fun _ => true) false fuel t cs = some (d, p) := by
  obtain ⟨g', t', cs, fuel, p, h1, h2, h3, h4⟩ := h
  obtain rfl := Option.some.inj (hg.symm.trans h1)
  obtain rfl := Option.some.inj (ht.symm.trans h2)
  exact ⟨cs.toList, fuel, p, fun r => by rw [World.var?_cell hg h3 r, Array.getElem?_toList], h4⟩

end Go.Proofs.YtodbjojglibniaaGreatDoor

set_option linter.unusedVariables false
set_option linter.unusedSimpArgs false
namespace Go.Proofs.YtodbjojglibniaaGreatDoor
open Go.RowKit Go.Proofs.YtodbjojglibniaaGreatDoorW.PrintWords Go.Proofs.YtodbjojglibniaaGreatDoorW.PrintLast

theorem map_getD {α β : Type} (l : List α) (f : α → β) (d : α) {i : Nat} (h : i < l.length) : (l.map f)[i]? = some (f (l.getD i d)) := by
  rw [List.getElem?_map, List.getElem?_eq_getElem h, List.getD, List.getElem?_eq_getElem h]; rfl
theorem map_getB {α β : Type} [Inhabited α] (l : List α) (f : α → β) {i : Nat} (h : i < l.length) : (l.map f)[i]? = some (f (l[i]!)) := by
  rw [List.getElem?_map, List.getElem?_eq_getElem h, getElem!_pos l i h]; rfl
set_option maxRecDepth 100000
theorem var_lt {w : World} {g o : Nat} {v : Value} (h : w.cell? ⟨g, o, none⟩ = some v) : g < w.heap.size := World.block_lt_of_cell? w _ h
theorem laid_info {w : World} (h : Lib.VarReads Tryz.prog w "internal/strconv.float64info" Rows.laid_internal_strconv_float64info) :
    w.cell? ⟨10, 0, none⟩ = some (.int .u64 52) ∧ w.cell? ⟨10, 1, none⟩ = some (.int .u64 11) ∧ w.cell? ⟨10, 2, none⟩ = some (.int .i64 (-1023)) := by
  obtain ⟨cs, fuel, p, hc, hd⟩ := var_trod h (g := 10) (t := 145) (by kernel_rfl) (by kernel_rfl)
  unfold Rows.laid_internal_strconv_float64info at hd
  exact ⟨(hc 0).trans (struct_cell (i := 0) Tryz.underlying145 hd rfl rfl (by kernel_rfl) rfl), (hc 1).trans (struct_cell (i := 1) Tryz.underlying145 hd rfl rfl (by kernel_rfl) rfl), (hc 2).trans (struct_cell (i := 2) Tryz.underlying145 hd rfl rfl (by kernel_rfl) rfl)⟩
theorem laid_opt {w : World} (h : Lib.VarReads Tryz.prog w "internal/strconv.optimize" Rows.laid_internal_strconv_optimize) : w.cell? ⟨9, 0, none⟩ = some (.bool true) := by
  obtain ⟨cs, fuel, p, hc, hd⟩ := var_trod h (g := 9) (t := 4) (by kernel_rfl) (by kernel_rfl)
  unfold Rows.laid_internal_strconv_optimize at hd
  rw [hc 0, trod_lit hd]; rfl
theorem laid_powtab {w : World} (h : Lib.VarReads Tryz.prog w "internal/strconv.powtab" Rows.laid_internal_strconv_powtab) :
    ∃ B O C, B < w.heap.size ∧ w.cell? ⟨12, 0, none⟩ = some (.slice (some ⟨B, O, none⟩) 9 C) ∧ ∀ i, i < 9 → w.cell? ⟨B, O + i, none⟩ = some (.int .i64 (FP.stepN i : Int)) := by
  obtain ⟨cs, fuel, p, hc, hd⟩ := var_trod h (g := 12) (t := 175) (by kernel_rfl) (by kernel_rfl)
  have e : (Rows.laid_internal_strconv_powtab : DataW Unit) = .slice ((List.range 9).map fun i => .lit (.int .i64 (FP.stepN i : Int))) [] := rfl
  rw [e] at hd
  obtain ⟨B, O, C, h1, h2⟩ := slice_rows Tryz.underlying175 (show Tryz.prog.cellsOf 3 = 1 by kernel_rfl) (by decide) (by decide) hd
  have row : ∀ i, i < 9 → w.cell? ⟨B, O + i, none⟩ = some (.int .i64 (FP.stepN i : Int)) := by
    intro i hi
    obtain ⟨c1, n1, q1, a, b, c⟩ := h2 i _ (map_getD (List.range 9) _ 0 (by rw [List.length_range]; exact hi))
    have a0 := a 0 (by decide)
    rw [trod_lit c] at a0
    have e1 : (List.range 9).getD i 0 = i := by rw [List.getD, List.getElem?_range hi]; rfl
    rw [e1] at a0
    rw [show O + i = O + (i * 1 + 0) by omega]
    exact a0
  refine ⟨B, O, C, var_lt (row 0 (by decide)), ?_, row⟩
  rw [hc 0, h1]; rfl
theorem laid_tens {w : World} (h : Lib.VarReads Tryz.prog w "internal/strconv.float64pow10" Rows.laid_internal_strconv_float64pow10) : ∃ B O C, B < w.heap.size ∧ Tens w B O C := by
  obtain ⟨cs, fuel, p, hc, hd⟩ := var_trod h (g := 13) (t := 177) (by kernel_rfl) (by kernel_rfl)
  have e : (Rows.laid_internal_strconv_float64pow10 : DataW Unit) = .slice (FP.tens.map fun x => .lit (.float .f64 x)) [] := rfl
  rw [e] at hd
  obtain ⟨B, O, C, h1, h2⟩ := slice_rows Tryz.underlying177 (show Tryz.prog.cellsOf 22 = 1 by kernel_rfl) (by decide) (by decide) hd
  have row : ∀ k, k < 23 → w.cell? ⟨B, O + k, none⟩ = some (.float .f64 (FP.tens[k]!)) := by
    intro i hi
    obtain ⟨c1, n1, q1, a, b, c⟩ := h2 i _ (map_getB FP.tens _ hi)
    have a0 := a 0 (by decide)
    rw [trod_lit c] at a0
    rw [show O + i = O + (i * 1 + 0) by omega]
    exact a0
  refine ⟨B, O, C, var_lt (row 0 (by decide)), ⟨?_, row⟩⟩
  rw [hc 0, h1]; rfl
theorem laid_pow {w : World} (h : Lib.VarReads Tryz.prog w "internal/strconv.pow10Tab" Rows.laid_internal_strconv_pow10Tab) : ∀ p : Int, -345 ≤ p → p ≤ 310 → PowAt w p ((FP.rowAt p).1 : Int) ((FP.rowAt p).2 : Int) := by
  obtain ⟨cs, fuel, p, hc, hd⟩ := var_trod h (g := 14) (t := 182) (by kernel_rfl) (by kernel_rfl)
  intro q h1 h2
  have hd' : DataW.trod (fun _ => ()) Tryz.prog w 0 (fun _ => true) false fuel 182 cs = some (.agg (Go.Pinned.pow10Rows.map fun x => .agg [.lit (.int .u64 x.1), .lit (.int .u64 x.2)]), p) := hd
  obtain ⟨i, hi⟩ : ∃ i, i = (q + 348).toNat := ⟨_, rfl⟩
  have hlen : Go.Pinned.pow10Rows.length = 696 := by decide +kernel
  obtain ⟨f', d, r, a, b⟩ := Lib.array_elem Tryz.underlying182 hd' i (by omega)
  rw [map_getD Go.Pinned.pow10Rows _ (0, 0) (by omega)] at a
  obtain rfl := Option.some.inj a
  have hcs : Tryz.prog.cellsOf 181 = 2 := by kernel_rfl
  have c0 := struct_cell (i := 0) Tryz.underlying181 b rfl rfl (by kernel_rfl) rfl
  have c1 := struct_cell (i := 1) Tryz.underlying181 b rfl rfl (by kernel_rfl) rfl
  rw [hcs] at c0 c1
  unfold PowAt FP.rowAt
  rw [← hi]
  refine ⟨(hc _).trans ?_, (hc _).trans ?_⟩
  · simpa [litV, List.getElem?_take, List.getElem?_drop] using c0
  · simpa [litV, List.getElem?_take, List.getElem?_drop] using c1
theorem laid_cheats {w : World} (h : Lib.VarReads Tryz.prog w "internal/strconv.leftcheats" Rows.laid_internal_strconv_leftcheats) : ∃ B O C, B < w.heap.size ∧ Cheats w B O C := by
  obtain ⟨cs, fuel, p, hc, hd⟩ := var_trod h (g := 15) (t := 193) (by kernel_rfl) (by kernel_rfl)
  have hd' : DataW.trod (fun _ => ()) Tryz.prog w 0 (fun _ => true) false fuel 193 cs = some (.slice (Go.Pinned.cheatRows.map fun x => .agg [.lit (.int .i64 x.1), .lit (.string x.2)]) [], p) := hd
  have hlen := FP.cheats_len
  have hll : (Go.Pinned.cheatRows.map fun x => (DataW.agg [.lit (.int .i64 x.1), .lit (.string x.2)] : DataW Unit)).length = 61 := by rw [List.length_map, hlen]
  obtain ⟨B, O, C, h1, h2⟩ := slice_rows Tryz.underlying193 (show Tryz.prog.cellsOf 192 = 2 by kernel_rfl) (by decide) (by rw [hll]; decide) hd'
  rw [hll] at h1
  have row : ∀ k, k < 61 → w.cell? ⟨B, O + k * 2, none⟩ = some (.int .i64 ((Go.Pinned.cheatRows.getD k (0, [])).1 : Int)) ∧ w.cell? ⟨B, O + k * 2 + 1, none⟩ = some (.string ⟨(Go.Pinned.cheatRows.getD k (0, [])).2.toArray⟩) := by
    intro k hk
    obtain ⟨c1, n1, q1, a, b, c⟩ := h2 k _ (map_getD Go.Pinned.cheatRows _ (0, []) (by omega))
    have x0 := struct_cell (i := 0) Tryz.underlying192 c rfl rfl (by kernel_rfl) rfl
    have x1 := struct_cell (i := 1) Tryz.underlying192 c rfl rfl (by kernel_rfl) rfl
    exact ⟨(a 0 (by decide)).trans x0, (a 1 (by decide)).trans x1⟩
  refine ⟨B, O, C, var_lt (row 0 (by decide)).1, ?_, fun k k1 k2 => ?_⟩
  · rw [hc 0, h1]; rfl
  · obtain ⟨r0, r1⟩ := row k (by omega)
    obtain ⟨x, hx⟩ : ∃ x, x = Go.Pinned.cheatRows.getD k (0, []) := ⟨_, rfl⟩
    have hxk : Go.Pinned.cheatRows[k]? = some x := by
      rw [hx, List.getD, List.getElem?_eq_getElem (by omega)]; rfl
    rw [← hx] at r0 r1
    have hch := FP.cheatsOk_get Go.Pinned.cheatRows 0 k FP.cheats_ok x hxk (by omega)
    rw [Nat.zero_add] at hch
    refine ⟨x.1, FP.letters x.2, ⟨r0, _, r1, ?_⟩, hch.1⟩
    have hsz : (⟨x.2.toArray⟩ : ByteArray).size = x.2.length := by simp [ByteArray.size]
    have hll2 : (FP.letters x.2).length = x.2.length := by unfold FP.letters; rw [List.length_map]
    refine ⟨by rw [hsz, hll2], fun i hi => ?_⟩
    rw [hll2] at hi
    unfold bt
    rw [dif_pos (show ((i : Int)).toNat < _ by rw [hsz]; exact hi)]
    have e1 : ((⟨x.2.toArray⟩ : ByteArray)[((i : Int)).toNat]'(by rw [hsz]; exact hi)) = x.2[i] := by
      simp [ByteArray.getElem_eq_getElem_data]
    rw [e1]
    have e2 : (FP.letters x.2).getD i 0 = (x.2[i]).toNat - 48 := by
      unfold FP.letters
      simp [List.getD, hi]
    rw [e2]
    have := (hch.2 _ (List.getElem_mem hi)).1
    have h48 : 48 ≤ (x.2[i]).toNat := by simpa using UInt8.le_iff_toNat_le.1 this
    omega
theorem laid_row {w : World} {n : String} {g t e m : Nat} {l : List Nat} (h : Lib.VarReads Tryz.prog w n (.agg (l.map fun x => .lit (.float .f64 x)))) (hg : Tryz.prog.globalNamed n = some g) (ht : (Tryz.prog.globals[g]?).map (·.type) = some t) (hu : Tryz.prog.underlying t = some (.array m e)) (hc : Tryz.prog.cellsOf e = 1) :
    ∀ i d, i < m → i < l.length → w.cell? ⟨g, i, none⟩ = some (.float .f64 (l.getD i d)) := by
  obtain ⟨cs, fuel, p, hcell, hd⟩ := var_trod h hg ht
  intro i d hi hl
  exact (hcell i).trans (arr_cell hu hc hd hi (map_getD l _ d hl))
theorem laid_err {w : World} (h : Lib.VarReads Tryz.prog w "strconv.ErrRange" Rows.laid_strconv_ErrRange) : ∃ ev, w.cell? ⟨6, 0, none⟩ = some ev ∧ (ev = .nilIface ∨ ∃ te pe, ev = .iface te pe) := by
  obtain ⟨cs, fuel, p, hc, hd⟩ := var_trod h (g := 6) (t := 43) (by kernel_rfl) (by kernel_rfl)
  unfold Rows.laid_strconv_ErrRange at hd
  obtain ⟨u, v, e⟩ := trod_face hd
  refine ⟨.iface u v, ?_, .inr ⟨u, v, rfl⟩⟩
  rw [hc 0, e]; rfl

theorem genv_of_laid {w : World} (h : laidMet Tryz.prog Rows.fnFjFloatAllRow.laid w) : GEnv w.heap.size w := by
  have r : ∀ {n : String} {d : DataW Unit}, (n, d) ∈ Rows.fnFjFloatAllRow.laid → Lib.VarReads Tryz.prog w n d := fun hm => Lib.laidMet.reads h hm
  obtain ⟨i0, i1, i2⟩ := laid_info (r (.tail _ (.tail _ (.tail _ (.head _)))))
  have o0 := laid_opt (r (.tail _ (.tail _ (.tail _ (.tail _ (.head _))))))
  obtain ⟨B1, O1, C1, p1, p2, p3⟩ := laid_powtab (r (.tail _ (.tail _ (.tail _ (.tail _ (.tail _ (.head _)))))))
  obtain ⟨B2, O2, C2, t1, t2⟩ := laid_tens (r (.tail _ (.tail _ (.tail _ (.tail _ (.tail _ (.tail _ (.head _))))))))
  have a1 := laid_row (l := FP.p10tab) (g := 2) (t := 62) (m := 32) (e := 22) (r (n := "math.pow10tab") (d := Rows.laid_math_pow10tab) (.tail _ (.tail _ (.tail _ (.tail _ (.tail _ (.tail _ (.tail _ (.tail _ (.tail _ (.head _))))))))))) (by kernel_rfl) (by kernel_rfl) Tryz.underlying62 (by kernel_rfl)
  have a2 := laid_row (l := FP.p10pos) (g := 1) (t := 60) (m := 10) (e := 22) (r (n := "math.pow10postab32") (d := Rows.laid_math_pow10postab32) (.tail _ (.tail _ (.tail _ (.tail _ (.tail _ (.tail _ (.tail _ (.tail _ (.tail _ (.tail _ (.head _)))))))))))) (by kernel_rfl) (by kernel_rfl) Tryz.underlying60 (by kernel_rfl)
  have a3 := laid_row (l := FP.p10neg) (g := 3) (t := 63) (m := 11) (e := 22) (r (n := "math.pow10negtab32") (d := Rows.laid_math_pow10negtab32) (.tail _ (.tail _ (.tail _ (.tail _ (.tail _ (.tail _ (.tail _ (.tail _ (.tail _ (.tail _ (.tail _ (.head _))))))))))))) (by kernel_rfl) (by kernel_rfl) Tryz.underlying63 (by kernel_rfl)
  obtain ⟨ev, e1, e2⟩ := laid_err (r (.tail _ (.tail _ (.tail _ (.tail _ (.tail _ (.tail _ (.tail _ (.tail _ (.tail _ (.tail _ (.tail _ (.tail _ (.head _))))))))))))))
  have a4 := laid_row (l := FP.tens.take 17) (g := 4) (t := 97) (m := 17) (e := 22) (r (n := "pub-tetrapla/pub/fastjson/fastfloat.float64pow10") (d := Rows.laid_pub_tetrapla_pub_fastjson_fastfloat_float64pow10) (.tail _ (.tail _ (.tail _ (.tail _ (.tail _ (.tail _ (.tail _ (.tail _ (.tail _ (.tail _ (.tail _ (.tail _ (.tail _ (.tail _ (.head _)))))))))))))))) (by kernel_rfl) (by kernel_rfl) Tryz.underlying97 (by kernel_rfl)
  obtain ⟨B3, O3, C3, l1, l2⟩ := laid_cheats (r (.tail _ (.tail _ (.tail _ (.tail _ (.tail _ (.tail _ (.tail _ (.tail _ (.tail _ (.tail _ (.tail _ (.tail _ (.tail _ (.tail _ (.tail _ (.head _)))))))))))))))))
  have q := laid_pow (r (.tail _ (.tail _ (.tail _ (.tail _ (.tail _ (.tail _ (.tail _ (.tail _ (.tail _ (.tail _ (.tail _ (.tail _ (.tail _ (.tail _ (.tail _ (.tail _ (.head _))))))))))))))))))
  have ff : FfTab w := by
    intro k hk
    have := a4 k 0 hk (by simp [FP.tens]; omega)
    rw [this]
    have e : ∀ k : Fin 17, (FP.tens.take 17).getD k.1 0 = FP.tens[k.1]! := by decide
    rw [e ⟨k, hk⟩]
  refine ⟨⟨⟨Nat.le_refl _, var_lt i0, i0, i1, i2, var_lt p2, ⟨B1, O1, C1, p1, p2, p3⟩, var_lt l2.1, ⟨B3, O3, C3, l1, l2⟩⟩, var_lt o0, o0, var_lt t2.var, ⟨B2, O2, C2, t1, t2⟩, var_lt (q 0 (by decide) (by decide)).1, q⟩, var_lt e1, ⟨ev, e1, e2⟩, ⟨fun i hi => a2 i 0 hi hi, fun i hi => a1 i 0 hi hi, fun i hi => a3 i 0 hi hi⟩,
    ⟨var_lt (a2 0 0 (by decide) (by decide)), var_lt (a1 0 0 (by decide) (by decide)), var_lt (a3 0 0 (by decide) (by decide))⟩, var_lt (ff 0 (by decide)), ff⟩

end Go.Proofs.YtodbjojglibniaaGreatDoor
