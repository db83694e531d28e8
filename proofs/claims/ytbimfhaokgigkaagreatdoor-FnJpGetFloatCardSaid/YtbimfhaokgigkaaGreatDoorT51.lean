/- The card of FnJpGetFloat holds: for every text and all keys the law returns true and both read as they did (the listed variables as the program's text lays them: the card ties them). -/
import Derived.Test.YtbimfhaokgigkaaGreatDoorT50
import Derived.Test.YtbimfhaokgigkaaGreatDoorRows
import Derived.ProofKit
import Derived.OpenShut
import Derived.LaidMore
import Derived.Lib.LaidU8
import Derived.LaidOnce
import Derived.Test.YtbimfhaokgigkaaGreatDoorCards
import Derived.Test.YtbimfhaokgigkaaGreatDoorTie
import Derived.Lay
import Derived.SevenTiedAt
import Derived.Stop.Joined
import Derived.SliceStrings
import Derived.Carry
set_option maxRecDepth 100000
namespace Go.Proofs.YtbimfhaokgigkaaGreatDoor
open Go.RowKit Go.Proofs.YtbimfhaokgigkaaGreatDoorW.PrintWords Go.Proofs.YtbimfhaokgigkaaGreatDoorW.PrintLast
def litV : Lit → Value
 | .bool b => .bool b
 | .int k n => .int k n
 | .float k b => .float k b
 | .string s => .string ⟨s.toArray⟩
 | .nil => .nilIface
theorem cell_nospot {w : World} {b o : Nat} {s : Option Nat} {v : Value} (h : w.cell? ⟨b, o, s⟩ = some v) : s = none := by
 unfold World.cell? at h
 split at h
 ·split at h
  ·cases h
  ·cases s with
   | none => rfl
   | some x => simp_all
 ·cases h
section
variable {H : Type} {enc : TypeId × Value → H} {P : Program} {w : World} {base : Nat} {sp : Nat → Bool} {held : Bool} {fuel : Nat} {t : TypeId} {cs : List Value} {p : List MemPlace}
theorem trod_lit {l : Lit} (h : DataW.trod enc P w base sp held fuel t cs = some (.lit l, p)) : cs = [litV l] := by
 cases fuel with
 | zero => simp [DataW.trod] at h
 | succ n =>
  unfold DataW.trod at h
  split at h <;> simp_all [Option.map_eq_some_iff, Option.bind_eq_some_iff]
  ·obtain ⟨rfl, _⟩ := h; rfl
  ·obtain ⟨_, rfl, _⟩ := h; rfl
  ·obtain ⟨_, rfl, _⟩ := h; rfl
  ·obtain ⟨_, rfl, _⟩ := h; simp [litV]
  ·split at h <;> simp_all
  ·split at h
   ·simp only [Option.ite_none_right_eq_some, Option.bind_eq_some_iff] at h
    obtain ⟨_, en, _, h⟩ := h
    simp at h
   ·cases h
theorem trod_face {nm : String} {d : DataW H} (h : DataW.trod enc P w base sp held fuel t cs = some (.iface nm d, p)) : ∃ u v, cs = [.iface u v] := by
 cases fuel with
 | zero => simp [DataW.trod] at h
 | succ n =>
  unfold DataW.trod at h
  split at h <;> simp_all [Option.map_eq_some_iff, Option.bind_eq_some_iff]
  ·split at h
   ·simp only [Option.ite_none_right_eq_some, Option.bind_eq_some_iff] at h
    obtain ⟨_, en, _, h⟩ := h
    simp at h
   ·cases h
theorem arr_cell {n : Nat} {e : TypeId} {ds : List (DataW H)} (ht : P.underlying t = some (.array n e)) (hc : P.cellsOf e = 1) (h : DataW.trod enc P w base sp held fuel t cs = some (.agg ds, p)) {i : Nat} (hi : i < n) {l : Lit} (hl : ds[i]? = some (.lit l)) : cs[i]? = some (litV l) := by
 obtain ⟨f', d, q, h1, h2⟩ := Lib.array_elem ht h i hi
 rw [hl] at h1
 obtain rfl := Option.some.inj h1
 have h3 := trod_lit h2
 rw [hc, Nat.mul_one] at h3
 have := congrArg (·[0]?) h3
 simpa [List.getElem?_take, List.getElem?_drop] using this
theorem struct_cell {fs : Array Field} {ds : List (DataW H)} (ht : P.underlying t = some (.struct fs)) (h : DataW.trod enc P w base sp held fuel t cs = some (.agg ds, p)) {i : Nat} {f : Field} (hf : fs[i]? = some f) (ho : f.offset = i) (hc : P.cellsOf f.type = 1) {l : Lit} (hl : ds[i]? = some (.lit l)) : cs[i]? = some (litV l) := by
 obtain ⟨xs, n, rfl, hx, hlen, hxl, hall⟩ := DataW.trod_struct ht h
 have h1 := hall i f hf
 have hds : ds = xs.map (·.1) := by
  have := congrArg Prod.fst hx
  simpa using this
 rw [hds, List.getElem?_map] at hl
 cases hb : xs[i]? with
 | none => rw [hb] at hl; cases hl
 | some b =>
  rw [hb] at hl h1
  obtain ⟨b1, b2⟩ := b
  simp only [Option.map_some, Option.some.injEq] at hl
  subst hl
  have h3 := trod_lit h1
  rw [hc, ho] at h3
  have := congrArg (·[0]?) h3
  simpa [List.getElem?_take, List.getElem?_drop] using this
theorem slice_rows {e : TypeId} {m : Nat} {ds : List (DataW H)} (ht : P.underlying t = some (.slice e)) (hc : P.cellsOf e = m) (hm : 0 < m) (hne : 0 < ds.length) (h : DataW.trod enc P w base sp held fuel t cs = some (.slice ds [], p)) :
  ∃ B O cap, cs = [.slice (some ⟨B, O, none⟩) ds.length cap] ∧ ∀ i d, ds[i]? = some d → ∃ cs' n q, (∀ j, j < m → w.cell? ⟨B, O + (i * m + j), none⟩ = cs'[j]?) ∧ cs'.length = m ∧ DataW.trod enc P w base sp held n e cs' = some (d, q) := by
 rcases DataW.trod_slice ht h with ⟨_, hx⟩ | ⟨a, len, cap, elems, rest, n, _, hcs, hx, _, hl, _, hlen, hel, _⟩
 ·simp at hx
 ·simp only [Prod.mk.injEq, DataW.slice.injEq] at hx
  obtain ⟨⟨rfl, _⟩, _⟩ := hx
  have el : (elems.map (·.1)).length = len := by simpa using hlen
  have key : ∀ i d, (elems.map (·.1))[i]? = some d → ∃ cs' n q, (∀ j, j < m → w.cell? (a.add (i * m + j)) = cs'[j]?) ∧ cs'.length = m ∧ DataW.trod enc P w base sp held n e cs' = some (d, q) := by
   intro i d hd
   have hi : i < len := by rw [← el]; exact (List.getElem?_eq_some_iff.1 hd).1
   have hE := hel i hi
   rw [hc] at hE
   rw [List.getElem?_map] at hd
   cases hy : elems[i]? with
   | none => simp [hy] at hd
   | some y =>
    rw [hy] at hE hd
    simp only [Option.map_some, Option.some.injEq] at hd
    simp only [Option.bind_eq_some_iff] at hE
    obtain ⟨c1, hc1, hy1⟩ := hE
    unfold World.cells? at hc1
    split at hc1
    ·refine ⟨c1, n, y.2, fun j hj => ?_, by have := mapM_some_length hc1; simpa using this, by rw [hy1, ← hd]⟩
     have := mapM_some_get hc1 j j (by simp [hj])
     rw [← this]
     congr 1
     unfold Addr.add
     split <;> split <;> split <;> simp_all <;> omega
    ·cases hc1
  obtain ⟨B, O, spt⟩ := a
  have hsp : spt = none := by
   obtain ⟨d, hd⟩ : ∃ d, (elems.map (·.1))[0]? = some d := ⟨_, List.getElem?_eq_getElem hne⟩
   obtain ⟨c1, n1, q1, h1, h2, _⟩ := key 0 d hd
   have h3 := h1 0 hm
   rw [List.getElem?_eq_getElem (by omega)] at h3
   have e : (⟨B, O, spt⟩ : Addr).add (0 * m + 0) = ⟨B, O, spt⟩ := by simp [Addr.add]
   rw [e] at h3
   exact cell_nospot h3
  subst hsp
  refine ⟨B, O, cap, by rw [el]; exact hcs, fun i d hd => ?_⟩
  obtain ⟨c1, n1, q1, h1, h2⟩ := key i d hd
  refine ⟨c1, n1, q1, fun j hj => ?_, h2⟩
  rw [← h1 j hj]
  congr 1
  unfold Addr.add
  split <;> simp_all
end
theorem var_trod {w : World} {n : String} {g : Nat} {t : TypeId} {d : DataW Unit} (h : Lib.VarReads Tryz.prog w n d) (hg : Tryz.prog.globalNamed n = some g) (ht : (Tryz.prog.globals[g]?).map (·.type) = some t) :
  ∃ (cs : List Value) (fuel : Nat) (p : List MemPlace), (∀ r, w.cell? ⟨g, r, none⟩ = cs[r]?) ∧ DataW.trod (fun _ => ()) Tryz.prog w 0 (fun _ => true) false fuel t cs = some (d, p) := by
 obtain ⟨g', t', cs, fuel, p, h1, h2, h3, h4⟩ := h
 obtain rfl := Option.some.inj (hg.symm.trans h1)
 obtain rfl := Option.some.inj (ht.symm.trans h2)
 exact ⟨cs.toList, fuel, p, fun r => by rw [World.var?_cell hg h3 r, Array.getElem?_toList], h4⟩
theorem map_getD {α β : Type} (l : List α) (f : α → β) (d : α) {i : Nat} (h : i < l.length) : (l.map f)[i]? = some (f (l.getD i d)) := by
 rw [List.getElem?_map, List.getElem?_eq_getElem h, List.getD, List.getElem?_eq_getElem h]; rfl
theorem map_getB {α β : Type} [Inhabited α] (l : List α) (f : α → β) {i : Nat} (h : i < l.length) : (l.map f)[i]? = some (f (l[i]!)) := by
 rw [List.getElem?_map, List.getElem?_eq_getElem h, getElem!_pos l i h]; rfl
theorem var_lt {w : World} {g o : Nat} {v : Value} (h : w.cell? ⟨g, o, none⟩ = some v) : g < w.heap.size := World.block_lt_of_cell? w _ h
theorem laid_info {w : World} (h : Lib.VarReads Tryz.prog w "internal/strconv.float64info" Rows.laid_internal_strconv_float64info) :
  w.cell? ⟨17, 0, none⟩ = some (.int .u64 52) ∧ w.cell? ⟨17, 1, none⟩ = some (.int .u64 11) ∧ w.cell? ⟨17, 2, none⟩ = some (.int .i64 (-1023)) := by
 obtain ⟨cs, fuel, p, hc, hd⟩ := var_trod h (g := 17) (t := 151) (by kernel_rfl) (by kernel_rfl)
 unfold Rows.laid_internal_strconv_float64info at hd
 exact ⟨(hc 0).trans (struct_cell (i := 0) Tryz.underlying151 hd rfl rfl (by kernel_rfl) rfl), (hc 1).trans (struct_cell (i := 1) Tryz.underlying151 hd rfl rfl (by kernel_rfl) rfl), (hc 2).trans (struct_cell (i := 2) Tryz.underlying151 hd rfl rfl (by kernel_rfl) rfl)⟩
theorem laid_opt {w : World} (h : Lib.VarReads Tryz.prog w "internal/strconv.optimize" Rows.laid_internal_strconv_optimize) : w.cell? ⟨16, 0, none⟩ = some (.bool true) := by
 obtain ⟨cs, fuel, p, hc, hd⟩ := var_trod h (g := 16) (t := 4) (by kernel_rfl) (by kernel_rfl)
 unfold Rows.laid_internal_strconv_optimize at hd
 rw [hc 0, trod_lit hd]; rfl
theorem laid_powtab {w : World} (h : Lib.VarReads Tryz.prog w "internal/strconv.powtab" Rows.laid_internal_strconv_powtab) :
  ∃ B O C, B < w.heap.size ∧ w.cell? ⟨20, 0, none⟩ = some (.slice (some ⟨B, O, none⟩) 9 C) ∧ ∀ i, i < 9 → w.cell? ⟨B, O + i, none⟩ = some (.int .i64 (FP.stepN i : Int)) := by
 obtain ⟨cs, fuel, p, hc, hd⟩ := var_trod h (g := 20) (t := 190) (by kernel_rfl) (by kernel_rfl)
 have e : (Rows.laid_internal_strconv_powtab : DataW Unit) = .slice ((List.range 9).map fun i => .lit (.int .i64 (FP.stepN i : Int))) [] := rfl
 rw [e] at hd
 obtain ⟨B, O, C, h1, h2⟩ := slice_rows Tryz.underlying190 (show Tryz.prog.cellsOf 3 = 1 by kernel_rfl) (by decide) (by decide) hd
 have row : ∀ i, i < 9 → w.cell? ⟨B, O + i, none⟩ = some (.int .i64 (FP.stepN i : Int)) := by
  intro i hi
  obtain ⟨c1, n1, q1, a, b, c⟩ := h2 i _ (map_getD (List.range 9) _ 0 (by rw [List.length_range]; exact hi))
  have a0 := a 0 (by decide)
  rw [trod_lit c] at a0
  have e1 : (List.range 9).getD i 0 = i := by rw [List.getD, List.getElem?_range hi]; rfl
  rw [e1] at a0
  rw [show O + i = O + (i * 1 + 0) by omega]
  exact a0
 refine ⟨B, O, C, var_lt (row 0 (by decide)), ?_, row⟩
 rw [hc 0, h1]; rfl
theorem laid_tens {w : World} (h : Lib.VarReads Tryz.prog w "internal/strconv.float64pow10" Rows.laid_internal_strconv_float64pow10) : ∃ B O C, B < w.heap.size ∧ Tens w B O C := by
 obtain ⟨cs, fuel, p, hc, hd⟩ := var_trod h (g := 21) (t := 192) (by kernel_rfl) (by kernel_rfl)
 have e : (Rows.laid_internal_strconv_float64pow10 : DataW Unit) = .slice (FP.tens.map fun x => .lit (.float .f64 x)) [] := rfl
 rw [e] at hd
 obtain ⟨B, O, C, h1, h2⟩ := slice_rows Tryz.underlying192 (show Tryz.prog.cellsOf 30 = 1 by kernel_rfl) (by decide) (by decide) hd
 have row : ∀ k, k < 23 → w.cell? ⟨B, O + k, none⟩ = some (.float .f64 (FP.tens[k]!)) := by
  intro i hi
  obtain ⟨c1, n1, q1, a, b, c⟩ := h2 i _ (map_getB FP.tens _ hi)
  have a0 := a 0 (by decide)
  rw [trod_lit c] at a0
  rw [show O + i = O + (i * 1 + 0) by omega]
  exact a0
 refine ⟨B, O, C, var_lt (row 0 (by decide)), ⟨?_, row⟩⟩
 rw [hc 0, h1]; rfl
theorem laid_pow {w : World} (h : Lib.VarReads Tryz.prog w "internal/strconv.pow10Tab" Rows.laid_internal_strconv_pow10Tab) : ∀ p : Int, -345 ≤ p → p ≤ 310 → PowAt w p ((FP.rowAt p).1 : Int) ((FP.rowAt p).2 : Int) := by
 obtain ⟨cs, fuel, p, hc, hd⟩ := var_trod h (g := 22) (t := 198) (by kernel_rfl) (by kernel_rfl)
 intro q h1 h2
 have hd' : DataW.trod (fun _ => ()) Tryz.prog w 0 (fun _ => true) false fuel 198 cs = some (.agg (Go.Pinned.pow10Rows.map fun x => .agg [.lit (.int .u64 x.1), .lit (.int .u64 x.2)]), p) := hd
 obtain ⟨i, hi⟩ : ∃ i, i = (q + 348).toNat := ⟨_, rfl⟩
 have hlen : Go.Pinned.pow10Rows.length = 696 := by decide +kernel
 obtain ⟨f', d, r, a, b⟩ := Lib.array_elem Tryz.underlying198 hd' i (by omega)
 rw [map_getD Go.Pinned.pow10Rows _ (0, 0) (by omega)] at a
 obtain rfl := Option.some.inj a
 have hcs : Tryz.prog.cellsOf 197 = 2 := by kernel_rfl
 have c0 := struct_cell (i := 0) Tryz.underlying197 b rfl rfl (by kernel_rfl) rfl
 have c1 := struct_cell (i := 1) Tryz.underlying197 b rfl rfl (by kernel_rfl) rfl
 rw [hcs] at c0 c1
 unfold PowAt FP.rowAt
 rw [← hi]
 refine ⟨(hc _).trans ?_, (hc _).trans ?_⟩
 ·simpa [litV, List.getElem?_take, List.getElem?_drop] using c0
 ·simpa [litV, List.getElem?_take, List.getElem?_drop] using c1
theorem laid_cheats {w : World} (h : Lib.VarReads Tryz.prog w "internal/strconv.leftcheats" Rows.laid_internal_strconv_leftcheats) : ∃ B O C, B < w.heap.size ∧ Cheats w B O C := by
 obtain ⟨cs, fuel, p, hc, hd⟩ := var_trod h (g := 23) (t := 209) (by kernel_rfl) (by kernel_rfl)
 have hd' : DataW.trod (fun _ => ()) Tryz.prog w 0 (fun _ => true) false fuel 209 cs = some (.slice (Go.Pinned.cheatRows.map fun x => .agg [.lit (.int .i64 x.1), .lit (.string x.2)]) [], p) := hd
 have hlen := FP.cheats_len
 have hll : (Go.Pinned.cheatRows.map fun x => (DataW.agg [.lit (.int .i64 x.1), .lit (.string x.2)] : DataW Unit)).length = 61 := by rw [List.length_map, hlen]
 obtain ⟨B, O, C, h1, h2⟩ := slice_rows Tryz.underlying209 (show Tryz.prog.cellsOf 208 = 2 by kernel_rfl) (by decide) (by rw [hll]; decide) hd'
 rw [hll] at h1
 have row : ∀ k, k < 61 → w.cell? ⟨B, O + k * 2, none⟩ = some (.int .i64 ((Go.Pinned.cheatRows.getD k (0, [])).1 : Int)) ∧ w.cell? ⟨B, O + k * 2 + 1, none⟩ = some (.string ⟨(Go.Pinned.cheatRows.getD k (0, [])).2.toArray⟩) := by
  intro k hk
  obtain ⟨c1, n1, q1, a, b, c⟩ := h2 k _ (map_getD Go.Pinned.cheatRows _ (0, []) (by omega))
  have x0 := struct_cell (i := 0) Tryz.underlying208 c rfl rfl (by kernel_rfl) rfl
  have x1 := struct_cell (i := 1) Tryz.underlying208 c rfl rfl (by kernel_rfl) rfl
  exact ⟨(a 0 (by decide)).trans x0, (a 1 (by decide)).trans x1⟩
 refine ⟨B, O, C, var_lt (row 0 (by decide)).1, ?_, fun k k1 k2 => ?_⟩
 ·rw [hc 0, h1]; rfl
 ·obtain ⟨r0, r1⟩ := row k (by omega)
  obtain ⟨x, hx⟩ : ∃ x, x = Go.Pinned.cheatRows.getD k (0, []) := ⟨_, rfl⟩
  have hxk : Go.Pinned.cheatRows[k]? = some x := by
   rw [hx, List.getD, List.getElem?_eq_getElem (by omega)]; rfl
  rw [← hx] at r0 r1
  have hch := FP.cheatsOk_get Go.Pinned.cheatRows 0 k FP.cheats_ok x hxk (by omega)
  rw [Nat.zero_add] at hch
  refine ⟨x.1, FP.letters x.2, ⟨r0, _, r1, ?_⟩, hch.1⟩
  have hsz : (⟨x.2.toArray⟩ : ByteArray).size = x.2.length := by simp [ByteArray.size]
  have hll2 : (FP.letters x.2).length = x.2.length := by unfold FP.letters; rw [List.length_map]
  refine ⟨by rw [hsz, hll2], fun i hi => ?_⟩
  rw [hll2] at hi
  unfold bt
  rw [dif_pos (show ((i : Int)).toNat < _ by rw [hsz]; exact hi)]
  have e1 : ((⟨x.2.toArray⟩ : ByteArray)[((i : Int)).toNat]'(by rw [hsz]; exact hi)) = x.2[i] := by
   simp [ByteArray.getElem_eq_getElem_data]
  rw [e1]
  have e2 : (FP.letters x.2).getD i 0 = (x.2[i]).toNat - 48 := by
   unfold FP.letters
   simp [List.getD, hi]
  rw [e2]
  have := (hch.2 _ (List.getElem_mem hi)).1
  have h48 : 48 ≤ (x.2[i]).toNat := by simpa using UInt8.le_iff_toNat_le.1 this
  omega
theorem laid_err {w : World} (h : Lib.VarReads Tryz.prog w "strconv.ErrRange" Rows.laid_strconv_ErrRange) : ∃ ev, w.cell? ⟨13, 0, none⟩ = some ev ∧ (ev = .nilIface ∨ ∃ te pe, ev = .iface te pe) := by
 obtain ⟨cs, fuel, p, hc, hd⟩ := var_trod h (g := 13) (t := 40) (by kernel_rfl) (by kernel_rfl)
 unfold Rows.laid_strconv_ErrRange at hd
 obtain ⟨u, v, e⟩ := trod_face hd
 refine ⟨.iface u v, ?_, .inr ⟨u, v, rfl⟩⟩
 rw [hc 0, e]; rfl
theorem laid_esc {w : World} (h : Lib.VarReads Tryz.prog w "pub-tetrapla/pub/jsonparser.backslashCharEscapeTable" Rows.laid_pub_tetrapla_pub_jsonparser_backslashCharEscapeTable) : JS.EscTab w := by
 obtain ⟨cs, fuel, p, hc, hd⟩ := var_trod h (g := 14) (t := 138) (by kernel_rfl) (by kernel_rfl)
 unfold Rows.laid_pub_tetrapla_pub_jsonparser_backslashCharEscapeTable at hd
 intro c hs
 rw [hc]
 unfold JS.short at hs
 have g := fun i l hi hl => arr_cell (i := i) (l := l) Tryz.underlying138 (show Tryz.prog.cellsOf 5 = 1 by kernel_rfl) hd hi hl
 rcases hs with rfl | rfl | rfl | rfl | rfl | rfl | rfl | rfl
 ·exact g 34 (.int .u8 34) (by decide) rfl
 ·exact g 92 (.int .u8 92) (by decide) rfl
 ·exact g 47 (.int .u8 47) (by decide) rfl
 ·exact g 98 (.int .u8 8) (by decide) rfl
 ·exact g 102 (.int .u8 12) (by decide) rfl
 ·exact g 110 (.int .u8 10) (by decide) rfl
 ·exact g 114 (.int .u8 13) (by decide) rfl
 ·exact g 116 (.int .u8 9) (by decide) rfl
theorem laid_cfg {w : World} (h : Lib.VarReads Tryz.prog w "pub-tetrapla/pub/jsonparser.DefaultConfig" Rows.laid_pub_tetrapla_pub_jsonparser_DefaultConfig) :
  w.cell? ⟨3, 0, none⟩ = some (.bool false) ∧ w.cell? ⟨3, 1, none⟩ = some (.bool false) ∧ w.cell? ⟨3, 2, none⟩ = some (.int .i64 0) := by
 obtain ⟨cs, fuel, p, hc, hd⟩ := var_trod h (g := 3) (t := 93) (by kernel_rfl) (by kernel_rfl)
 unfold Rows.laid_pub_tetrapla_pub_jsonparser_DefaultConfig at hd
 exact ⟨(hc 0).trans (struct_cell (i := 0) Tryz.underlying93 hd rfl rfl (by kernel_rfl) rfl), (hc 1).trans (struct_cell (i := 1) Tryz.underlying93 hd rfl rfl (by kernel_rfl) rfl), (hc 2).trans (struct_cell (i := 2) Tryz.underlying93 hd rfl rfl (by kernel_rfl) rfl)⟩
theorem laid_null {w : World} (h : Lib.VarReads Tryz.prog w "pub-tetrapla/pub/jsonparser.NullValueError" Rows.laid_pub_tetrapla_pub_jsonparser_NullValueError) : ∃ t x, w.cell? ⟨0, 0, none⟩ = some (.iface t x) := by
 obtain ⟨cs, fuel, p, hc, hd⟩ := var_trod h (g := 0) (t := 40) (by kernel_rfl) (by kernel_rfl)
 unfold Rows.laid_pub_tetrapla_pub_jsonparser_NullValueError at hd
 obtain ⟨u, v, e⟩ := trod_face hd
 exact ⟨u, v, by rw [hc 0, e]; rfl⟩
theorem jenv_of_laid {w : World} (h : laidMet Tryz.prog Rows.fnJpGetFloatRow.laid w) : JS.JEnv w.heap.size w := by
 have r : ∀ (i : Nat) {n : String} {d : DataW Unit}, Rows.fnJpGetFloatRow.laid[i]? = some (n, d) → Lib.VarReads Tryz.prog w n d := by
  intro i n d hm
  exact Lib.laidMet.reads h (List.mem_of_getElem? hm)
 obtain ⟨i0, i1, i2⟩ := laid_info (r 3 rfl)
 have o0 := laid_opt (r 4 rfl)
 obtain ⟨B1, O1, C1, p1, p2, p3⟩ := laid_powtab (r 5 rfl)
 obtain ⟨B2, O2, C2, t1, t2⟩ := laid_tens (r 6 rfl)
 obtain ⟨ev, e1, e2⟩ := laid_err (r 9 rfl)
 have hcf := laid_cfg (r 11 rfl)
 have he := laid_esc (r 12 rfl)
 obtain ⟨tn, xn, hn⟩ := laid_null (r 21 rfl)
 obtain ⟨B3, O3, C3, l1, l2⟩ := laid_cheats (r 22 rfl)
 have q := laid_pow (r 23 rfl)
 exact ⟨⟨⟨⟨Nat.le_refl _, var_lt i0, i0, i1, i2, var_lt p2, ⟨B1, O1, C1, p1, p2, p3⟩, var_lt l2.1, ⟨B3, O3, C3, l1, l2⟩⟩, var_lt o0, o0, var_lt t2.var, ⟨B2, O2, C2, t1, t2⟩, var_lt (q 0 (by decide) (by decide)).1, q⟩, var_lt e1, ⟨ev, e1, e2⟩⟩,
  he, var_lt (he 34 (.inl rfl)), hcf, var_lt hcf.1, ⟨tn, xn, hn⟩, var_lt hn⟩
end Go.Proofs.YtbimfhaokgigkaaGreatDoor
namespace Go.Proofs.YtbimfhaokgigkaaGreatDoor
open Go.ChangeShapes Go.WideShapes Go.ChangeAt Go.RowKit Go.Lib
open Go.ChangeMaps (open_string shut_string)
theorem jpOwn : ownKnob Tryz.prog.godebug = none := by kernel_rfl
theorem fnJpGetFloat_lifted (os : Os) (started : os.Started) (H : Type) (enc : TypeId × Value → H) :
  ReturnsInHanded {} Tryz.checked os 3 .any (fun w args => (Rows.fnJpGetFloatSpec.pre enc Tryz.prog Tryz.f3 [] false w args ∧ laidMetH Tryz.prog Rows.fnJpGetFloatRow.laid w) ∧ sizedMet enc Tryz.prog Tryz.f3 (OpenSpec.ofChange Rows.fnJpGetFloatSpec) false w args)
   (Rows.fnJpGetFloatSpec.post enc Tryz.prog Tryz.f3 false true false false) := by
 refine returnsInHanded_of_change_and (C := Tryz.checked) (X := fun w _ => laidMetH Tryz.prog Rows.fnJpGetFloatRow.laid w) (fun _ _ _ hh h => h.of_heap hh) jpOwn started (by kernel_rfl) Tryz.func3
  (ChangeSpec.witness_shaped (enc := enc) (C := Tryz.checked) (os := os) (X := fun w _ => laidMetH Tryz.prog Rows.fnJpGetFloatRow.laid w) false (World.laidAll Tryz.prog os Rows.fnJpGetFloatRow.laid) #[.string ⟨#[]⟩, .slice none 0 0] 8 (World.laidAll_os _ _ _)
   (World.shaped_of_ZipB (by kernel_rfl) (by kernel_rfl)) (by kernel_rfl) (by kernel_rfl) (by kernel_rfl)
   (by rw [MakeChecks.laidMetH_plain _ _ _ (by kernel_rfl)]; exact laidMet_laidAll _ (by kernel_rfl) (by kernel_rfl))) ?_
 intro W base args ds gs before hval0 hW _ _ hL _
 have hval : ∀ (j : Nat) t v, Tryz.f3.params[j]? = some t → args[j]? = some v → Value.okWide Tryz.prog W .any base t v := hval0
 have hW' := hW
 obtain ⟨p, q, hA0, hV, rfl, _, _⟩ := hW
 have hA : DataW.TrodAll enc Tryz.prog W 0 (fun _ => true) true Tryz.f3.params.toList args.toList ds p := hA0
 rw [Tryz.params3] at hA hval
 obtain ⟨v0, v1, d0, d1, p0, p1, rfl, rfl, rfl, h0, h1⟩ := trodAll_two hA
 obtain ⟨rfl, rfl⟩ := trodVars_none hV
 obtain ⟨s, rfl, rfl, rfl, ws⟩ := open_string Tryz.underlying9 (hval 0 9 v0 rfl rfl) h0
 obtain ⟨a0, len, cap, rfl⟩ := okWide_slice Tryz.underlying22 (hval 1 22 v1 rfl rfl)
 have h1k := h1
 have hlt : ∀ x ∈ p1, x.block < W.heap.size := fun x hx => by simpa using hW'.lt x (by simp [hx])
 obtain ⟨ks, hk, hn, hck, h63⟩ : ∃ ks, JS.KeysA W a0 ks ∧ len = ks.length ∧ len ≤ cap ∧ len ≤ 9223372036854775807 := by
  obtain ⟨fuel, hf⟩ := h1
  rcases open_strings Tryz.underlying22 Tryz.underlying9 (by kernel_rfl) hf with ⟨hcs, hx⟩ | ⟨a, len', cap', ss, hcs, _, hl, hm, hz, hx, hcell, hsz⟩
  ·obtain ⟨rfl, rfl, rfl⟩ : a0 = none ∧ len = 0 ∧ cap = 0 := by simpa [Value.cells] using hcs
   exact ⟨[], fun h => absurd h (by simp), rfl, Nat.le_refl _, by omega⟩
  ·obtain ⟨rfl, rfl, rfl⟩ : a0 = some a ∧ len = len' ∧ cap = cap' := by simpa [Value.cells] using hcs
   have hlen : ss.length = cap := by simpa using hz
   have hm' : cap ≤ 9223372036854775807 := Nat.le_trans hm (by decide)
   refine ⟨ss.take len, fun h0 => ?_, by rw [List.length_take]; omega, hl, by omega⟩
   rw [List.length_take] at h0
   obtain ⟨g, o, spt⟩ := a
   have hsp : spt = none := by
    have := hcell 0 (by omega)
    rw [show (⟨g, o, spt⟩ : Addr).add 0 = ⟨g, o, spt⟩ by simp [Addr.add]] at this
    exact cell_nospot this
   subst hsp
   have hc : ∀ (i : Nat) (k : ByteArray), (ss.take len)[i]? = some k → W.cell? ⟨g, o + i, none⟩ = some (Value.string k) := by
    intro i k hk
    have hi := (List.getElem?_eq_some_iff.1 hk).1
    rw [List.length_take] at hi
    have := hcell i (by omega)
    rw [show (⟨g, o, none⟩ : Addr).add i = ⟨g, o + i, none⟩ by simp [Addr.add]] at this
    rw [this]
    rw [List.getElem?_take, if_pos (by omega)] at hk
    rw [List.getD, hk]
    rfl
   refine ⟨g, o, rfl, ?_, hc⟩
   exact World.block_lt_of_cell? W _ (hcell 0 (by omega))
 simp only [List.append_nil] at hW'
 rw [MakeChecks.laidMetH_plain _ _ _ (by kernel_rfl)] at hL
 refine (JS.law_calls hk hn hck h63 (jenv_of_laid hL)).mono fun e W' ⟨he, hb⟩ => ?_
 subst he
 exact ⟨_, rfl, _, _, _, [], p1, [], hW', trodAll_mk1 (shut_bool Tryz.underlying4 _), trodAll_mk2 (shut_string Tryz.underlying9 ws) (Below.trod (by kernel_rfl) (by kernel_rfl) (of_decide_eq_true (by kernel_rfl)) h1k hb hlt), rfl, hb.frame _, fun h => by cases h⟩
theorem fnJpGetFloat_holds : Rows.FnJpGetFloatSaid :=
 OpenClaim.holds_of_wide 3 Tryz.f3 rfl rfl rfl rfl rfl rfl rfl ⟨rfl, rfl, rfl, rfl, rfl⟩ rfl rfl rfl rfl rfl (by kernel_rfl) Tryz.func3 (by kernel_rfl)
  (of_decide_eq_true (by kernel_rfl)) (by unfold Func.isWrapper; first | (rw [if_pos (by decide +kernel)]; kernel_rfl) | (rw [if_neg (by decide +kernel)]; exact ⟨rfl, rfl⟩))
  (fun os started H enc _ => fnJpGetFloat_lifted os started H enc)
theorem fnJpGetFloat_card_holds : Rows.FnJpGetFloatCardSaid :=
 Claim7.holds_tied_plain_at .later [] [.data, .data, .widerDeep, .widerDeep, .data, .data, .data, .data, .data, .sentinel, .sentinel, .data, .data, .sentinel, .sentinel, .sentinel, .sentinel, .sentinel, .sentinel, .sentinel, .sentinel, .sentinel, .pinned, .pinned] true (true, "821054a4aefc7dcdefe2c3f421dc9a8303b0a261ae74803dfd5c8d8c8a1f3558") true
  fnJpGetFloat_holds (fun _ h => by cases h) (by kernel_rfl) (fun _ h => by cases h) fnJpGetFloat_row_tie rfl ⟨rfl, rfl⟩ (by kernel_rfl) rfl
  (fun f fn hf hfn => by
   obtain rfl : f = 3 := Option.some.inj ((show Tryz.prog.funcNamed "pub-tetrapla/laws.FnJpGetFloat" = some 3 by kernel_rfl).symm.trans hf) |>.symm
   obtain rfl : fn = Tryz.f3 := (Option.some.inj (Tryz.func3.symm.trans hfn)).symm
   exact ⟨by kernel_rfl, fun j t ht => by
    rw [Tryz.params3] at ht
    have hm : t ∈ [9, 22] := by simpa using Array.mem_of_getElem? ht
    have hall : ([9, 22].all fun u => !Tryz.prog.wantsStandIn u) = true := by kernel_rfl
    exact (show Tryz.prog.wantsStandIn t = false by simpa using List.all_eq_true.1 hall t hm)⟩)
  (by kernel_rfl)
#print axioms fnJpGetFloat_card_holds
end Go.Proofs.YtbimfhaokgigkaaGreatDoor
