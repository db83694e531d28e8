/- Walks of functions of FnJpGetFloat (Y4, Y5, Y6, Y7, Y8); conditions stand ahead of each theorem. -/
import Derived.Test.YtbimfhaokgigkaaGreatDoorT39
import Derived.Maps.AppendAt
set_option linter.unusedVariables false
set_option linter.unusedSimpArgs false
set_option maxRecDepth 1000000
set_option maxHeartbeats 8000000
namespace Go.Proofs.YtbimfhaokgigkaaGreatDoor
open Go.RowKit Go.Proofs.YtbimfhaokgigkaaGreatDoorW.PrintWords Go.Proofs.YtbimfhaokgigkaaGreatDoorW.PrintLast
namespace JS
def Own (w : World) (B : Nat → Prop) (e : TypeId) (size : Nat) (v : Value) (n : Nat) (xs : List Value) : Prop :=
 xs.length = n * size ∧ ((v = .slice none 0 0 ∧ n = 0) ∨ ∃ g cap cur, v = .slice (some ⟨g, 0, none⟩) n cap ∧ B g ∧ w.heap[g]? = some (.cells cur e (0, 0)) ∧ n ≤ cap ∧ cur.toList.take (n * size) = xs)
theorem Own.keep {w w' : World} {B B' : Nat → Prop} {e : TypeId} {size n : Nat} {v : Value} {xs : List Value} (h : Own w B e size v n xs) (hk : ∀ k, B k → k < w.heap.size → w'.heap[k]? = w.heap[k]? ∧ B' k) : Own w' B' e size v n xs := by
 refine ⟨h.1, ?_⟩
 rcases h.2 with h | ⟨g, cap, cur, h1, h2, h3, h4, h5⟩
 ·exact .inl h
 ·obtain ⟨k1, k2⟩ := hk g h2 (blk_lt h3)
  exact .inr ⟨g, cap, cur, h1, k2, k1.trans h3, h4, h5⟩
theorem Own.of {w : World} {base n size : Nat} {e : TypeId} {v : Value} {xs : List Value} (h : w.ownsRow base e size v n xs) : Own w (fun k => v.ownBlock = some k) e size v n xs := by
 refine ⟨h.1, ?_⟩
 rcases h.2 with h | ⟨g, cap, cur, rfl, h2, h3, h4, _, _, h5⟩
 ·exact .inl h
 ·exact .inr ⟨g, cap, cur, rfl, rfl, h3, h4, h5⟩
def cls : Value → List Value
 | .agg xs => xs.toList
 | _ => []
def nmv (x : Nat × Nat) : Value := .agg #[.int .i64 (x.1 : Int), .int .i64 (x.2 : Int)]
inductive PL (w : World) (B : Nat → Prop) : Value → JT → Prop
 | mk (k b e : Nat) (names : List (Nat × Nat)) (kids : List JT) (nv kv : Value) (vals : List Value) : Own w B 46 2 nv names.length ((names.map nmv).flatMap cls) → Own w B 27 5 kv kids.length (vals.flatMap cls) → vals.length = kids.length →
   (∀ (i : Nat) (v : Value) (t : JT), vals[i]? = some v → kids[i]? = some t → PL w B v t) → PL w B (.agg #[.int .i64 (k : Int), .int .i64 (b : Int), .int .i64 (e : Int), nv, kv]) (.mk k b e names kids)
theorem PL.keep {w w' : World} {B B' : Nat → Prop} (hk : ∀ k, B k → k < w.heap.size → w'.heap[k]? = w.heap[k]? ∧ B' k) {v : Value} {t : JT} (h : PL w B v t) : PL w' B' v t := by
 induction h with
 | mk k b e names kids nv kv vals h1 h2 h3 h4 ih => exact .mk k b e names kids nv kv vals (h1.keep hk) (h2.keep hk) h3 ih
def Five (v : Value) : Prop := ∃ (k b e : Int) (A1 A2 : Option Addr) (n1 c1 n2 c2 : Nat), v = .agg #[.int .i64 k, .int .i64 b, .int .i64 e, .slice A1 n1 c1, .slice A2 n2 c2]
theorem Own.slice {w : World} {B : Nat → Prop} {e : TypeId} {size n : Nat} {v : Value} {xs : List Value} (h : Own w B e size v n xs) : ∃ A c, v = .slice A n c := by
 rcases h.2 with ⟨h, h0⟩ | ⟨g, cap, cur, h1, _⟩
 ·exact ⟨none, 0, by rw [h, h0]⟩
 ·exact ⟨_, _, h1⟩
theorem PL.five {w : World} {B : Nat → Prop} {v : Value} {t : JT} (h : PL w B v t) : Five v := by
 cases h with
 | mk k b e names kids nv kv vals h1 h2 h3 h4 =>
  obtain ⟨A1, c1, e1⟩ := h1.slice
  obtain ⟨A2, c2, e2⟩ := h2.slice
  exact ⟨k, b, e, A1, A2, _, c1, _, c2, by rw [e1, e2]⟩
theorem info_place : (Tryz.prog.info? 27).map (fun i => (i.zero, i.size, i.bytes)) = some (some (.agg #[.int .i64 0, .int .i64 0, .int .i64 0, .slice none 0 0, .slice none 0 0]), 5, 72) := by kernel_rfl
theorem info_span : (Tryz.prog.info? 46).map (fun i => (i.zero, i.size, i.bytes)) = some (some (.agg #[.int .i64 0, .int .i64 0]), 2, 16) := by kernel_rfl
def ValPost (w : World) (g : Nat) (s : ByteArray) (p : Nat) (x : Ending) (w' : World) : Prop :=
 ∃ (v : Value) (b : Bool) (q : Nat), x = .returned (.tuple #[v, .bool b]) ∧ Rdr w' g s q ∧ w.grownBy w' (some g) ∧ Five v ∧ (b = true → q ≤ s.size ∧ ∃ t, V s t ∧ t.b = p ∧ t.e = q ∧ PL w' (fun k => w.heap.size ≤ k) v t)
def ValC (s : ByteArray) (n : Nat) : Prop := ∀ (w : World) (g p : Nat), Rdr w g s p → p ≤ s.size → s.size - p < n → Calls Tryz.prog 24 #[.pointer (some ⟨g, 0, none⟩)] w (ValPost w g s p)
theorem Rdr.alloc {w : World} {g p : Nat} {s : ByteArray} (h : Rdr w g s p) (o : Obj) : Rdr (w.alloc o) g s p := blk_below h ((Below.refl _ _).alloc (Nat.le_refl _) o)
theorem grown_alloc {w w1 : World} {r : Option Nat} (h : w.grownBy w1 r) (o : Obj) : w.grownBy (w1.alloc o) r := grown_trans h (grown_of_below ((Below.refl _ _).alloc (Nat.le_refl _) o) r)
def KidsAt (w : World) (N : Nat) (v : Value) (kids : List JT) : Prop :=
 ∃ vals : List Value, Own w (fun k => N ≤ k) 27 5 v kids.length (vals.flatMap cls) ∧ vals.length = kids.length ∧ ∀ (i : Nat) (u : Value) (t : JT), vals[i]? = some u → kids[i]? = some t → PL w (fun k => N ≤ k) u t
def ElPost (w : World) (g : Nat) (s : ByteArray) (p : Nat) (x : Ending) (w' : World) : Prop :=
 ∃ (A : Option Addr) (m c : Nat) (b : Bool) (q : Nat), x = .returned (.tuple #[.slice A m c, .bool b]) ∧ Rdr w' g s q ∧ w.grownBy w' (some g) ∧ (b = true → q ≤ s.size ∧ ∃ kids, V s (.mk 5 p q [] kids) ∧ KidsAt w' w.heap.size (.slice A m c) kids)
theorem grown_own {w w1 w2 : World} {g : Nat} {o : Option Nat} (h : w.grownBy w1 (some g)) (k : w1.grownBy w2 o) (ho : ∀ k, o = some k → w.heap.size ≤ k) : w.grownBy w2 (some g) :=
 ⟨k.os.trans h.os, k.tape.trans h.tape, k.output.trans h.output, Nat.le_trans h.size k.size, fun i hi hne => (k.block i (Nat.lt_of_lt_of_le hi h.size) (fun e => by have := ho i e.symm; omega)).trans (h.block i hi hne)⟩
def PB (N : Nat) (a b : Option Nat) (k : Nat) : Prop := N ≤ k ∧ a ≠ some k ∧ b ≠ some k
def PLs (w : World) (B : Nat → Prop) (vals : List Value) (done : List JT) : Prop := vals.length = done.length ∧ ∀ (i : Nat) (u : Value) (t : JT), vals[i]? = some u → done[i]? = some t → PL w B u t
theorem PLs.keep {w w' : World} {B B' : Nat → Prop} {vals : List Value} {done : List JT} (h : PLs w B vals done) (hk : ∀ k, B k → k < w.heap.size → w'.heap[k]? = w.heap[k]? ∧ B' k) : PLs w' B' vals done :=
 ⟨h.1, fun i u t h1 h2 => (h.2 i u t h1 h2).keep hk⟩
theorem PLs.grown {w w' : World} {N g : Nat} {a b : Option Nat} {vals : List Value} {done : List JT} (h : PLs w (PB N a b) vals done) (hg : g < N) (k : w.grownBy w' (some g)) : PLs w' (PB N a b) vals done :=
 h.keep fun i hi hlt => ⟨k.block i hlt (fun e => by have := Option.some.inj e; have := hi.1; omega), hi⟩
theorem PLs.add {N g : Nat} {wr w3 W w4 : World} {vals : List Value} {done : List JT} {o o1 o2 : Option Nat} {v : Value} {t : JT} (h : PLs wr (PB N o o2) vals done) (hg : g < N) (hN : N ≤ wr.heap.size) (h3 : wr.grownBy w3 (some g)) (hv : PL w3 (fun k => wr.heap.size ≤ k) v t)
  (ho : ∀ k, o = some k → k < wr.heap.size) (ho2 : ∀ k, o2 = some k → k < wr.heap.size) (hW : Below w3.heap.size w3 W) (h4 : W.grownBy w4 o) (hat : o1 = o ∨ o1 = some W.heap.size) : PLs w4 (PB N o1 o2) (vals ++ [v]) (done ++ [t]) := by
 have hs3 := h3.size
 have hsW := hW.size
 refine ⟨by rw [List.length_append, List.length_append, h.1]; rfl, fun i u t' h1 h2 => ?_⟩
 by_cases c : i < done.length
 ·rw [List.getElem?_append_left (by have := h.1; omega)] at h1
  rw [List.getElem?_append_left c] at h2
  refine (h.2 i u t' h1 h2).keep fun k hk hlt => ⟨?_, hk.1, ?_, hk.2.2⟩
  ·rw [h4.block k (by omega) (fun e => hk.2.1 e.symm), hW.block k (by omega), h3.block k hlt (fun e => by have := Option.some.inj e; have := hk.1; omega)]
  ·rcases hat with e | e
   ·rw [e]; exact hk.2.1
   ·rw [e]; intro e; have := Option.some.inj e; omega
 ·have hi1 : i < (done ++ [t]).length := (List.getElem?_eq_some_iff.1 h2).1
  rw [List.length_append, List.length_singleton] at hi1
  have hl := h.1
  obtain rfl : i = done.length := by omega
  rw [List.getElem?_append_right (by omega), hl, Nat.sub_self] at h1
  rw [List.getElem?_append_right (by omega), Nat.sub_self] at h2
  simp at h1 h2
  subst h1
  subst h2
  refine hv.keep fun k hk hlt => ⟨?_, by omega, ?_, ?_⟩
  ·rw [h4.block k (by omega) (fun e => by have := ho k e.symm; omega), hW.block k hlt]
  ·rcases hat with e | e
   ·rw [e]; intro e; have := ho k e; omega
   ·rw [e]; intro e; have := Option.some.inj e; omega
  ·intro e; have := ho2 k e; omega
structure ElOwn (w : World) (g : Nat) (s : ByteArray) (y : Nat) (w' : World) (v4 : Value) (done : List JT) (vals : List Value) : Prop where
 rdr : Rdr w' g s y
 grown : w.grownBy w' (some g)
 own : w'.ownsRow w.heap.size 27 5 v4 done.length (vals.flatMap cls)
 pl : PLs w' (PB w.heap.size v4.ownBlock none) vals done
theorem own_ne {w : World} {N g n size : Nat} {e : TypeId} {v : Value} {xs : List Value} (h : w.ownsRow N e size v n xs) (hg : g < N) : v.ownBlock = none ∨ v.ownBlock ≠ some g := .inr fun e => by have := (h.lt g e).1; omega
theorem ElOwn.next {w w1 w2 : World} {g y z : Nat} {s : ByteArray} {v4 : Value} {done : List JT} {vals : List Value} (h : ElOwn w g s y w1 v4 done vals) (hg : g < w.heap.size) (hr : Rdr w2 g s z) (k : w1.grownBy w2 (some g)) : ElOwn w g s z w2 v4 done vals :=
 ⟨hr, grown_trans h.grown k, h.own.kept k (own_ne h.own hg), h.pl.grown hg k⟩
theorem ElOwn.row {w w1 : World} {g y : Nat} {s : ByteArray} {v4 : Value} {done : List JT} {vals : List Value} (h : ElOwn w g s y w1 v4 done vals) : ∃ A c, v4 = .slice A done.length c := (Own.of h.own).slice
theorem ElOwn.kids {w w1 : World} {g y : Nat} {s : ByteArray} {v4 : Value} {done : List JT} {vals : List Value} (h : ElOwn w g s y w1 v4 done vals) : KidsAt w1 w.heap.size v4 done :=
 ⟨vals, (Own.of h.own).keep fun k hk _ => ⟨rfl, (h.own.lt k hk).1⟩, h.pl.1, fun i u t h1 h2 => (h.pl.2 i u t h1 h2).keep fun k hk _ => ⟨rfl, hk.1⟩⟩
theorem ElOwn.add {w wr w3 w4 : World} {g x q : Nat} {s : ByteArray} {v4 v1 v : Value} {o1 o2 : Obj} {done : List JT} {vals : List Value} {t : JT} (hE : ElOwn w g s x wr v4 done vals) (hg : g < w.heap.size) (hr : Rdr w3 g s q) (h3 : wr.grownBy w3 (some g)) (hv : PL w3 (fun k => wr.heap.size ≤ k) v t)
  (hown : w4.ownsRow w.heap.size 27 5 v1 (done.length + 1) (vals.flatMap cls ++ cls v)) (h4 : ((w3.alloc o1).alloc o2).grownBy w4 v4.ownBlock) (hat : v1.ownBlock = v4.ownBlock ∨ v1.ownBlock = some ((w3.alloc o1).alloc o2).heap.size) : ElOwn w g s q w4 v1 (done ++ [t]) (vals ++ [v]) := by
 have hW : Below w3.heap.size w3 ((w3.alloc o1).alloc o2) := ((Below.refl _ _).alloc (Nat.le_refl _) _).alloc (by simp) _
 have hgs := grown_alloc (grown_alloc (grown_refl w3 (some g)) o1) o2
 refine ⟨?_, ?_, ?_, ?_⟩
 ·show w4.heap[g]? = _
  have hb := blk_below hr hW
  rw [h4.block g (blk_lt hb) (fun e => by have := (hE.own.lt g e.symm).1; omega)]
  exact hb
 ·exact grown_own (grown_trans (grown_trans hE.grown h3) hgs) h4 fun k e => (hE.own.lt k e).1
 ·rw [List.length_append, List.length_singleton, List.flatMap_append]
  simpa using hown
 ·exact hE.pl.add hg hE.grown.size h3 hv (fun k e => (hE.own.lt k e).2) (fun k e => by cases e) hW h4 hat
theorem five_new (w : World) (n : Nat) (hn : n = w.heap.size) (a b c d e : Value) (t : TypeId) : ∀ j u, [a, b, c, d, e][j]? = some u → (w.alloc (.cells #[a, b, c, d, e] t)).cell? ((⟨n, 0, none⟩ : Addr).add j) = some u := by
 subst hn
 intro j u hj
 match j, hj with
 | 0, hj => simp at hj; subst hj; simp [Addr.add]
 | 1, hj => simp at hj; subst hj; simp [Addr.add]
 | 2, hj => simp at hj; subst hj; simp [Addr.add]
 | 3, hj => simp at hj; subst hj; simp [Addr.add]
 | 4, hj => simp at hj; subst hj; simp [Addr.add]
theorem five_one (k b e : Int) (A1 A2 : Option Addr) (n1 c1 n2 c2 : Nat) : ∀ u ∈ [Value.int .i64 k, .int .i64 b, .int .i64 e, .slice A1 n1 c1, .slice A2 n2 c2], u.oneCell' = true := by
 intro u hu
 simp only [List.mem_cons, List.not_mem_nil, or_false] at hu
 rcases hu with rfl | rfl | rfl | rfl | rfl <;> rfl
theorem elements_calls {w : World} {g p n : Nat} {s : ByteArray} (IH : ValC s n) (h : Rdr w g s p) (hs : s.size ≤ 65536) (h91 : bn s p = 91) (hn : s.size - p ≤ n) :
  Calls Tryz.prog 41 #[.pointer (some ⟨g, 0, none⟩)] w (ElPost w g s p) := by
 refine byR fun R hR => ?_
 have HR := az hR
 have hp : p < s.size := bn_pos (by omega)
 have hc1 := (blk_cell h 1).trans rfl
 have hf1 := blk_frozen h 1
 have hs6 : (s.size : Int) ≤ 65536 := by omega
 have hp6 : (p : Int) < 65536 := by omega
 have H1 : Aside0 (Rdr (w.setCell ⟨g, 1, none⟩ (.int .i64 ((p : Int) + 1))) g s (p + 1) ∧ w.grownBy (w.setCell ⟨g, 1, none⟩ (.int .i64 ((p : Int) + 1))) (some g)) := ⟨Rdr.set h (p + 1) _ (by omega), grown_set (grown_refl _ _) _ _⟩
 have CB := az (fun (W : World) (x : Nat) (h : Rdr W g s x) (hx : x ≤ s.size) => blanks_calls h hs hx)
 have HP := az5 hs h91 hn hp (blk_lt h)
 have IHa := az IH
 obtain ⟨i0, hi, hz0, hz1, hz2⟩ := info_parts info_place
 clear hR h hs h91 hn IH
 go_enter Tryz.func41, Tryz.ntmps41
 go_upto_region 4 with (go_at_call 23; refine (CB.out _ _ H1.out.1 hp).mono ?_; rintro e w1 ⟨a, ha, rfl, hr, hg⟩; dsimp only; have HA := az3 ha hr (grown_trans H1.out.2 hg); clear ha hr hg)
 by_cases h93 : bn s a = 93
 ·have CY := az (take_yes HA.out.2.1 HP.out.1 h93 (by decide))
  have H93 := az h93
  clear h93
  go_wp2_with (go_at_call 50; refine CY.out.mono ?_; rintro e w2 ⟨rfl, hr, hg⟩; dsimp only; have HX := az2 hr (grown_trans HA.out.2.2 hg); clear hr hg)
  rw [HR.out]
  have ha1 : a < s.size := bn_pos (by have := H93.out; omega)
  exact ⟨none, 0, 0, true, a + 1, rfl, HX.out.1, HX.out.2, fun _ => ⟨ha1, [], V.arr0 p a HP.out.2.1 HA.out.1 ha1 H93.out, [], ⟨rfl, .inl ⟨rfl, rfl⟩⟩, rfl, fun i u t h => by simp at h⟩⟩
 ·have CY := az (take_no HA.out.2.1 HP.out.1 h93)
  clear h93
  go_wp2_with (go_at_call 50; refine CY.out.mono ?_; rintro e w2 ⟨rfl, hr, hg⟩; dsimp only; have HX := az2 hr (grown_trans HA.out.2.2 hg); clear hr hg)
  go_loopg [4] (s.size - a) (fun q v4 w' => ∃ (x : Nat) (done : List JT) (vals : List Value), Aside0 (q = s.size - x ∧ p < x ∧ x ≤ s.size ∧ done.length ≤ x ∧ ∀ e r, Els s x e r → Els s a e (done ++ r)) ∧ Aside0 (ElOwn w g s x w' v4 done vals))
  case atStart =>
   have hb := HA.out.1
   exact ⟨a, [], [], ⟨rfl, by have := hb.1; omega, hb.2.1, Nat.zero_le _, fun e r h => h⟩, ⟨HX.out.1, HX.out.2, World.ownsRow_nil _ _ _ _, rfl, fun i u t h => by simp at h⟩⟩
  case round =>
   obtain ⟨x, done, vals, hq, hE⟩ := hrel
   have CV := az (IHa.out _ _ _ hE.out.rdr hq.out.2.2.1 (by have := hq.out.2.1; have := HP.out.2.2; omega))
   go_upto_region 7 with (go_at_call 24; refine CV.out.mono ?_; rintro e w3 ⟨v, b, q, rfl, hr, hg, ⟨k5, b5, e5, A1, A2, n1, c1, n2, c2, rfl⟩, hb⟩; dsimp only; have HV := az3 hr hg hb; clear hr hg hb)
   cases b with
   | false =>
    go_wp2_with fail
    rw [HR.out]
    exact ⟨none, 0, 0, false, q, rfl, HV.out.1.alloc _, grown_alloc (grown_trans hE.out.grown HV.out.2.1) _, fun h => by cases h⟩
   | true =>
    obtain ⟨hr, hg, hb⟩ := HV.out
    obtain ⟨hq1, t, hv, htb, hte, hpl⟩ := hb (by trivial)
    have hlt := V.le hv
    have hN := hE.out.grown.size
    have ho3 := hE.out.own.kept hg (own_ne hE.out.own HP.out.2.2.2.2)
    have HO3 := az ho3
    have HT := az5 hq1 hv htb hte hpl
    have hd6 : done.length < 65536 := by have := hq.out.2.2.2.1; omega
    clear hr hg hb hq1 hv htb hte hpl hlt hN ho3
    go_upto_region 11 with (first | (at_builtin; refine wpList_append_own_at _ rfl _ _ 25 rfl w.heap.size 27 i0 (.agg #[.int .i64 0, .int .i64 0, .int .i64 0, .slice none 0 0, .slice none 0 0]) 5 72 Tryz.underlying25 hi hz0 hz1 hz2 rfl (by decide) _ done.length _ rfl ((HO3.out.alloc _).alloc _) ⟨w3.heap.size + 1, 0, none⟩ 1 1 [_, _, _, _, _] (by rfl) rfl (five_new _ _ (by simp) _ _ _ _ _ _) (five_one _ _ _ _ _ _ _ _ _) (by unfold maxLen; omega) (by omega) (by have := hE.out.grown.size; have := HV.out.2.1.size; simp; omega) ?_; intro v1 w4 hown4 hgrow4 hnil4 hat4; clear hnil4; have HO := az (hE.out.add HP.out.2.2.2.2 HV.out.1 HV.out.2.1 HT.out.2.2.2.2 hown4 hgrow4 hat4); clear hown4 hgrow4 hat4) | (go_at_call 23; refine (CB.out _ _ HO.out.rdr HT.out.1).mono ?_; rintro e w5 ⟨c, hc, rfl, hr, hg⟩; dsimp only; have HC := az3 hc hr hg; clear hc hr hg))
    have hO5 := HO.out.next HP.out.2.2.2.2 HC.out.2.1 HC.out.2.2
    have HO5 := az hO5
    obtain ⟨A6, c6, hv6⟩ := hO5.row
    rw [show (done ++ [t]).length = done.length + 1 by simp] at hv6
    subst hv6
    have hlt := V.le HT.out.2.1
    have hcl := HC.out.1
    have HL := az2 hlt hcl
    clear hO5 hlt hcl
    by_cases h93c : bn s c = 93
    ·have CY := az (take_yes HC.out.2.1 HP.out.1 h93c (by decide))
     have H93 := az h93c
     clear h93c
     go_wp2_with (go_at_call 50; refine CY.out.mono ?_; rintro e w6 ⟨rfl, hr, hg⟩; dsimp only; have HX6 := az2 hr hg; clear hr hg)
     rw [HR.out]
     have hc1 : c < s.size := bn_pos (by have := H93.out; omega)
     have hO6 := HO5.out.next HP.out.2.2.2.2 HX6.out.1 HX6.out.2
     obtain ⟨hq1, hv, htb, hte, hpl⟩ := HT.out
     refine ⟨A6, _, c6, true, c + 1, rfl, HX6.out.1, hO6.grown, fun _ => ⟨hc1, done ++ [t], V.arr p a (c + 1) _ HP.out.2.1 HA.out.1 (hq.out.2.2.2.2 (c + 1) [t] ?_), hO6.kids⟩⟩
     rw [← htb]
     exact Els.last t c hv (by rw [hte]; exact HC.out.1) hc1 H93.out
    ·have CY := az (take_no HC.out.2.1 HP.out.1 h93c)
     clear h93c
     by_cases h44 : bn s c = 44
     ·have CZ := az (fun (W : World) (h : Rdr W g s c) => take_yes h HP.out.1 h44 (by decide))
      have H44 := az h44
      have hc1 : c < s.size := bn_pos (by omega)
      clear h44
      go_upto_region 13 with (go_at_call 50; refine CY.out.mono ?_; rintro e w6 ⟨rfl, hr, hg⟩; dsimp only; have HX6 := az2 hr hg; clear hr hg)
      go_wp2_with (first | (go_at_call 50; refine (CZ.out _ HX6.out.1).mono ?_; rintro e w7 ⟨rfl, hr, hg⟩; dsimp only; have HX7 := az2 hr hg; clear hr hg) | (go_at_call 23; refine (CB.out _ _ HX7.out.1 hc1).mono ?_; rintro e w8 ⟨y, hy, rfl, hr, hg⟩; dsimp only; have HY := az3 hy hr hg; clear hy hr hg))
      have hO8 := ((HO5.out.next HP.out.2.2.2.2 HX6.out.1 HX6.out.2).next HP.out.2.2.2.2 HX7.out.1 HX7.out.2).next HP.out.2.2.2.2 HY.out.2.1 HY.out.2.2
      obtain ⟨hq1, hv, htb, hte, hpl⟩ := HT.out
      have hyb := HY.out.1
      have hlt := HL.out.1
      have hcl := HL.out.2
      have hy1 := hyb.1
      have hc1' := hcl.1
      go_roundg (s.size - y)
      case measure => have := hq.out.1; omega
      case rel =>
       refine ⟨y, done ++ [t], vals ++ [_], ⟨rfl, by have := hq.out.2.1; omega, hyb.2.1, ?_, fun e r hr => ?_⟩, ⟨hO8⟩⟩
       ·rw [List.length_append, List.length_singleton]
        have := hq.out.2.2.2.1
        omega
       ·rw [List.append_assoc]
        refine hq.out.2.2.2.2 e (t :: r) ?_
        rw [← htb]
        exact Els.more t c y e r hv (by rw [hte]; exact hcl) hc1 H44.out hyb hr
     ·have CZ := az (fun (W : World) (h : Rdr W g s c) => take_no h HP.out.1 h44)
      clear h44
      go_upto_region 13 with (go_at_call 50; refine CY.out.mono ?_; rintro e w6 ⟨rfl, hr, hg⟩; dsimp only; have HX6 := az2 hr hg; clear hr hg)
      go_wp2_with (go_at_call 50; refine (CZ.out _ HX6.out.1).mono ?_; rintro e w7 ⟨rfl, hr, hg⟩; dsimp only; have HX7 := az2 hr hg; clear hr hg)
      rw [HR.out]
      exact ⟨none, 0, 0, false, c, rfl, HX7.out.1, grown_trans (grown_trans HO5.out.grown HX6.out.2) HX7.out.2, fun h => by cases h⟩
def NamesAt (w : World) (N : Nat) (v : Value) (names : List (Nat × Nat)) : Prop := Own w (fun k => N ≤ k) 46 2 v names.length ((names.map nmv).flatMap cls)
def MemPost (w : World) (g : Nat) (s : ByteArray) (p : Nat) (x : Ending) (w' : World) : Prop :=
 ∃ (A1 : Option Addr) (m1 c1 : Nat) (A2 : Option Addr) (m2 c2 : Nat) (b : Bool) (q : Nat), x = .returned (.tuple #[.slice A1 m1 c1, .slice A2 m2 c2, .bool b]) ∧ Rdr w' g s q ∧ w.grownBy w' (some g) ∧
  (b = true → q ≤ s.size ∧ ∃ names kids, V s (.mk 6 p q names kids) ∧ NamesAt w' w.heap.size (.slice A1 m1 c1) names ∧ KidsAt w' w.heap.size (.slice A2 m2 c2) kids)
theorem PLs.swap {N : Nat} {w W w4 : World} {vals : List Value} {done : List JT} {a b b' : Option Nat} (h : PLs w (PB N a b) vals done) (hW : Below w.heap.size w W) (h4 : W.grownBy w4 b) (hat : b' = b ∨ b' = some W.heap.size) : PLs w4 (PB N a b') vals done := by
 have hsW := hW.size
 refine h.keep fun k hk hlt => ⟨?_, hk.1, hk.2.1, ?_⟩
 ·rw [h4.block k (by omega) (fun e => hk.2.2 e.symm), hW.block k hlt]
 ·rcases hat with e | e
  ·rw [e]; exact hk.2.2
  ·rw [e]; intro e; have := Option.some.inj e; omega
theorem rows_ne {w : World} {N n1 n2 z1 z2 : Nat} {e1 e2 : TypeId} {v1 v2 : Value} {x1 x2 : List Value} (h1 : w.ownsRow N e1 z1 v1 n1 x1) (h2 : w.ownsRow N e2 z2 v2 n2 x2) (he : e1 ≠ e2) : v1.ownBlock = none ∨ v1.ownBlock ≠ v2.ownBlock := by
 rcases h1.2 with ⟨h, _⟩ | ⟨g, _, cur, h, _, hb, _⟩
 ·exact .inl (by rw [h]; rfl)
 ·rcases h2.2 with ⟨k, _⟩ | ⟨g2, _, cur2, k, _, kb, _⟩
  ·exact .inr (by rw [h, k]; intro e; cases e)
  ·refine .inr ?_
   rw [h, k]
   intro e
   have e : g = g2 := Option.some.inj e
   subst e
   rw [hb] at kb
   injection kb with kb
   injection kb with _ kb
   exact he kb
structure MemOwn (w : World) (g : Nat) (s : ByteArray) (y : Nat) (w' : World) (vn vk : Value) (names : List (Nat × Nat)) (done : List JT) (vals : List Value) : Prop where
 rdr : Rdr w' g s y
 grown : w.grownBy w' (some g)
 nam : w'.ownsRow w.heap.size 46 2 vn names.length ((names.map nmv).flatMap cls)
 own : w'.ownsRow w.heap.size 27 5 vk done.length (vals.flatMap cls)
 pl : PLs w' (PB w.heap.size vk.ownBlock vn.ownBlock) vals done
section
variable {w w1 w2 : World} {g x y z : Nat} {s : ByteArray} {vn vk v1 : Value} {names : List (Nat × Nat)} {done : List JT} {vals : List Value}
theorem MemOwn.next (h : MemOwn w g s y w1 vn vk names done vals) (hg : g < w.heap.size) (hr : Rdr w2 g s z) (k : w1.grownBy w2 (some g)) : MemOwn w g s z w2 vn vk names done vals :=
 ⟨hr, grown_trans h.grown k, h.nam.kept k (own_ne h.nam hg), h.own.kept k (own_ne h.own hg), h.pl.grown hg k⟩
theorem MemOwn.rowN (h : MemOwn w g s y w1 vn vk names done vals) : ∃ A c, vn = .slice A names.length c := (Own.of h.nam).slice
theorem MemOwn.rowK (h : MemOwn w g s y w1 vn vk names done vals) : ∃ A c, vk = .slice A done.length c := (Own.of h.own).slice
theorem MemOwn.kids (h : MemOwn w g s y w1 vn vk names done vals) : KidsAt w1 w.heap.size vk done :=
 ⟨vals, (Own.of h.own).keep fun k hk _ => ⟨rfl, (h.own.lt k hk).1⟩, h.pl.1, fun i u t h1 h2 => (h.pl.2 i u t h1 h2).keep fun k hk _ => ⟨rfl, hk.1⟩⟩
theorem MemOwn.nms (h : MemOwn w g s y w1 vn vk names done vals) : NamesAt w1 w.heap.size vn names := (Own.of h.nam).keep fun k hk _ => ⟨rfl, (h.nam.lt k hk).1⟩
theorem MemOwn.name (h : MemOwn w g s y w1 vn vk names done vals) (hg : g < w.heap.size) {o : Obj} {z1 z2 : Int} (hz1 : z1 = (x : Int)) (hz2 : z2 = (y : Int)) (hown : w2.ownsRow w.heap.size 46 2 v1 (names.length + 1) ((names.map nmv).flatMap cls ++ [.int .i64 z1, .int .i64 z2])) (h4 : (w1.alloc o).grownBy w2 vn.ownBlock)
  (hat : v1.ownBlock = vn.ownBlock ∨ v1.ownBlock = some (w1.alloc o).heap.size) : MemOwn w g s y w2 v1 vk (names ++ [(x, y)]) done vals := by
 subst hz1
 subst hz2
 have hW : Below w1.heap.size w1 (w1.alloc o) := (Below.refl _ _).alloc (Nat.le_refl _) _
 refine ⟨?_, ?_, ?_, ?_, ?_⟩
 ·show w2.heap[g]? = _
  have hb := blk_below h.rdr hW
  rw [h4.block g (blk_lt hb) (fun e => by have := (h.nam.lt g e.symm).1; omega)]
  exact hb
 ·exact grown_own (grown_trans h.grown (grown_alloc (grown_refl w1 _) o)) h4 fun k e => (h.nam.lt k e).1
 ·rw [List.length_append, List.length_singleton, List.map_append, List.flatMap_append, show ([(x, y)].map nmv).flatMap cls = [Value.int .i64 (x : Int), .int .i64 (y : Int)] from rfl]
  exact hown
 ·exact (h.own.alloc o).kept h4 (rows_ne h.own h.nam (by decide))
 ·exact h.pl.swap hW h4 hat
theorem MemOwn.kid {wr w3 w4 : World} {q : Nat} {v : Value} {o1 o2 : Obj} {t : JT} (hE : MemOwn w g s x wr vn vk names done vals) (hg : g < w.heap.size) (hr : Rdr w3 g s q) (h3 : wr.grownBy w3 (some g)) (hv : PL w3 (fun k => wr.heap.size ≤ k) v t)
  (hown : w4.ownsRow w.heap.size 27 5 v1 (done.length + 1) (vals.flatMap cls ++ cls v)) (h4 : ((w3.alloc o1).alloc o2).grownBy w4 vk.ownBlock) (hat : v1.ownBlock = vk.ownBlock ∨ v1.ownBlock = some ((w3.alloc o1).alloc o2).heap.size) : MemOwn w g s q w4 vn v1 names (done ++ [t]) (vals ++ [v]) := by
 have hW : Below w3.heap.size w3 ((w3.alloc o1).alloc o2) := ((Below.refl _ _).alloc (Nat.le_refl _) _).alloc (by simp) _
 have hgs := grown_alloc (grown_alloc (grown_refl w3 (some g)) o1) o2
 refine ⟨?_, ?_, ?_, ?_, ?_⟩
 ·show w4.heap[g]? = _
  have hb := blk_below hr hW
  rw [h4.block g (blk_lt hb) (fun e => by have := (hE.own.lt g e.symm).1; omega)]
  exact hb
 ·exact grown_own (grown_trans (grown_trans hE.grown h3) hgs) h4 fun k e => (hE.own.lt k e).1
 ·exact (((hE.nam.kept h3 (own_ne hE.nam hg)).alloc o1).alloc o2).kept h4 (rows_ne hE.nam hE.own (by decide))
 ·rw [List.length_append, List.length_singleton, List.flatMap_append]
  simpa using hown
 ·exact hE.pl.add hg hE.grown.size h3 hv (fun k e => (hE.own.lt k e).2) (fun k e => (hE.nam.lt k e).2) hW h4 hat
end
theorem two_new (w : World) (n : Nat) (hn : n = w.heap.size) (a b : Value) (t : TypeId) : ∀ j u, [a, b][j]? = some u → (w.alloc (.cells #[a, b] t)).cell? ((⟨n, 0, none⟩ : Addr).add j) = some u := by
 subst hn
 intro j u hj
 match j, hj with
 | 0, hj => simp at hj; subst hj; simp [Addr.add]
 | 1, hj => simp at hj; subst hj; simp [Addr.add]
theorem two_one (k b : Int) : ∀ u ∈ [Value.int .i64 k, .int .i64 b], u.oneCell' = true := by
 intro u hu
 simp only [List.mem_cons, List.not_mem_nil, or_false] at hu
 rcases hu with rfl | rfl <;> rfl
theorem members_calls {w : World} {g p n : Nat} {s : ByteArray} (IH : ValC s n) (h : Rdr w g s p) (hs : s.size ≤ 65536) (h123 : bn s p = 123) (hn : s.size - p ≤ n) :
  Calls Tryz.prog 40 #[.pointer (some ⟨g, 0, none⟩)] w (MemPost w g s p) := by
 refine byR fun R hR => ?_
 have HR := az hR
 have hp : p < s.size := bn_pos (by omega)
 have hc1 := (blk_cell h 1).trans rfl
 have hf1 := blk_frozen h 1
 have hs6 : (s.size : Int) ≤ 65536 := by omega
 have hp6 : (p : Int) < 65536 := by omega
 have H1 : Aside0 (Rdr (w.setCell ⟨g, 1, none⟩ (.int .i64 ((p : Int) + 1))) g s (p + 1) ∧ w.grownBy (w.setCell ⟨g, 1, none⟩ (.int .i64 ((p : Int) + 1))) (some g)) := ⟨Rdr.set h (p + 1) _ (by omega), grown_set (grown_refl _ _) _ _⟩
 have CB := az (fun (W : World) (x : Nat) (h : Rdr W g s x) (hx : x ≤ s.size) => blanks_calls h hs hx)
 have HP := az5 hs h123 hn hp (blk_lt h)
 have IHa := az IH
 obtain ⟨i0, hi, hz0, hz1, hz2⟩ := info_parts info_place
 obtain ⟨j0, ji, jz0, jz1, jz2⟩ := info_parts info_span
 have FAIL : Aside0 (∀ (W : World) (q : Nat), Rdr W g s q → w.grownBy W (some g) → R (.returned (.tuple #[.slice none 0 0, .slice none 0 0, .bool false])) W) := ⟨fun W q h1 h2 => by rw [hR]; exact ⟨none, 0, 0, none, 0, 0, false, q, rfl, h1, h2, fun h => by cases h⟩⟩
 clear hR h hs h123 hn IH
 go_enter Tryz.func40, Tryz.ntmps40
 go_upto_region 5 with (go_at_call 23; refine (CB.out _ _ H1.out.1 hp).mono ?_; rintro e w1 ⟨a, ha, rfl, hr, hg⟩; dsimp only; have HA := az3 ha hr (grown_trans H1.out.2 hg); clear ha hr hg)
 by_cases h125 : bn s a = 125
 ·have CY := az (take_yes HA.out.2.1 HP.out.1 h125 (by decide))
  have H125 := az h125
  clear h125
  go_wp2_with (go_at_call 50; refine CY.out.mono ?_; rintro e w2 ⟨rfl, hr, hg⟩; dsimp only; have HX := az2 hr (grown_trans HA.out.2.2 hg); clear hr hg)
  refine bodyPost_ret (results_tmp3 rfl _ _ _) rfl ?_
  rw [HR.out]
  have ha1 : a < s.size := bn_pos (by have := H125.out; omega)
  exact ⟨none, 0, 0, none, 0, 0, true, a + 1, rfl, HX.out.1, HX.out.2, fun _ => ⟨ha1, [], [], V.obj0 p a HP.out.2.1 HA.out.1 ha1 H125.out, ⟨rfl, .inl ⟨rfl, rfl⟩⟩, [], ⟨rfl, .inl ⟨rfl, rfl⟩⟩, rfl, fun i u t h => by simp at h⟩⟩
 ·have CY := az (take_no HA.out.2.1 HP.out.1 h125)
  clear h125
  go_wp2_with (go_at_call 50; refine CY.out.mono ?_; rintro e w2 ⟨rfl, hr, hg⟩; dsimp only; have HX := az2 hr (grown_trans HA.out.2.2 hg); clear hr hg)
  go_loopg [5, 6] (s.size - a) (fun q v5 v6 w' => ∃ (x : Nat) (names : List (Nat × Nat)) (done : List JT) (vals : List Value), Aside0 (q = s.size - x ∧ p < x ∧ x ≤ s.size ∧ done.length ≤ x ∧ names.length = done.length ∧ ∀ e ns r, Mems s x e ns r → Mems s a e (names ++ ns) (done ++ r)) ∧ Aside0 (MemOwn w g s x w' v5 v6 names done vals))
  case atStart =>
   have hb := HA.out.1
   exact ⟨a, [], [], [], ⟨rfl, by have := hb.1; omega, hb.2.1, Nat.zero_le _, rfl, fun e ns r h => h⟩, ⟨HX.out.1, HX.out.2, World.ownsRow_nil _ _ _ _, World.ownsRow_nil _ _ _ _, rfl, fun i u t h => by simp at h⟩⟩
  case round =>
   obtain ⟨x, names, done, vals, hq, hE⟩ := hrel
   have hc1 := (blk_cell hE.out.rdr 1).trans rfl
   have CH := az (fun (W : World) (h : Rdr W g s x) => here_calls h HP.out.1)
   by_cases h34 : bn s x = 34
   ·rw [h34] at CH
    have CQ := az (fun (W : World) (h : Rdr W g s x) => quoted_calls h HP.out.1 h34)
    clear h34
    go_upto_if 32 with (first | (go_at_call 39; refine (CH.out _ hE.out.rdr).mono ?_; rintro e w3 ⟨rfl, hr, hg⟩; dsimp only; have H3 := az2 hr hg; clear hr hg) | (go_at_call 42; refine (CQ.out _ H3.out.1).mono ?_; rintro e w4 ⟨b, y, ⟨rfl, hr, hg⟩, hst⟩; dsimp only; have H4 := az3 hr hg hst; clear hr hg hst))
    clear hc1
    cases b with
    | false =>
     go_wp2_with fail
     refine bodyPost_ret (results_tmp3 rfl _ _ _) rfl ?_
     exact FAIL.out _ y H4.out.1 (grown_trans (grown_trans hE.out.grown H3.out.2) H4.out.2.1)
    | true =>
     have hst := H4.out.2.2 (by trivial)
     have hO4 := (hE.out.next HP.out.2.2.2.2 H3.out.1 H3.out.2).next HP.out.2.2.2.2 H4.out.1 H4.out.2.1
     have hc1 := (blk_cell hO4.rdr 1).trans rfl
     have HST := az hst
     have HO4 := az hO4
     have hd6 : names.length < 65536 := by have := hq.out.2.2.2; have := hst.2.1; have := hst.2.2.1; omega
     have hys : y ≤ s.size := hst.2.2.1
     clear hst hO4
     go_upto_region 12 with (first | (at_builtin; refine wpList_append_own_at _ rfl _ _ 24 rfl w.heap.size 46 j0 (.agg #[.int .i64 0, .int .i64 0]) 2 16 Tryz.underlying24 ji jz0 jz1 jz2 rfl (by decide) _ names.length _ rfl (HO4.out.nam.alloc _) ⟨w4.heap.size, 0, none⟩ 1 1 [_, _] (by rfl) rfl (two_new _ _ rfl _ _ _) (two_one _ _) (by unfold maxLen; omega) (by omega) (by have := HO4.out.grown.size; simp; omega) ?_; intro v1 w5 hown hgrow hnil hat; clear hnil; have HN := az (HO4.out.name HP.out.2.2.2.2 (x := x) rfl rfl hown hgrow hat); clear hown hgrow hat) | (go_at_call 23; refine (CB.out _ _ HN.out.rdr hys).mono ?_; rintro e w6 ⟨c, hc, rfl, hr, hg⟩; dsimp only; have HC := az2 hc (HN.out.next HP.out.2.2.2.2 hr hg); clear hc hr hg))
     by_cases h58 : bn s c = 58
     ·have CC := az (fun (W : World) (h : Rdr W g s c) => take_yes h HP.out.1 h58 (by decide))
      have H58 := az h58
      have hc1 : c < s.size := bn_pos (by omega)
      clear h58
      go_upto_region 15 with (first | (go_at_call 50; refine (CC.out _ HC.out.2.rdr).mono ?_; rintro e w7 ⟨rfl, hr, hg⟩; dsimp only; have H7 := az (HC.out.2.next HP.out.2.2.2.2 hr hg); clear hr hg) | (go_at_call 23; refine (CB.out _ _ H7.out.rdr hc1).mono ?_; rintro e w8 ⟨z, hz, rfl, hr, hg⟩; dsimp only; have H8 := az2 hz (H7.out.next HP.out.2.2.2.2 hr hg); clear hz hr hg))
      have hlo : p < z ∧ z ≤ s.size := by
       have h1 := HST.out.2.1
       have h2 := HC.out.1.1
       have h3 := H8.out.1.1
       have h4 := hq.out.2.1
       exact ⟨by omega, H8.out.1.2.1⟩
      have CV := az (IHa.out _ _ _ H8.out.2.rdr hlo.2 (by have := HP.out.2.2; omega))
      clear hlo
      go_upto_region 16 with (go_at_call 24; refine CV.out.mono ?_; rintro e w9 ⟨v, b, q2, rfl, hr, hg, ⟨k5, b5, e5, A1, A2, n1, c1, n2, c2, rfl⟩, hb⟩; dsimp only; have HV := az3 hr hg hb; clear hr hg hb)
      cases b with
      | false =>
       go_wp2_with fail
       refine bodyPost_ret (results_tmp3 rfl _ _ _) rfl ?_
       exact FAIL.out _ q2 (HV.out.1.alloc _) (grown_alloc (grown_trans H8.out.2.grown HV.out.2.1) _)
      | true =>
       obtain ⟨hr, hg, hb⟩ := HV.out
       obtain ⟨hq1, t, hv, htb, hte, hpl⟩ := hb (by trivial)
       have HO3 := az (H8.out.2.own.kept hg (own_ne H8.out.2.own HP.out.2.2.2.2))
       have HT := az5 hq1 hv htb hte hpl
       have hd7 : done.length < 65536 := by have := hq.out.2.2.2.2.1; omega
       clear hr hg hb hq1 hv htb hte hpl
       go_upto_region 20 with (first | (at_builtin; refine wpList_append_own_at _ rfl _ _ 25 rfl w.heap.size 27 i0 (.agg #[.int .i64 0, .int .i64 0, .int .i64 0, .slice none 0 0, .slice none 0 0]) 5 72 Tryz.underlying25 hi hz0 hz1 hz2 rfl (by decide) _ done.length _ rfl ((HO3.out.alloc _).alloc _) ⟨w9.heap.size + 1, 0, none⟩ 1 1 [_, _, _, _, _] (by rfl) rfl (five_new _ _ (by simp) _ _ _ _ _ _) (five_one _ _ _ _ _ _ _ _ _) (by unfold maxLen; omega) (by omega) (by have := H8.out.2.grown.size; have := HV.out.2.1.size; simp; omega) ?_; intro v2 w10 hown hgrow hnil hat; clear hnil; have HK := az (H8.out.2.kid HP.out.2.2.2.2 HV.out.1 HV.out.2.1 HT.out.2.2.2.2 hown hgrow hat); clear hown hgrow hat) | (go_at_call 23; refine (CB.out _ _ HK.out.rdr HT.out.1).mono ?_; rintro e w11 ⟨d, hd, rfl, hr, hg⟩; dsimp only; have HD := az2 hd (HK.out.next HP.out.2.2.2.2 hr hg); clear hd hr hg))
       have hO := HD.out.2
       obtain ⟨A6, c6, hv6⟩ := hO.rowN
       obtain ⟨A7, c7, hv7⟩ := hO.rowK
       rw [show (names ++ [(x, y)]).length = names.length + 1 by simp] at hv6
       rw [show (done ++ [t]).length = done.length + 1 by simp] at hv7
       subst hv6
       subst hv7
       have HO := az hO
       clear hO
       have HM : Aside0 (Blanks s y c ∧ c < s.size ∧ bn s c = 58 ∧ Blanks s (c + 1) t.b ∧ V s t ∧ Blanks s t.e d ∧ y < d ∧ x < d) := ⟨by
        obtain ⟨hq1, hv, htb, hte, hpl⟩ := HT.out
        have l1 := HC.out.1
        have l2 := H8.out.1
        have l3 := V.le hv
        have l4 := HD.out.1
        have l5 := HST.out.2.1
        have k1 := l1.1
        have k2 := l2.1
        have k4 := l4.1
        exact ⟨l1, hc1, H58.out, by rw [htb]; exact l2, hv, by rw [hte]; exact l4, by omega, by omega⟩⟩
       by_cases h125d : bn s d = 125
       ·have CY := az (take_yes HO.out.rdr HP.out.1 h125d (by decide))
        have H125 := az h125d
        clear h125d
        go_wp2_with (go_at_call 50; refine CY.out.mono ?_; rintro e w12 ⟨rfl, hr, hg⟩; dsimp only; have HX6 := az2 hr hg; clear hr hg)
        refine bodyPost_ret (results_tmp3 rfl _ _ _) rfl ?_
        rw [HR.out]
        have hd1 : d < s.size := bn_pos (by have := H125.out; omega)
        have hO6 := HO.out.next HP.out.2.2.2.2 HX6.out.1 HX6.out.2
        obtain ⟨m1, m2, m3, m4, m5, m6, m7, m8⟩ := HM.out
        exact ⟨A6, _, c6, A7, _, c7, true, d + 1, rfl, HX6.out.1, hO6.grown, fun _ => ⟨hd1, names ++ [(x, y)], done ++ [t], V.obj p a (d + 1) _ _ HP.out.2.1 HA.out.1 (hq.out.2.2.2.2.2 (d + 1) [(x, y)] [t] (Mems.last x y c t d HST.out m1 m2 m3 m4 m5 m6 hd1 H125.out)), hO6.nms, hO6.kids⟩⟩
       ·have CY := az (take_no HO.out.rdr HP.out.1 h125d)
        clear h125d
        by_cases h44 : bn s d = 44
        ·have CZ := az (fun (W : World) (h : Rdr W g s d) => take_yes h HP.out.1 h44 (by decide))
         have H44 := az h44
         have hd1 : d < s.size := bn_pos (by omega)
         clear h44
         go_upto_region 22 with (go_at_call 50; refine CY.out.mono ?_; rintro e w12 ⟨rfl, hr, hg⟩; dsimp only; have HX6 := az (HO.out.next HP.out.2.2.2.2 hr hg); clear hr hg)
         go_wp2_with (first | (go_at_call 50; refine (CZ.out _ HX6.out.rdr).mono ?_; rintro e w13 ⟨rfl, hr, hg⟩; dsimp only; have HX7 := az (HX6.out.next HP.out.2.2.2.2 hr hg); clear hr hg) | (go_at_call 23; refine (CB.out _ _ HX7.out.rdr hd1).mono ?_; rintro e w14 ⟨u, hu, rfl, hr, hg⟩; dsimp only; have HY := az2 hu (HX7.out.next HP.out.2.2.2.2 hr hg); clear hu hr hg))
         obtain ⟨m1, m2, m3, m4, m5, m6, m7, m8⟩ := HM.out
         have hyb := HY.out.1
         have hy1 := hyb.1
         go_roundg (s.size - u)
         case measure => have := hq.out.1; omega
         case rel =>
          refine ⟨u, names ++ [(x, y)], done ++ [t], vals ++ [_], ⟨rfl, by have := hq.out.2.1; omega, hyb.2.1, ?_, ?_, fun e ns r hr => ?_⟩, ⟨HY.out.2⟩⟩
          ·rw [List.length_append, List.length_singleton]
           have := hq.out.2.2.2.1
           omega
          ·rw [List.length_append, List.length_append, hq.out.2.2.2.2.1]; rfl
          ·rw [List.append_assoc, List.append_assoc]
           exact hq.out.2.2.2.2.2 e ((x, y) :: ns) (t :: r) (Mems.more x y c t d u e ns r HST.out m1 m2 m3 m4 m5 m6 hd1 H44.out hyb hr)
        ·have CZ := az (fun (W : World) (h : Rdr W g s d) => take_no h HP.out.1 h44)
         clear h44
         go_upto_region 22 with (go_at_call 50; refine CY.out.mono ?_; rintro e w12 ⟨rfl, hr, hg⟩; dsimp only; have HX6 := az (HO.out.next HP.out.2.2.2.2 hr hg); clear hr hg)
         go_wp2_with (go_at_call 50; refine (CZ.out _ HX6.out.rdr).mono ?_; rintro e w13 ⟨rfl, hr, hg⟩; dsimp only; have HX7 := az (HX6.out.next HP.out.2.2.2.2 hr hg); clear hr hg)
         refine bodyPost_ret (results_tmp3 rfl _ _ _) rfl ?_
         exact FAIL.out _ d HX7.out.rdr HX7.out.grown
     ·have CC := az (fun (W : World) (h : Rdr W g s c) => take_no h HP.out.1 h58)
      clear h58
      go_wp2_with (go_at_call 50; refine (CC.out _ HC.out.2.rdr).mono ?_; rintro e w7 ⟨rfl, hr, hg⟩; dsimp only; have H7 := az (HC.out.2.next HP.out.2.2.2.2 hr hg); clear hr hg)
      refine bodyPost_ret (results_tmp3 rfl _ _ _) rfl ?_
      exact FAIL.out _ c H7.out.rdr H7.out.grown
   ·have hcb := bn_lt s x
    obtain ⟨c0, hc0⟩ : ∃ c0, c0 = bn s x := ⟨_, rfl⟩
    rw [← hc0] at CH h34
    have t1 : ((c0 : Int) != 34) = true := bneT
    have t1n : (c0 != 34) = true := bneTn h34
    clear hc0 hcb h34
    go_wp2_with (go_at_call 39; refine (CH.out _ hE.out.rdr).mono ?_; rintro e w3 ⟨rfl, hr, hg⟩; dsimp only; have H3 := az2 hr hg; clear hr hg)
    refine bodyPost_ret (results_tmp3 rfl _ _ _) rfl ?_
    exact FAIL.out _ x H3.out.1 (grown_trans hE.out.grown H3.out.2)
def wNull : ByteArray := { data := #[110, 117, 108, 108] }
def wFalse : ByteArray := { data := #[102, 97, 108, 115, 101] }
def wTrue : ByteArray := { data := #[116, 114, 117, 101] }
theorem word_is {s : ByteArray} {p k : Nat} {wd : ByteArray} (hk : k ≤ 2) (hw : wd.size = (word k).length) (hb : ∀ i, i < wd.size → bn wd i = (word k).getD i 0) (hp : p + wd.size ≤ s.size) (he : (s.extract p (p + wd.size)).toList = wd.toList) : Word s k p (p + wd.size) :=
 ⟨hk, by rw [hw], hp, fun i hi => by
  rw [← hb i (by omega), ← part_bytes he i, bn_part hp (by omega)]⟩
theorem row_none (w : World) (B : Nat → Prop) (e : TypeId) (size : Nat) : Own w B e size (.slice none 0 0) 0 [] := ⟨by simp, .inl ⟨rfl, rfl⟩⟩
theorem PL.made {w w' : World} {N k b e : Nat} {names : List (Nat × Nat)} {kids : List JT} {nv kv : Value} (hn : NamesAt w N nv names) (hk : KidsAt w N kv kids) (h : ∀ i, N ≤ i → i < w.heap.size → w'.heap[i]? = w.heap[i]?) {M : Nat} (hM : M ≤ N) : PL w' (fun i => M ≤ i) (.agg #[.int .i64 (k : Int), .int .i64 (b : Int), .int .i64 (e : Int), nv, kv]) (.mk k b e names kids) := by
 obtain ⟨vals, h1, h2, h3⟩ := hk
 have hh : ∀ i, N ≤ i → i < w.heap.size → w'.heap[i]? = w.heap[i]? ∧ M ≤ i := fun i h1 h2 => ⟨h i h1 h2, by omega⟩
 exact .mk k b e names kids nv kv vals (hn.keep hh) (h1.keep hh) h2 (fun i v t k1 k2 => (h3 i v t k1 k2).keep hh)
theorem NamesAt.keep {w w' : World} {N M : Nat} {v : Value} {names : List (Nat × Nat)} (h : NamesAt w N v names) (hk : ∀ i, N ≤ i → i < w.heap.size → w'.heap[i]? = w.heap[i]?) (hM : M ≤ N) : NamesAt w' M v names := Own.keep h fun i h1 h2 => ⟨hk i h1 h2, by omega⟩
theorem KidsAt.keep {w w' : World} {N M : Nat} {v : Value} {kids : List JT} (h : KidsAt w N v kids) (hk : ∀ i, N ≤ i → i < w.heap.size → w'.heap[i]? = w.heap[i]?) (hM : M ≤ N) : KidsAt w' M v kids := by
 obtain ⟨vals, h1, h2, h3⟩ := h
 have hh : ∀ i, N ≤ i → i < w.heap.size → w'.heap[i]? = w.heap[i]? ∧ M ≤ i := fun i h1 h2 => ⟨hk i h1 h2, by omega⟩
 exact ⟨vals, h1.keep hh, h2, fun i v t k1 k2 => (h3 i v t k1 k2).keep hh⟩
theorem grown_above {w w1 : World} {g k : Nat} (h : w.grownBy w1 (some g)) (hk : w.heap.size ≤ k) (i : Nat) (v : Value) : w.grownBy (w1.setCell ⟨k, i, none⟩ v) (some g) :=
 ⟨h.os, h.tape, h.output, by simpa [World.setCell] using h.size, fun j hj hne => (Below.heap_setCell w1 _ v j (show j ≠ k by omega)).trans (h.block j hj hne)⟩
structure VS (w : World) (g : Nat) (s : ByteArray) (p q : Nat) (w' : World) (k : Int) (nv kv : Value) : Prop where
 rdr : Rdr w' g s q
 grown : w.grownBy w' (some g)
 size : w.heap.size + 2 ≤ w'.heap.size
 res : w'.heap[w.heap.size]? = some (.cells #[.int .i64 0, .int .i64 0, .int .i64 0, .slice none 0 0, .slice none 0 0] 27 (0, 0))
 box : w'.heap[w.heap.size + 1]? = some (.cells #[.int .i64 k, .int .i64 (p : Int), .int .i64 0, nv, kv] 27 (0, 0))
section
variable {w w1 w2 : World} {g p q r : Nat} {s : ByteArray} {k : Int} {nv kv : Value}
theorem VS.next (h : VS w g s p q w1 k nv kv) (hg : g < w.heap.size) (hr : Rdr w2 g s r) (e : w1.grownBy w2 (some g)) : VS w g s p r w2 k nv kv :=
 ⟨hr, grown_trans h.grown e, Nat.le_trans h.size e.size, (e.block _ (blk_lt h.res) (fun e => by have := Option.some.inj e; omega)).trans h.res, (e.block _ (blk_lt h.box) (fun e => by have := Option.some.inj e; omega)).trans h.box⟩
theorem VS.put (h : VS w g s p q w1 k nv kv) (hg : g < w.heap.size) (i : Nat) (v : Value) {k' : Int} {nv' kv' : Value} (hb : (#[.int .i64 k, .int .i64 (p : Int), .int .i64 0, nv, kv] : Array Value).setIfInBounds i v = #[.int .i64 k', .int .i64 (p : Int), .int .i64 0, nv', kv']) : VS w g s p q (w1.setCell ⟨w.heap.size + 1, i, none⟩ v) k' nv' kv' :=
 ⟨blk_far h.rdr (show g ≠ w.heap.size + 1 by omega) v, grown_above h.grown (by omega) i v, by simpa [World.setCell] using h.size, blk_far h.res (show w.heap.size ≠ w.heap.size + 1 by omega) v, by rw [← hb]; simpa using blk_set h.box i v⟩
end
theorem value_step {s : ByteArray} (hs : s.size ≤ 65536) {n : Nat} (IH : ValC s n) : ValC s (n + 1) := by
 intro w g p h hp hn
 refine byR fun R hR => ?_
 have HR := az hR
 have hg := blk_lt h
 have hc1 := (blk_cell (h.alloc (.cells #[.int .i64 0, .int .i64 0, .int .i64 0, .slice none 0 0, .slice none 0 0] 27)) 1).trans rfl
 obtain ⟨wx, hwx⟩ : ∃ wx, wx = (w.alloc (.cells #[.int .i64 0, .int .i64 0, .int .i64 0, .slice none 0 0, .slice none 0 0] 27)).alloc (.cells #[.int .i64 0, .int .i64 (p : Int), .int .i64 0, .slice none 0 0, .slice none 0 0] 27) := ⟨_, rfl⟩
 have H0 : Aside0 (VS w g s p p wx 0 (.slice none 0 0) (.slice none 0 0)) := ⟨by
  obtain ⟨wa, hwa⟩ : ∃ wa, wa = w.alloc (.cells #[.int .i64 0, .int .i64 0, .int .i64 0, .slice none 0 0, .slice none 0 0] 27) := ⟨_, rfl⟩
  have ea : wa.heap.size = w.heap.size + 1 := by rw [hwa]; simp
  have h1 := heap_alloc_new w (.cells #[.int .i64 0, .int .i64 0, .int .i64 0, .slice none 0 0, .slice none 0 0] 27)
  rw [← hwa] at h1 hwx
  have h2 := heap_alloc_new wa (.cells #[.int .i64 0, .int .i64 (p : Int), .int .i64 0, .slice none 0 0, .slice none 0 0] 27)
  rw [← hwx, ea] at h2
  have h1' := (heap_alloc_old wa (.cells #[.int .i64 0, .int .i64 (p : Int), .int .i64 0, .slice none 0 0, .slice none 0 0] 27) (show w.heap.size < wa.heap.size by omega)).trans h1
  rw [← hwx] at h1'
  refine ⟨?_, ?_, ?_, h1', h2⟩
  ·rw [hwx, hwa]; exact (h.alloc _).alloc _
  ·rw [hwx, hwa]; exact grown_alloc (grown_alloc (grown_refl _ _) _) _
  ·rw [hwx]; simp; omega⟩
 have hs6 : (s.size : Int) ≤ 65536 := by omega
 have hp6 : (p : Int) ≤ 65536 := by omega
 have HP := az4 hs hp hn hg
 have IHa := az IH
 have hcl := bn_lt s p
 clear hR h hs hp hn IH hg
 go_enter Tryz.func24, Tryz.ntmps24
 go_upto_region 2 with fail
 rw [← hwx]
 clear hwx hc1
 go_upto_block 0 with (go_at_call 39; refine (here_calls H0.out.rdr HP.out.1).mono ?_; rintro e w1 ⟨rfl, hr, hg⟩; dsimp only; have H1 := az (H0.out.next HP.out.2.2.2 hr hg); clear hr hg)
 go_cut [5, 6] (fun v5 v6 w' => ∃ (b : Bool) (k q : Nat) (A1 A2 : Option Addr) (n1 c1 n2 c2 : Nat), v5 = .bool b ∧ Aside0 (VS w g s p q w' (k : Int) (.slice A1 n1 c1) (.slice A2 n2 c2)) ∧ Aside0 (b = true → q ≤ s.size ∧ ∃ names kids, V s (.mk k p q names kids) ∧ NamesAt w' (w.heap.size + 2) (.slice A1 n1 c1) names ∧ KidsAt w' (w.heap.size + 2) (.slice A2 n2 c2) kids))
 case first =>
  clear H0
  have hc1 := (blk_cell H1.out.rdr 1).trans rfl
  have e0 := (blk_cell H1.out.box 0).trans rfl
  have f0 := blk_frozen H1.out.box 0
  obtain ⟨c, hc⟩ : ∃ c, c = bn s p := ⟨_, rfl⟩
  rw [← hc] at hcl ⊢
  have HC := az hc
  by_cases h123 : c = 123
  ·subst h123
   have H2 := az (H1.out.put HP.out.2.2.2 0 (.int .i64 6) (k' := 6) (nv' := .slice none 0 0) (kv' := .slice none 0 0) rfl)
   have CM := az (members_calls IHa.out H2.out.rdr HP.out.1 HC.out.symm (by have := HP.out.2.2.1; omega))
   clear hc hcl
   go_wp2_with (go_at_call 40; refine CM.out.mono ?_; rintro e w2 ⟨A1, m1, c1, A2, m2, c2, b, q, rfl, hr, hg, hb⟩; dsimp only; have H3 := az (H2.out.next HP.out.2.2.2 hr hg); have HB := az2 hg.size hb; have e3 := blk_frozen H3.out.box 3; have e4 := blk_frozen H3.out.box 4; have d3 := (blk_cell H3.out.box 3).trans rfl; have d4 := (blk_cell H3.out.box 4).trans rfl; clear hr hg hb)
   go_meet
   have H4 := H3.out.put HP.out.2.2.2 3 (.slice A1 m1 c1) (k' := 6) (nv' := .slice A1 m1 c1) (kv' := .slice none 0 0) rfl
   have H5 := H4.put HP.out.2.2.2 4 (.slice A2 m2 c2) (k' := 6) (nv' := .slice A1 m1 c1) (kv' := .slice A2 m2 c2) rfl
   refine ⟨b, 6, q, A1, A2, m1, c1, m2, c2, rfl, ⟨H5⟩, ⟨fun h => ?_⟩⟩
   obtain ⟨hq, names, kids, hv, hn, hk⟩ := HB.out.2 h
   have hsz := H2.out.size
   have hf : ∀ i, ((w1.setCell ⟨w.heap.size + 1, 0, none⟩ (.int .i64 6)).heap.size) ≤ i → i < w2.heap.size → ((w2.setCell ⟨w.heap.size + 1, 3, none⟩ (.slice A1 m1 c1)).setCell ⟨w.heap.size + 1, 4, none⟩ (.slice A2 m2 c2)).heap[i]? = w2.heap[i]? := fun i hi _ => by
    rw [Below.heap_setCell _ _ _ i (show i ≠ w.heap.size + 1 by omega), Below.heap_setCell _ _ _ i (show i ≠ w.heap.size + 1 by omega)]
   exact ⟨hq, names, kids, hv, hn.keep hf hsz, hk.keep hf hsz⟩
  have a1 : ((c : Int) == 123) = false := beqF
  have b1 : (c == 123) = false := beqFn h123
  by_cases h91 : c = 91
  ·subst h91
   have H2 := az (H1.out.put HP.out.2.2.2 0 (.int .i64 5) (k' := 5) (nv' := .slice none 0 0) (kv' := .slice none 0 0) rfl)
   have CM := az (elements_calls IHa.out H2.out.rdr HP.out.1 HC.out.symm (by have := HP.out.2.2.1; omega))
   clear hc hcl
   go_wp2_with (go_at_call 41; refine CM.out.mono ?_; rintro e w2 ⟨A2, m2, c2, b, q, rfl, hr, hg, hb⟩; dsimp only; have H3 := az (H2.out.next HP.out.2.2.2 hr hg); have HB := az2 hg.size hb; have e4 := blk_frozen H3.out.box 4; have d4 := (blk_cell H3.out.box 4).trans rfl; clear hr hg hb)
   go_meet
   have H5 := H3.out.put HP.out.2.2.2 4 (.slice A2 m2 c2) (k' := 5) (nv' := .slice none 0 0) (kv' := .slice A2 m2 c2) rfl
   refine ⟨b, 5, q, none, A2, 0, 0, m2, c2, rfl, ⟨H5⟩, ⟨fun h => ?_⟩⟩
   obtain ⟨hq, kids, hv, hk⟩ := HB.out.2 h
   have hsz := H2.out.size
   exact ⟨hq, [], kids, hv, row_none _ _ _ _, hk.keep (fun i hi _ => Below.heap_setCell _ _ _ i (show i ≠ w.heap.size + 1 by omega)) hsz⟩
  have a2 : ((c : Int) == 91) = false := beqF
  have b2 : (c == 91) = false := beqFn h91
  by_cases h34 : c = 34
  ·subst h34
   have H2 := az (H1.out.put HP.out.2.2.2 0 (.int .i64 4) (k' := 4) (nv' := .slice none 0 0) (kv' := .slice none 0 0) rfl)
   have CM := az (quoted_calls H2.out.rdr HP.out.1 HC.out.symm)
   clear hc hcl
   go_wp2_with (go_at_call 42; refine CM.out.mono ?_; rintro e w2 ⟨b, q, ⟨rfl, hr, hg⟩, hb⟩; dsimp only; have H3 := az (H2.out.next HP.out.2.2.2 hr hg); have HB := az hb; clear hr hg hb)
   go_meet
   exact ⟨b, 4, q, none, none, 0, 0, 0, 0, rfl, H3, ⟨fun h => ⟨(HB.out h).2.2.1, [], [], V.str p q (HB.out h), row_none _ _ _ _, [], row_none _ _ _ _, rfl, fun i u t h => by simp at h⟩⟩⟩
  have a3 : ((c : Int) == 34) = false := beqF
  have b3 : (c == 34) = false := beqFn h34
  by_cases hnum : c = 45 ∨ digit c
  ·have H2 := az (H1.out.put HP.out.2.2.2 0 (.int .i64 3) (k' := 3) (nv' := .slice none 0 0) (kv' := .slice none 0 0) rfl)
   have CM := az (number_calls H2.out.rdr HP.out.1 HP.out.2.1)
   by_cases h45 : c = 45
   ·subst h45
    clear hc hcl hnum h123 h91 h34
    go_wp2_with (go_at_call 43; refine CM.out.mono ?_; rintro e w2 ⟨b, q, ⟨rfl, hr, hg⟩, hb⟩; dsimp only; have H3 := az (H2.out.next HP.out.2.2.2 hr hg); have HB := az (fun h => (hb h).1); clear hr hg hb)
    go_meet
    exact ⟨b, 3, q, none, none, 0, 0, 0, 0, rfl, H3, ⟨fun h => ⟨(HB.out h).2.1, [], [], V.num p q (HB.out h), row_none _ _ _ _, [], row_none _ _ _ _, rfl, fun i u t h => by simp at h⟩⟩⟩
   ·have hd : digit c := by rcases hnum with h | h; exact absurd h h45; exact h
    obtain ⟨d1, d2⟩ := hd
    have a4 : ((c : Int) == 45) = false := beqF
    have b4 : (c == 45) = false := beqFn h45
    have d3 : (48 : Int) ≤ (c : Int) := by omega
    have d4 : (c : Int) ≤ 57 := by omega
    clear hc hcl hnum h123 h91 h34 h45 d1 d2
    go_wp2_with (go_at_call 43; refine CM.out.mono ?_; rintro e w2 ⟨b, q, ⟨rfl, hr, hg⟩, hb⟩; dsimp only; have H3 := az (H2.out.next HP.out.2.2.2 hr hg); have HB := az (fun h => (hb h).1); clear hr hg hb)
    go_meet
    exact ⟨b, 3, q, none, none, 0, 0, 0, 0, rfl, H3, ⟨fun h => ⟨(HB.out h).2.1, [], [], V.num p q (HB.out h), row_none _ _ _ _, [], row_none _ _ _ _, rfl, fun i u t h => by simp at h⟩⟩⟩
  have hn2 : ¬ (48 ≤ c ∧ c ≤ 57) := fun h => hnum (.inr h)
  have a4 : ((c : Int) == 45) = false := beqF
  have b4 : (c == 45) = false := beqFn
  have hnt : decide ((48 : Int) ≤ (c : Int)) = false ∨ (decide ((48 : Int) ≤ (c : Int)) = true ∧ decide ((c : Int) ≤ 57) = false ∧ decide (48 ≤ c) = true ∧ decide (c ≤ 57) = false) := by
   by_cases h : 48 ≤ c
   ·exact .inr ⟨decide_eq_true (by omega), decide_eq_false (by omega), decide_eq_true h, decide_eq_false (by omega)⟩
   ·exact .inl (decide_eq_false (by omega))
  have hpz := HP.out.2.1
  clear hc hcl hnum h123 h91 h34 hn2
  go_upto_region 14 with fail
  go_cut [42] (fun v42 w' => v42 = .bool false ∧ Aside0 (w' = w1))
  case first =>
   rcases hnt with t1 | ⟨t1, t2, t3, t4⟩
   all_goals
    go_wp2_with fail
    go_meet
    exact ⟨rfl, ⟨rfl⟩⟩
  case rest =>
  obtain ⟨rfl, hw1⟩ := hcut
  have ew := hw1.out
  subst ew
  have HRD := H1
  by_cases hNull : p + wNull.size ≤ s.size ∧ (s.extract p (p + wNull.size)).toList = wNull.toList
  ·have CW := az (word_yes (wd := wNull) HRD.out.rdr HP.out.1 (by decide) hNull.1 hNull.2)
   have HV : Aside0 (Word s 0 p (p + wNull.size)) := ⟨word_is (by omega) rfl (by decide) hNull.1 hNull.2⟩
   clear hNull
   go_wp2_with (go_at_call 44; refine CW.out.mono ?_; rintro e w2 ⟨rfl, hr, hg⟩; dsimp only; have H2 := az (HRD.out.next HP.out.2.2.2 hr hg); have f0 := blk_frozen H2.out.box 0; have d0 := (blk_cell H2.out.box 0).trans rfl; clear hr hg)
   go_meet
   have H3 := H2.out.put HP.out.2.2.2 0 (.int .i64 0) (k' := 0) (nv' := .slice none 0 0) (kv' := .slice none 0 0) rfl
   exact ⟨true, 0, p + wNull.size, none, none, 0, 0, 0, 0, rfl, ⟨H3⟩, ⟨fun h => ⟨HV.out.2.2.1, [], [], V.word 0 p _ HV.out, row_none _ _ _ _, [], row_none _ _ _ _, rfl, fun i u t h => by simp at h⟩⟩⟩
  have CW5 := az (word_no (wd := wNull) HRD.out.rdr HP.out.1 (by decide) hpz hNull)
  clear hNull
  go_upto_region 19 with (go_at_call 44; refine CW5.out.mono ?_; rintro e w5 ⟨rfl, hr, hg⟩; dsimp only; have H5 := az (HRD.out.next HP.out.2.2.2 hr hg); clear hr hg HRD)
  have HRD := H5
  by_cases hFalse : p + wFalse.size ≤ s.size ∧ (s.extract p (p + wFalse.size)).toList = wFalse.toList
  ·have CW := az (word_yes (wd := wFalse) HRD.out.rdr HP.out.1 (by decide) hFalse.1 hFalse.2)
   have HV : Aside0 (Word s 1 p (p + wFalse.size)) := ⟨word_is (by omega) rfl (by decide) hFalse.1 hFalse.2⟩
   clear hFalse
   go_wp2_with (go_at_call 44; refine CW.out.mono ?_; rintro e w2 ⟨rfl, hr, hg⟩; dsimp only; have H2 := az (HRD.out.next HP.out.2.2.2 hr hg); have f0 := blk_frozen H2.out.box 0; have d0 := (blk_cell H2.out.box 0).trans rfl; clear hr hg)
   go_meet
   have H3 := H2.out.put HP.out.2.2.2 0 (.int .i64 1) (k' := 1) (nv' := .slice none 0 0) (kv' := .slice none 0 0) rfl
   exact ⟨true, 1, p + wFalse.size, none, none, 0, 0, 0, 0, rfl, ⟨H3⟩, ⟨fun h => ⟨HV.out.2.2.1, [], [], V.word 1 p _ HV.out, row_none _ _ _ _, [], row_none _ _ _ _, rfl, fun i u t h => by simp at h⟩⟩⟩
  have CW6 := az (word_no (wd := wFalse) HRD.out.rdr HP.out.1 (by decide) hpz hFalse)
  clear hFalse
  go_upto_region 21 with (go_at_call 44; refine CW6.out.mono ?_; rintro e w6 ⟨rfl, hr, hg⟩; dsimp only; have H6 := az (HRD.out.next HP.out.2.2.2 hr hg); clear hr hg HRD)
  have HRD := H6
  by_cases hTrue : p + wTrue.size ≤ s.size ∧ (s.extract p (p + wTrue.size)).toList = wTrue.toList
  ·have CW := az (word_yes (wd := wTrue) HRD.out.rdr HP.out.1 (by decide) hTrue.1 hTrue.2)
   have HV : Aside0 (Word s 2 p (p + wTrue.size)) := ⟨word_is (by omega) rfl (by decide) hTrue.1 hTrue.2⟩
   clear hTrue
   go_wp2_with (go_at_call 44; refine CW.out.mono ?_; rintro e w2 ⟨rfl, hr, hg⟩; dsimp only; have H2 := az (HRD.out.next HP.out.2.2.2 hr hg); have f0 := blk_frozen H2.out.box 0; have d0 := (blk_cell H2.out.box 0).trans rfl; clear hr hg)
   go_meet
   have H3 := H2.out.put HP.out.2.2.2 0 (.int .i64 2) (k' := 2) (nv' := .slice none 0 0) (kv' := .slice none 0 0) rfl
   exact ⟨true, 2, p + wTrue.size, none, none, 0, 0, 0, 0, rfl, ⟨H3⟩, ⟨fun h => ⟨HV.out.2.2.1, [], [], V.word 2 p _ HV.out, row_none _ _ _ _, [], row_none _ _ _ _, rfl, fun i u t h => by simp at h⟩⟩⟩
  have CW7 := az (word_no (wd := wTrue) HRD.out.rdr HP.out.1 (by decide) hpz hTrue)
  clear hTrue
  go_wp2_with (go_at_call 44; refine CW7.out.mono ?_; rintro e w7 ⟨rfl, hr, hg⟩; dsimp only; have H7 := az (HRD.out.next HP.out.2.2.2 hr hg); clear hr hg HRD)
  have HRD := H7
  go_meet
  exact ⟨false, 0, p, none, none, 0, 0, 0, 0, rfl, HRD, ⟨fun h => by cases h⟩⟩
 case rest =>
 obtain ⟨b, k, q, A1, A2, n1, c1, n2, c2, rfl, hV, hb⟩ := hcut
 have hc1 := (blk_cell hV.out.rdr 1).trans rfl
 have e0 := (blk_cell hV.out.box 0).trans rfl
 have e1 := (blk_cell hV.out.box 1).trans rfl
 have e2 := (blk_cell hV.out.box 2).trans rfl
 have e3 := (blk_cell hV.out.box 3).trans rfl
 have e4 := (blk_cell hV.out.box 4).trans rfl
 have f2 := blk_frozen hV.out.box 2
 have r0 := (blk_cell hV.out.res 0).trans rfl
 have r1 := (blk_cell hV.out.res 1).trans rfl
 have r2 := (blk_cell hV.out.res 2).trans rfl
 have r3 := (blk_cell hV.out.res 3).trans rfl
 have r4 := (blk_cell hV.out.res 4).trans rfl
 have s0 := blk_frozen hV.out.res 0
 have s1 := blk_frozen hV.out.res 1
 have s2 := blk_frozen hV.out.res 2
 have s3 := blk_frozen hV.out.res 3
 have s4 := blk_frozen hV.out.res 4
 go_wp2_with fail
 have HF : Aside0 (∀ W, W = ((((((wc.setCell ⟨w.heap.size + 1, 2, none⟩ (.int .i64 (q : Int))).setCell ⟨w.heap.size, 0, none⟩ (.int .i64 (k : Int))).setCell ⟨w.heap.size, 1, none⟩ (.int .i64 (p : Int))).setCell ⟨w.heap.size, 2, none⟩ (.int .i64 (q : Int))).setCell ⟨w.heap.size, 3, none⟩ (.slice A1 n1 c1)).setCell ⟨w.heap.size, 4, none⟩ (.slice A2 n2 c2)) →
   W.heap[w.heap.size]? = some (.cells #[.int .i64 (k : Int), .int .i64 (p : Int), .int .i64 (q : Int), .slice A1 n1 c1, .slice A2 n2 c2] 27 (0, 0)) ∧ Rdr W g s q ∧ w.grownBy W (some g) ∧ ∀ i, w.heap.size + 2 ≤ i → W.heap[i]? = wc.heap[i]?) := ⟨fun W hW => by
  have hg := HP.out.2.2.2
  have h0 := blk_far hV.out.res (show w.heap.size ≠ w.heap.size + 1 by omega) (p := ⟨w.heap.size + 1, 2, none⟩) (.int .i64 (q : Int))
  have h1 := blk_put (cs' := #[.int .i64 (k : Int), .int .i64 0, .int .i64 0, .slice none 0 0, .slice none 0 0]) h0 0 (.int .i64 (k : Int)) rfl
  have h2 := blk_put (cs' := #[.int .i64 (k : Int), .int .i64 (p : Int), .int .i64 0, .slice none 0 0, .slice none 0 0]) h1 1 (.int .i64 (p : Int)) rfl
  have h3 := blk_put (cs' := #[.int .i64 (k : Int), .int .i64 (p : Int), .int .i64 (q : Int), .slice none 0 0, .slice none 0 0]) h2 2 (.int .i64 (q : Int)) rfl
  have h4 := blk_put (cs' := #[.int .i64 (k : Int), .int .i64 (p : Int), .int .i64 (q : Int), .slice A1 n1 c1, .slice none 0 0]) h3 3 (.slice A1 n1 c1) rfl
  have h5 := blk_put (cs' := #[.int .i64 (k : Int), .int .i64 (p : Int), .int .i64 (q : Int), .slice A1 n1 c1, .slice A2 n2 c2]) h4 4 (.slice A2 n2 c2) rfl
  have hf : ∀ i, i ≠ w.heap.size → i ≠ w.heap.size + 1 → W.heap[i]? = wc.heap[i]? := fun i n0 n1 => by
   subst hW
   iterate 5 rw [Below.heap_setCell _ _ _ i (show i ≠ w.heap.size from n0)]
   rw [Below.heap_setCell _ _ _ i (show i ≠ w.heap.size + 1 from n1)]
  subst hW
  exact ⟨h5, (hf g (by omega) (by omega)).trans hV.out.rdr, grown_above (grown_above (grown_above (grown_above (grown_above (grown_above hV.out.grown (by omega) _ _) (Nat.le_refl _) _ _) (Nat.le_refl _) _ _) (Nat.le_refl _) _ _) (Nat.le_refl _) _ _) (Nat.le_refl _) _ _, fun i hi => hf i (by omega) (by omega)⟩⟩
 obtain ⟨hr, hrd, hgr, hfar⟩ := HF.out _ rfl
 refine bodyPost_ret (results_ct rfl _ _ w.heap.size 27 _ (0, 0) _ rfl hr Tryz.underlying27 rfl (by kernel_rfl)) rfl ?_
 rw [HR.out]
 refine ⟨_, b, q, rfl, hrd, hgr, ⟨_, _, _, _, _, _, _, _, _, rfl⟩, fun h => ?_⟩
 obtain ⟨hq, names, kids, hv, hn, hk⟩ := hb.out h
 exact ⟨hq, _, hv, rfl, rfl, PL.made hn hk (fun i h1 h2 => hfar i h1) (by omega)⟩
theorem valC {s : ByteArray} (hs : s.size ≤ 65536) : ∀ n, ValC s n
 | 0 => fun w g p h hp hn => absurd hn (by omega)
 | n + 1 => value_step hs (valC hs n)
theorem below_of_row {w w' : World} {r : Option Nat} (h : w.grownBy w' r) (hr : ∀ k, r = some k → w.heap.size ≤ k) : Below w.heap.size w w' :=
 ⟨h.os, h.tape, h.output, h.size, fun k hk => h.block k hk fun e => by have := hr k e.symm; omega⟩
theorem put5 {W : World} {N : Nat} {t : TypeId} {a0 b0 c0 d0 e0 : Value} (h : W.heap[N]? = some (.cells #[a0, b0, c0, d0, e0] t (0, 0))) (a b c d e : Value) :
  (((((W.setCell ⟨N, 0, none⟩ a).setCell ⟨N, 1, none⟩ b).setCell ⟨N, 2, none⟩ c).setCell ⟨N, 3, none⟩ d).setCell ⟨N, 4, none⟩ e).heap[N]? = some (.cells #[a, b, c, d, e] t (0, 0)) ∧
  ∀ i, i ≠ N → (((((W.setCell ⟨N, 0, none⟩ a).setCell ⟨N, 1, none⟩ b).setCell ⟨N, 2, none⟩ c).setCell ⟨N, 3, none⟩ d).setCell ⟨N, 4, none⟩ e).heap[i]? = W.heap[i]? := by
 have h1 := blk_put (cs' := #[a, b0, c0, d0, e0]) h 0 a rfl
 have h2 := blk_put (cs' := #[a, b, c0, d0, e0]) h1 1 b rfl
 have h3 := blk_put (cs' := #[a, b, c, d0, e0]) h2 2 c rfl
 have h4 := blk_put (cs' := #[a, b, c, d, e0]) h3 3 d rfl
 exact ⟨blk_put (cs' := #[a, b, c, d, e]) h4 4 e rfl, fun i hi => by iterate 5 rw [Below.heap_setCell _ _ _ i (show i ≠ N from hi)]⟩
theorem grown_put5 {w W : World} {N : Nat} {r : Option Nat} (h : w.grownBy W r) (hN : w.heap.size ≤ N) (a b c d e : Value) : w.grownBy (((((W.setCell ⟨N, 0, none⟩ a).setCell ⟨N, 1, none⟩ b).setCell ⟨N, 2, none⟩ c).setCell ⟨N, 3, none⟩ d).setCell ⟨N, 4, none⟩ e) r := by
 have one : ∀ {W : World} (i : Nat) (v : Value), w.grownBy W r → w.grownBy (W.setCell ⟨N, i, none⟩ v) r := fun i v h =>
  ⟨h.os, h.tape, h.output, by simpa [World.setCell] using h.size, fun k hk hne => (Below.heap_setCell _ _ v k (show k ≠ N by omega)).trans (h.block k hk hne)⟩
 exact one 4 e (one 3 d (one 2 c (one 1 b (one 0 a h))))
def Txt (w : World) (N : Nat) (s : ByteArray) (v : Value) (t : JT) : Prop := V s t ∧ Blanks s 0 t.b ∧ Blanks s t.e s.size ∧ PL w (fun k => N ≤ k) v t
def PlcPost (w : World) (s : ByteArray) (x : Ending) (w' : World) : Prop :=
 ∃ (v : Value) (b : Bool), x = .returned (.tuple #[v, .bool b]) ∧ Below w.heap.size w w' ∧ Five v ∧ (b = true → s.size ≤ 65536 ∧ ∃ t, Txt w' w.heap.size s v t)
theorem five_zero : Five (.agg #[.int .i64 0, .int .i64 0, .int .i64 0, .slice none 0 0, .slice none 0 0]) := ⟨0, 0, 0, none, none, 0, 0, 0, 0, rfl⟩
theorem places_calls {w : World} {s : ByteArray} (hs : s.size ≤ 65536) : Calls Tryz.prog 14 #[.string s] w (PlcPost w s) := by
 refine byR fun R hR => ?_
 have HR := az hR
 have hs6 : (s.size : Int) ≤ 65536 := by omega
 obtain ⟨wx, hwx⟩ : ∃ wx, wx = (w.alloc (.cells #[.int .i64 0, .int .i64 0, .int .i64 0, .slice none 0 0, .slice none 0 0] 27)).alloc (.cells #[.string s, .int .i64 0] 61) := ⟨_, rfl⟩
 have H0 : Aside0 (Rdr wx (w.heap.size + 1) s 0 ∧ wx.heap[w.heap.size]? = some (.cells #[.int .i64 0, .int .i64 0, .int .i64 0, .slice none 0 0, .slice none 0 0] 27 (0, 0)) ∧ w.grownBy wx (some (w.heap.size + 1)) ∧ wx.heap.size = w.heap.size + 2) := ⟨by
  obtain ⟨wa, hwa⟩ : ∃ wa, wa = w.alloc (.cells #[.int .i64 0, .int .i64 0, .int .i64 0, .slice none 0 0, .slice none 0 0] 27) := ⟨_, rfl⟩
  have ea : wa.heap.size = w.heap.size + 1 := by rw [hwa]; simp
  have h1 := heap_alloc_new w (.cells #[.int .i64 0, .int .i64 0, .int .i64 0, .slice none 0 0, .slice none 0 0] 27)
  rw [← hwa] at h1 hwx
  have h2 := heap_alloc_new wa (.cells #[.string s, .int .i64 0] 61)
  rw [← hwx, ea] at h2
  have h1' := (heap_alloc_old wa (.cells #[.string s, .int .i64 0] 61) (show w.heap.size < wa.heap.size by omega)).trans h1
  rw [← hwx] at h1'
  refine ⟨h2, h1', ?_, ?_⟩
  ·rw [hwx, hwa]; exact grown_alloc (grown_alloc (grown_refl _ _) _) _
  ·rw [hwx]; simp; omega⟩
 have CB := az (fun (W : World) (x : Nat) (h : Rdr W (w.heap.size + 1) s x) (hx : x ≤ s.size) => blanks_calls h hs hx)
 have CV := az (fun (W : World) (x : Nat) (h : Rdr W (w.heap.size + 1) s x) (hx : x ≤ s.size) => valC hs (s.size - x + 1) W _ x h hx (Nat.lt_succ_self _))
 have HS := az hs
 clear hR hs
 go_enter Tryz.func14, Tryz.ntmps14
 go_upto_region 2 with fail
 rw [← hwx]
 clear hwx
 go_upto_region 4 with (first | (go_at_call 23; refine (CB.out _ _ H0.out.1 (Nat.zero_le _)).mono ?_; rintro e w1 ⟨a, ha, rfl, hr, hg⟩; dsimp only; have H1 := az3 ha hr hg; clear ha hr hg) | (go_at_call 24; refine (CV.out _ _ H1.out.2.1 H1.out.1.2.1).mono ?_; rintro e w2 ⟨v, b, q, rfl, hr, hg, ⟨k5, b5, e5, A1, A2, n1, c1, n2, c2, rfl⟩, hb⟩; dsimp only; have H2 := az3 hr hg hb; clear hr hg hb))
 have HG : Aside0 (w.grownBy w2 (some (w.heap.size + 1)) ∧ w2.heap[w.heap.size]? = some (.cells #[.int .i64 0, .int .i64 0, .int .i64 0, .slice none 0 0, .slice none 0 0] 27 (0, 0))) := ⟨by
  have h1 := grown_trans H1.out.2.2 H2.out.2.1
  exact ⟨grown_trans H0.out.2.2.1 h1, (h1.block _ (by have := H0.out.2.2.2; omega) (fun e => by have := Option.some.inj e; omega)).trans H0.out.2.1⟩⟩
 obtain ⟨wy, hwy⟩ : ∃ wy, wy = w2.alloc (.cells #[.int .i64 k5, .int .i64 b5, .int .i64 e5, .slice A1 n1 c1, .slice A2 n2 c2] 27) := ⟨_, rfl⟩
 rw [← hwy]
 have HY : Aside0 (Below w2.heap.size w2 wy ∧ wy.heap[w2.heap.size]? = some (.cells #[.int .i64 k5, .int .i64 b5, .int .i64 e5, .slice A1 n1 c1, .slice A2 n2 c2] 27 (0, 0)) ∧ wy.heap[w.heap.size]? = some (.cells #[.int .i64 0, .int .i64 0, .int .i64 0, .slice none 0 0, .slice none 0 0] 27 (0, 0)) ∧ Rdr wy (w.heap.size + 1) s q) := ⟨by
  have hW : Below w2.heap.size w2 wy := by rw [hwy]; exact (Below.refl _ _).alloc (Nat.le_refl _) _
  exact ⟨hW, by rw [hwy]; exact heap_alloc_new _ _, blk_below HG.out.2 hW, blk_below H2.out.1 hW⟩⟩
 clear hwy
 have FAIL : Aside0 (∀ (W : World), w.grownBy W (some (w.heap.size + 1)) → W.heap[w.heap.size]? = some (.cells #[.int .i64 0, .int .i64 0, .int .i64 0, .slice none 0 0, .slice none 0 0] 27 (0, 0)) → ∀ V, V = (((((W.setCell ⟨w.heap.size, 0, none⟩ (.int .i64 0)).setCell ⟨w.heap.size, 1, none⟩ (.int .i64 0)).setCell ⟨w.heap.size, 2, none⟩ (.int .i64 0)).setCell ⟨w.heap.size, 3, none⟩ (.slice none 0 0)).setCell ⟨w.heap.size, 4, none⟩ (.slice none 0 0)) →
   V.heap[w.heap.size]? = some (.cells #[.int .i64 0, .int .i64 0, .int .i64 0, .slice none 0 0, .slice none 0 0] 27 (0, 0)) ∧ R (.returned (.tuple #[.agg #[.int .i64 0, .int .i64 0, .int .i64 0, .slice none 0 0, .slice none 0 0], .bool false])) V) := ⟨fun W h1 h2 V hV => by
  subst hV
  refine ⟨(put5 h2 _ _ _ _ _).1, ?_⟩
  rw [HR.out]
  exact ⟨_, false, rfl, below_of_row (grown_put5 h1 (Nat.le_refl _) _ _ _ _ _) (fun k e => by have := Option.some.inj e; omega), five_zero, fun h => by cases h⟩⟩
 cases b with
 | false =>
  have r0 := (blk_cell HY.out.2.2.1 0).trans rfl
  have s0 := blk_frozen HY.out.2.2.1 0
  have r1 := (blk_cell HY.out.2.2.1 1).trans rfl
  have s1 := blk_frozen HY.out.2.2.1 1
  have r2 := (blk_cell HY.out.2.2.1 2).trans rfl
  have s2 := blk_frozen HY.out.2.2.1 2
  have r3 := (blk_cell HY.out.2.2.1 3).trans rfl
  have s3 := blk_frozen HY.out.2.2.1 3
  have r4 := (blk_cell HY.out.2.2.1 4).trans rfl
  have s4 := blk_frozen HY.out.2.2.1 4
  go_wp2_with fail
  obtain ⟨hr, hF⟩ := FAIL.out wy (grown_trans HG.out.1 (grown_of_below HY.out.1 _)) HY.out.2.2.1 _ rfl
  refine bodyPost_ret (results_ct rfl _ _ w.heap.size 27 _ (0, 0) _ rfl hr Tryz.underlying27 rfl (by kernel_rfl)) rfl ?_
  exact hF
 | true =>
  have hb := H2.out.2.2 (by trivial)
  have hq := hb.1
  have HB := az hb
  clear hb
  go_upto_region 7 with (go_at_call 23; refine (CB.out _ _ HY.out.2.2.2 hq).mono ?_; rintro e w4 ⟨z, hz, rfl, hr, hg⟩; dsimp only; have H4 := az3 hz hr hg; clear hz hr hg)
  have HG4 : Aside0 (w.grownBy w4 (some (w.heap.size + 1)) ∧ w4.heap[w.heap.size]? = some (.cells #[.int .i64 0, .int .i64 0, .int .i64 0, .slice none 0 0, .slice none 0 0] 27 (0, 0)) ∧ w4.heap[w2.heap.size]? = some (.cells #[.int .i64 k5, .int .i64 b5, .int .i64 e5, .slice A1 n1 c1, .slice A2 n2 c2] 27 (0, 0))) := ⟨by
   have h4 := H4.out.2.2
   have h1 := grown_trans (grown_trans HG.out.1 (grown_of_below HY.out.1 _)) h4
   have hsz := H0.out.2.2.2
   have hs2 := H1.out.2.2.size
   have hs3 := H2.out.2.1.size
   exact ⟨h1, (h4.block _ (blk_lt HY.out.2.2.1) (fun e => by have := Option.some.inj e; omega)).trans HY.out.2.2.1, (h4.block _ (blk_lt HY.out.2.1) (fun e => by have := Option.some.inj e; omega)).trans HY.out.2.1⟩⟩
  have hc1 := (blk_cell H4.out.2.1 1).trans rfl
  have r0 := (blk_cell HG4.out.2.1 0).trans rfl
  have s0 := blk_frozen HG4.out.2.1 0
  have r1 := (blk_cell HG4.out.2.1 1).trans rfl
  have s1 := blk_frozen HG4.out.2.1 1
  have r2 := (blk_cell HG4.out.2.1 2).trans rfl
  have s2 := blk_frozen HG4.out.2.1 2
  have r3 := (blk_cell HG4.out.2.1 3).trans rfl
  have s3 := blk_frozen HG4.out.2.1 3
  have r4 := (blk_cell HG4.out.2.1 4).trans rfl
  have s4 := blk_frozen HG4.out.2.1 4
  by_cases hz : z = s.size
  ·have t1 : ((z : Int) != (s.size : Int)) = false := by rw [bne_eq_false_iff_eq]; omega
   have t1n : (z != s.size) = false := by rw [bne_eq_false_iff_eq]; exact hz
   have HZ := az hz
   have q0 := (blk_cell HG4.out.2.2 0).trans rfl
   have q1 := (blk_cell HG4.out.2.2 1).trans rfl
   have q2 := (blk_cell HG4.out.2.2 2).trans rfl
   have q3 := (blk_cell HG4.out.2.2 3).trans rfl
   have q4 := (blk_cell HG4.out.2.2 4).trans rfl
   clear hz
   go_wp2_with fail
   obtain ⟨hr, hfar⟩ := put5 HG4.out.2.1 (.int .i64 k5) (.int .i64 b5) (.int .i64 e5) (.slice A1 n1 c1) (.slice A2 n2 c2)
   refine bodyPost_ret (results_ct rfl _ _ w.heap.size 27 _ (0, 0) _ rfl hr Tryz.underlying27 rfl (by kernel_rfl)) rfl ?_
   rw [HR.out]
   obtain ⟨hq1, t, hv, htb, hte, hpl⟩ := HB.out
   refine ⟨_, true, rfl, below_of_row (grown_put5 HG4.out.1 (Nat.le_refl _) _ _ _ _ _) (fun k e => by have := Option.some.inj e; omega), ⟨_, _, _, _, _, _, _, _, _, rfl⟩, fun _ => ⟨HS.out, t, hv, by rw [htb]; exact H1.out.1, by rw [hte, ← HZ.out]; exact H4.out.1, ?_⟩⟩
   have hsz := H0.out.2.2.2
   have hs2 := H1.out.2.2.size
   refine hpl.keep fun k hk hlt => ⟨?_, by omega⟩
   rw [hfar k (by omega), H4.out.2.2.block k (Nat.lt_of_lt_of_le hlt HY.out.1.size) (fun e => by have := Option.some.inj e; omega), HY.out.1.block k hlt]
  ·have t1 : ((z : Int) != (s.size : Int)) = true := bneT
   have t1n : (z != s.size) = true := bneTn hz
   clear hz
   go_wp2_with fail
   obtain ⟨hr, hF⟩ := FAIL.out w4 HG4.out.1 HG4.out.2.1 _ rfl
   refine bodyPost_ret (results_ct rfl _ _ w.heap.size 27 _ (0, 0) _ rfl hr Tryz.underlying27 rfl (by kernel_rfl)) rfl ?_
   exact hF
theorem jpPlaces_calls {w : World} {s : ByteArray} (hs : s.size ≤ 2147483647) : Calls Tryz.prog 8 #[.string s] w (PlcPost w s) := by
 refine byR fun R hR => ?_
 have HR := az hR
 have hs6 : (s.size : Int) ≤ 2147483647 := by omega
 have hnew := heap_alloc_new w (.cells #[.int .i64 0, .int .i64 0, .int .i64 0, .slice none 0 0, .slice none 0 0] 27)
 have hB : Below w.heap.size w (w.alloc (.cells #[.int .i64 0, .int .i64 0, .int .i64 0, .slice none 0 0, .slice none 0 0] 27)) := (Below.refl _ _).alloc (Nat.le_refl _) _
 have hsz : (w.alloc (.cells #[.int .i64 0, .int .i64 0, .int .i64 0, .slice none 0 0, .slice none 0 0] 27)).heap.size = w.heap.size + 1 := by simp
 obtain ⟨wx, hwx⟩ : ∃ wx, wx = w.alloc (.cells #[.int .i64 0, .int .i64 0, .int .i64 0, .slice none 0 0, .slice none 0 0] 27) := ⟨_, rfl⟩
 rw [← hwx] at hnew hB hsz
 have H0 := az3 hnew hB hsz
 clear hR hs
 go_enter Tryz.func8, Tryz.ntmps8
 go_upto_region 1 with fail
 rw [← hwx]
 clear hwx hnew hB hsz
 by_cases hl : s.size ≤ 65536
 ·have t1 : decide ((65536 : Int) < (s.size : Int)) = false := dF
  have t1n : decide (65536 < s.size) = false := dF
  have CP := az (places_calls (w := wx) hl)
  clear hl
  go_wp2_with (go_at_call 14; refine CP.out.mono ?_; rintro e w2 ⟨v, b, rfl, hbl, ⟨k5, b5, e5, A1, A2, n1, c1, n2, c2, rfl⟩, hb⟩; dsimp only; have H2 := az2 hbl hb; have hres := blk_below H0.out.1 hbl; have HS := az hres; have r0 := (blk_cell hres 0).trans rfl; have r1 := (blk_cell hres 1).trans rfl; have r2 := (blk_cell hres 2).trans rfl; have r3 := (blk_cell hres 3).trans rfl; have r4 := (blk_cell hres 4).trans rfl; have s0 := blk_frozen hres 0; have s1 := blk_frozen hres 1; have s2 := blk_frozen hres 2; have s3 := blk_frozen hres 3; have s4 := blk_frozen hres 4; clear hbl hb hres)
  obtain ⟨hr, hfar⟩ := put5 HS.out (.int .i64 k5) (.int .i64 b5) (.int .i64 e5) (.slice A1 n1 c1) (.slice A2 n2 c2)
  refine bodyPost_ret (results_ct rfl _ _ w.heap.size 27 _ (0, 0) _ rfl hr Tryz.underlying27 rfl (by kernel_rfl)) rfl ?_
  rw [HR.out]
  have hgr : w.grownBy w2 none := grown_of_below (H0.out.2.1.trans (H2.out.1.mono (by have := H0.out.2.2; omega))) none
  refine ⟨_, b, rfl, below_of_row (grown_put5 hgr (Nat.le_refl _) _ _ _ _ _) (fun k e => by cases e), ⟨_, _, _, _, _, _, _, _, _, rfl⟩, fun h => ?_⟩
  obtain ⟨h1, t, h2, h3, h4, h5⟩ := H2.out.2 h
  have hsz := H0.out.2.2
  exact ⟨h1, t, h2, h3, h4, h5.keep fun k hk hlt => ⟨hfar k (by omega), by omega⟩⟩
 ·have t1 : decide ((65536 : Int) < (s.size : Int)) = true := dT
  have t1n : decide (65536 < s.size) = true := dT
  clear hl
  have r0 := (blk_cell H0.out.1 0).trans rfl
  have s0 := blk_frozen H0.out.1 0
  have r1 := (blk_cell H0.out.1 1).trans rfl
  have s1 := blk_frozen H0.out.1 1
  have r2 := (blk_cell H0.out.1 2).trans rfl
  have s2 := blk_frozen H0.out.1 2
  have r3 := (blk_cell H0.out.1 3).trans rfl
  have s3 := blk_frozen H0.out.1 3
  have r4 := (blk_cell H0.out.1 4).trans rfl
  have s4 := blk_frozen H0.out.1 4
  go_wp2_with fail
  obtain ⟨hr, hfar⟩ := put5 H0.out.1 (.int .i64 0) (.int .i64 0) (.int .i64 0) (.slice none 0 0) (.slice none 0 0)
  refine bodyPost_ret (results_ct rfl _ _ w.heap.size 27 _ (0, 0) _ rfl hr Tryz.underlying27 rfl (by kernel_rfl)) rfl ?_
  rw [HR.out]
  exact ⟨_, false, rfl, below_of_row (grown_put5 (grown_of_below H0.out.2.1 none) (Nat.le_refl _) _ _ _ _ _) (fun k e => by cases e), five_zero, fun h => by cases h⟩
end JS
end Go.Proofs.YtbimfhaokgigkaaGreatDoor
