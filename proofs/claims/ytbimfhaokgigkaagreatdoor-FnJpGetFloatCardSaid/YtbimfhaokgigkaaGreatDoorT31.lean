/- Walks of functions of FnJpGetFloat (X13, X14); conditions stand ahead of each theorem. -/
import Derived.Test.YtbimfhaokgigkaaGreatDoorT30
set_option linter.unusedVariables false
set_option linter.unusedSimpArgs false
set_option maxRecDepth 1000000
set_option maxHeartbeats 8000000
namespace Go.Proofs.YtbimfhaokgigkaaGreatDoor
open Go.RowKit Go.Proofs.YtbimfhaokgigkaaGreatDoorW.PrintWords Go.Proofs.YtbimfhaokgigkaaGreatDoorW.PrintLast
namespace JS
theorem V.head {s : ByteArray} {t : JT} (h : V s t) : bn s t.b ≠ 93 := by
 cases h with
 | word k b e h =>
  obtain ⟨h1, h2, h3, h4⟩ := h
  have hl := word_len k
  have e1 := h4 0 (by omega)
  have e2 := word_get k h1 0 (by omega)
  rw [Nat.add_zero] at e1
  show bn s b ≠ 93
  omega
 | num b e h => obtain ⟨_, _, h, _⟩ := h; show bn s b ≠ 93; unfold digit at h; omega
 | str b e h => obtain ⟨h, _⟩ := h; show bn s b ≠ 93; omega
 | arr0 b c h1 _ _ _ => show bn s b ≠ 93; omega
 | arr b a e kids h1 _ _ => show bn s b ≠ 93; omega
 | obj0 b c h1 _ _ _ => show bn s b ≠ 93; omega
 | obj b a e ns kids h1 _ _ => show bn s b ≠ 93; omega
theorem below_fr {w0 w1 w2 : World} {B : Nat} (h : Below w0.heap.size w0 w1) (g : Fr B w1 w2) (hg : w0.heap.size ≤ B) : Below w0.heap.size w0 w2 :=
 h.trans ⟨g.os, g.tape, g.output, g.size, fun k hk => g.block k (Nat.lt_of_lt_of_le hk h.size) (by omega) (by omega) (by omega)⟩
def Fnd (w : World) (s : ByteArray) (el : JT) (vf : Value) : Prop := ∃ (A : Option Addr) (c : Nat), vf = .slice A (el.e - el.b) c ∧ el.e - el.b ≤ c ∧ Dat w s el.b (el.e - el.b) A
theorem Dat.fr {w w' : World} {B D : Nat} {idx c : Int} {vf : Value} {vo ci : Int} {dv : Value} {s : ByteArray} {b n : Nat} {A : Option Addr} (hc : CV w B D idx c vf vo ci dv) (hvf : ∃ x y z, vf = .slice x y z) (h : Dat w s b n A) (hf : Fr B w w') : Dat w' s b n A := by
 refine ⟨h.1, h.2.1, fun hn => ?_⟩
 obtain ⟨g, o, e, hg, hcell⟩ := h.2.2 hn
 obtain ⟨x, y, z, rfl⟩ := hvf
 have h0 := hcell 0 hn
 have one : ∀ (u v : Value), (#[u] : Array Value)[o + 0]? = some v → v = u := fun u v h => by
  have : o + 0 = 0 := by
   by_cases c : o + 0 = 0
   ·exact c
   ·rw [Array.getElem?_eq_none (by simp; omega)] at h; cases h
  rw [this] at h
  exact (Option.some.inj h).symm
 have n1 : g ≠ B + 1 := fun e => by subst e; rw [blk_cell hc.cur] at h0; have := one _ _ h0; simp at this
 have n2 : g ≠ B + 2 := fun e => by subst e; rw [blk_cell hc.vf] at h0; have := one _ _ h0; simp at this
 have n3 : g ≠ B + 3 := fun e => by subst e; rw [blk_cell hc.vo] at h0; have := one _ _ h0; simp at this
 exact ⟨g, o, e, Nat.lt_of_lt_of_le hg hf.size, fun k hk => by rw [← hcell k hk]; exact World.cell?_of_block (hf.block g hg n1 n2 n3)⟩
theorem Els.inv {s : ByteArray} {a e : Nat} {r : List JT} (h : Els s a e r) : ∃ el rest c, r = el :: rest ∧ el.b = a ∧ V s el ∧ Blanks s el.e c ∧ c < e ∧ ((rest = [] ∧ bn s c = 93) ∨ (bn s c = 44 ∧ ∃ a', Blanks s (c + 1) a' ∧ Els s a' e rest)) := by
 cases h with
 | last t c h1 h2 h3 h4 => exact ⟨t, [], c, rfl, rfl, h1, h2, by omega, .inl ⟨rfl, h4⟩⟩
 | more t c a e r h1 h2 h3 h4 h5 h6 => exact ⟨t, r, c, rfl, rfl, h1, h2, by have := h5.1; have := Els.le h6; omega, .inr ⟨h4, a, h5, h6⟩⟩
def EachPost (w0 w : World) (s : ByteArray) (B D base idx : Nat) (i : Int) (dv : Value) (kids : List JT) (e : Ending) (w' : World) : Prop :=
 ∃ (r : Int) (vf : Value) (vo : Int), e = .returned (.tuple #[.int .i64 r, .nilIface]) ∧ CV w' B D idx kids.length vf vo i dv ∧ Fr B w w' ∧ ∀ el, kids[idx]? = some el → vo = ((el.b - base : Nat) : Int) ∧ Fnd w' s el vf
def ER (w0 w : World) (s : ByteArray) (B D base e idx : Nat) (i : Int) (dv : Value) (kids : List JT) (q : Nat) (W : World) (p : Nat) : Prop :=
 ∃ (a : Nat) (done r : List JT) (vf : Value) (vo : Int), r.length ≤ q ∧ Blanks s (base + p) a ∧ Els s a e r ∧ kids = done ++ r ∧ CV W B D idx done.length vf vo i dv ∧ Fr B w W ∧ done.length ≤ p ∧ (∃ x y z, vf = .slice x y z) ∧ ∀ el, done[idx]? = some el → vo = ((el.b - base : Nat) : Int) ∧ Fnd W s el vf
theorem each_calls {w0 w : World} {s : ByteArray} {lo n cp B D idx i gd od : Nat} {t : JT} (h : Dat w0 s lo n (some ⟨gd, od, none⟩)) (hn : n ≤ cp) (hw : Below w0.heap.size w0 w) (hB : w0.heap.size ≤ B) (hB4 : B + 4 < w.heap.size) (hi : i < n)
  (hv : V s t) (hk : t.kind = 5) (hb : t.b = lo + i) (he : t.e ≤ lo + n) (hcv : CV w B D idx 0 (.slice none 0 0) 0 i (.slice (some ⟨gd, od, none⟩) n cp)) :
  Calls Tryz.prog 69 #[.agg #[.bool false, .bool false, .int .i64 0], .slice (some ⟨gd, od + i, none⟩) (n - i) (cp - i), .func (.func 70) #[] #[.pointer (some ⟨B + 1, 0, none⟩), .pointer (some ⟨B, 0, none⟩), .pointer (some ⟨B + 2, 0, none⟩), .pointer (some ⟨B + 3, 0, none⟩), .pointer (some ⟨D, 0, none⟩), .pointer (some ⟨B + 4, 0, none⟩)], .slice none 0 0] w
   (EachPost w0 w s B D (lo + i) idx i (.slice (some ⟨gd, od, none⟩) n cp) t.kids) := by
 refine byR fun R hR => ?_
 have HR := az hR
 have hsz : (n : Int) ≤ 65536 := by have := h.1; have := h.2.1; omega
 have HD : Aside0 (∀ W, Fr B w W → Dat W s lo n (some ⟨gd, od, none⟩)) := ⟨fun W hW => h.below (below_fr hw hW hB)⟩
 have hfr1 : Fr B w (w.alloc (.cells #[.bool false, .bool false, .int .i64 0] 93)) := Fr.of ((Below.refl _ _).alloc (Nat.le_refl _) _)
 obtain ⟨m, hm⟩ : ∃ m, n = i + m := ⟨n - i, by omega⟩
 subst hm
 obtain ⟨ci, hci⟩ : ∃ ci, cp = i + ci := ⟨cp - i, by omega⟩
 subst hci
 rw [Nat.add_sub_cancel_left, Nat.add_sub_cancel_left]
 have hle := V.le hv
 have hm0 : 0 < m := by omega
 have z0 : ((m : Int) == 0) = false := beqF
 have z0n : (m == 0) = false := beqFn
 have CN : Aside0 (∀ (W : World) (k p : Nat), Fr B w W → k < m → Blanks s (lo + i + k) p → p < lo + (i + m) → ¬ blank (bn s p) → Calls Tryz.prog 59 #[.agg #[.bool false, .bool false, .int .i64 0], .slice (some ⟨gd, od + i + k, none⟩) (m - k) (ci - k)] W (NumPost W ((p - (lo + i + k) : Nat) : Int))) := ⟨fun W k p hW h1 h2 h3 h4 => by
  have := (HD.out W hW).cutS (k := i + k) (by omega)
  rw [← Nat.add_assoc, ← Nat.add_assoc, show i + m - (i + k) = m - k by omega] at this
  exact next_calls this (by omega) h2 (by omega) h4⟩
 have hbr : bn s t.b = 91 := (V.arrBlock hv hk (Nat.le_refl _)).1
 have hcase : 2 ≤ m ∧ ((t.kids = [] ∧ ∃ c, Blanks s (lo + i + 1) c ∧ c < lo + (i + m) ∧ bn s c = 93) ∨ ∃ a, Blanks s (lo + i + 1) a ∧ Els s a t.e t.kids ∧ a < lo + (i + m) ∧ bn s a ≠ 93 ∧ ¬ blank (bn s a)) := by
  cases hv with
  | word k b e h => obtain ⟨h1, _⟩ := h; have : k = 5 := hk; omega
  | num b e h => cases hk
  | str b e h => cases hk
  | arr0 b c h1 h2 h3 h4 =>
   have hb' : b = lo + i := hb
   have he' : c + 1 ≤ lo + (i + m) := he
   have := h2.1
   rw [hb'] at h2
   exact ⟨by omega, .inl ⟨rfl, c, h2, by omega, h4⟩⟩
  | arr b a e kids h1 h2 h3 =>
   have hb' : b = lo + i := hb
   have he' : e ≤ lo + (i + m) := he
   have hl := Els.le h3
   have := h2.1
   rw [hb'] at h2
   have hva : bn s a ≠ 93 ∧ ¬ blank (bn s a) := by
    cases h3 with
    | last t c q1 _ _ _ => exact ⟨V.head q1, V.noblank q1⟩
    | more t c a e r q1 _ _ _ _ _ => exact ⟨V.head q1, V.noblank q1⟩
   exact ⟨by omega, .inr ⟨a, h2, h3, by omega, hva.1, hva.2⟩⟩
  | obj0 b c h1 h2 h3 h4 => cases hk
  | obj b a e ns kids h1 h2 h3 => cases hk
 obtain ⟨hm2, hcase⟩ := hcase
 have CN0 : Aside0 (Calls Tryz.prog 59 #[.agg #[.bool false, .bool false, .int .i64 0], .slice (some ⟨gd, od + i, none⟩) m ci] (w.alloc (.cells #[.bool false, .bool false, .int .i64 0] 93)) (NumPost (w.alloc (.cells #[.bool false, .bool false, .int .i64 0] 93)) 0)) := ⟨by
  have := next_calls (c := ci) (p := lo + i) ((HD.out _ hfr1).cutS (k := i) (by omega)) (by omega) (Blanks.refl (by omega)) (by omega) (by rw [← hb]; exact V.noblank hv)
  rw [Nat.sub_self, show i + m - i = m by omega] at this
  exact this⟩
 have hD1 : ∀ W, Fr B w W → ∀ k, k < m → W.cell? ⟨gd, od + i + k, none⟩ = some (.int .u8 (bn s (lo + i + k) : Int)) := fun W hW k hk => by
  obtain ⟨g', o', e, hc⟩ := (HD.out W hW).at_ (k := i + k) (by omega)
  cases e
  rw [Nat.add_assoc od, Nat.add_assoc lo]
  exact hc
 have HC := az hD1
 have HX := az6 hcv hB4 hfr1 hv hk he
 have i1 : (1 : Int) ≤ (m : Int) := by omega
 have i2 : (m : Int) ≤ (ci : Int) := by omega
 have i3 : ¬ ci = 1 := by omega
 have i4 : (1 : Int) ≤ (ci : Int) := by omega
 have i0 : (0 : Int) < (m : Int) := by omega
 have hbr' : bn s (lo + i) = 91 := by rw [← hb]; exact hbr
 have HBR := az hbr'
 clear hR h hn hw hB hB4 hi hv hk hb he hcv hfr1 hbr hbr' hD1 hle
 go_enter Tryz.func69, Tryz.ntmps69
 go_wp2_with (go_at_call 59; (with_reducible refine CN0.out.mono ?_); rintro e w1 ⟨rfl, hbl⟩; have hbx := box_at (hbl.mono (by simp)); have hb0 := (blk_cell hbx 0).trans rfl; have hb1 := (blk_cell hbx 1).trans rfl; have hb2 := (blk_cell hbx 2).trans rfl; have hF1 : Fr B w w1 := HX.out.2.2.1.trans (Fr.of hbl); have hcb : w1.cell? ⟨gd, od + i, none⟩ = some (.int .u8 91) := (HC.out w1 hF1 0 hm0).trans (by rw [Nat.add_zero, HBR.out]; rfl); have HF1 := az3 hF1 hbx (below1 _ (hbl.mono (by simp))); clear hbl hbx hF1)
 have HBX : Aside0 (∀ W W' : World, W.heap[w.heap.size]? = some (.cells #[.bool false, .bool false, .int .i64 0] 93 (0, 0)) → Below W.heap.size W W' → W'.heap[w.heap.size]? = some (.cells #[.bool false, .bool false, .int .i64 0] 93 (0, 0))) := ⟨fun W W' h hb => blk_below h hb⟩
 rcases hcase with ⟨hk0, c, h1, h2, h3⟩ | ⟨a, h1, h2, h3, h4, h5⟩
 ·obtain ⟨d, rfl⟩ : ∃ d, c = lo + i + 1 + d := ⟨c - (lo + i + 1), by have := h1.1; omega⟩
  have CN1 := CN.out w1.drew 1 (lo + i + 1 + d) ⟨HF1.out.1.os, HF1.out.1.tape, HF1.out.1.output, HF1.out.1.size, HF1.out.1.block⟩ (by omega) h1 h2 (by rw [h3]; decide)
  rw [Nat.add_sub_cancel_left] at CN1
  have CN1 := az CN1
  have t1 : ((d : Int) == -1) = false := beqF
  have d6 : (d : Int) + 1 < (m : Int) := by omega
  have HE := az3 h3 hk0 (show 1 + d < m by omega)
  clear h1 h2 h3 hk0
  go_region_with (go_at_call 59; refine Calls.mono CN1.out ?_; rintro e w2 ⟨rfl, hbl⟩; have hF2 := HF1.out.1.trans (Fr.of (undrew hbl)); have hcb2 : w2.cell? ⟨gd, od + i + (1 + d), none⟩ = some (.int .u8 93) := (HC.out w2 hF2 (1 + d) HE.out.2.2).trans (by rw [show lo + i + (1 + d) = lo + i + 1 + d by omega, HE.out.1]; rfl); have HF2 := az hF2; have HB2 := az hbl; clear hbl hF2)
  all_goals
   go_wp2_with fail
  rw [HR.out]
  refine ⟨_, .slice none 0 0, 0, rfl, ?_, HF2.out, fun el hel => by rw [HE.out.2.1] at hel; simp at hel⟩
  rw [HE.out.2.1]
  exact HX.out.1.below (HF1.out.2.2.trans (undrew (HB2.out.mono HF1.out.2.2.size)))
 ·obtain ⟨d, rfl⟩ : ∃ d, a = lo + i + 1 + d := ⟨a - (lo + i + 1), by have := h1.1; omega⟩
  have CN1 := CN.out w1.drew 1 (lo + i + 1 + d) ⟨HF1.out.1.os, HF1.out.1.tape, HF1.out.1.output, HF1.out.1.size, HF1.out.1.block⟩ (by omega) h1 h3 h5
  rw [Nat.add_sub_cancel_left] at CN1
  have CN1 := az CN1
  have t1 : ((d : Int) == -1) = false := beqF
  have d6 : (d : Int) + 1 < (m : Int) := by omega
  obtain ⟨x, hx⟩ : ∃ x, x = bn s (lo + i + 1 + d) := ⟨_, rfl⟩
  have t2 : ((x : Int) == 93) = false := beqF
  have t2n : (x == 93) = false := beqFn
  have HE := az3 hx h2 (show 1 + d < m by omega)
  clear h1 h2 h3 h4 h5 hx
  go_region_with (go_at_call 59; refine Calls.mono CN1.out ?_; rintro e w2 ⟨rfl, hbl⟩; have hF2 := HF1.out.1.trans (Fr.of (undrew hbl)); have hcb2 : w2.cell? ⟨gd, od + i + (1 + d), none⟩ = some (.int .u8 (x : Int)) := (HC.out w2 hF2 (1 + d) HE.out.2.2).trans (by rw [show lo + i + (1 + d) = lo + i + 1 + d by omega, HE.out.1]); have HF2 := az3 hF2 (HF1.out.2.2.trans (undrew (hbl.mono HF1.out.2.2.size))) (HBX.out _ _ HF1.out.2.1 (undrew hbl)); clear hbl hF2)
  all_goals
   go_wp2_with fail
  go_loopg [8] t.kids.length (fun q v8 w' => ∃ p : Nat, v8 = .int .i64 (p : Int) ∧ Aside0 (ER w0 w s B D (lo + i) t.e idx i (.slice (some ⟨gd, od, none⟩) (i + m) (i + ci)) t.kids q w' p) ∧ Aside0 (w'.heap[w.heap.size]? = some (.cells #[.bool false, .bool false, .int .i64 0] 93 (0, 0))))
  case atStart => exact ⟨1 + d, by go_num, ⟨⟨lo + i + 1 + d, [], t.kids, .slice none 0 0, 0, Nat.le_refl _, by rw [show lo + i + (1 + d) = lo + i + 1 + d by omega]; exact Blanks.refl (by have := Els.le HE.out.2.1; omega), HE.out.2.1, rfl, HX.out.1.below HF2.out.2.1, HF2.out.1, Nat.zero_le _, ⟨_, _, _, rfl⟩, fun el hel => by simp at hel⟩⟩, ⟨HF2.out.2.2⟩⟩
  case round =>
   obtain ⟨p, rfl, her, hbx⟩ := hrel
   obtain ⟨a, done, r, vf, vo, e1, e2, e3, e4, e5, e6, e7, e9, e8⟩ := her.out
   obtain ⟨el, rest, c, rfl, rfl, hv1, hb1, hce, hlast⟩ := e3.inv
   have hle := V.le hv1
   have hbb := hb1.1
   have hb2 := e2.1
   have het := HX.out.2.2.2.2.2
   have hb0 := (blk_cell hbx.out 0).trans rfl
   have hb1' := (blk_cell hbx.out 1).trans rfl
   have hb2' := (blk_cell hbx.out 2).trans rfl
   have hpm : p < m := by omega
   have hDr : Dat wr s (lo + i + p) (m - p) (some ⟨gd, od + i + p, none⟩) := by
    have := (HD.out wr e6).cutS (k := i + p) (by omega)
    rwa [← Nat.add_assoc, ← Nat.add_assoc, show i + m - (i + p) = m - p by omega] at this
   have CG := az (fun W (hW : Below wr.heap.size wr W) => cfgGet_calls (cp := ci - p) (hDr.below hW) (by omega) hv1 e2 (by omega) (fun _ => by
    by_cases x : el.e = c
    ·rw [x]; unfold dlm; rcases hlast with ⟨_, q⟩ | ⟨q, _⟩ <;> omega
    ·have := hb1.2.2 el.e (Nat.le_refl _) (by omega); unfold blank at this; unfold dlm; omega))
   obtain ⟨oo, hoo⟩ : ∃ oo, el.e - (lo + i + p) = oo := ⟨_, rfl⟩
   unfold Get4 at CG
   rw [hoo] at CG
   have p1 : (p : Int) ≤ (m : Int) := by omega
   have p2 : (p : Int) ≤ (ci : Int) := by omega
   have p3 : ¬ ci = p := by omega
   have o1 : ((oo : Int) == 0) = false := beqF
   have o1n : (oo == 0) = false := beqFn
   have p4 : (p : Int) + (oo : Int) < (m : Int) := by omega
   have HR1 := az (And.intro e1 (And.intro e2 (And.intro e3 (And.intro e4 (And.intro e5 (And.intro e6 (And.intro e7 (And.intro (And.intro e9 e8) (And.intro hv1 (And.intro hb1 (And.intro hce (And.intro hlast hoo))))))))))))
   clear e1 e2 e3 e4 e5 e6 e7 e8 e9 hv1 hb1 hce hlast hoo hle hbb hb2 het hDr
   go_wp2_with fail
   go_region_with (go_at_call 81; refine Calls.mono (CG.out _ ?_) ?_; exact ⟨rfl, rfl, rfl, Nat.le_refl _, fun _ _ => rfl⟩; rintro e w3 ⟨A1, c1, rfl, hd3, hc3, hbl⟩; have HB3 := az3 (undrew hbl) hd3 hc3; clear hbl hd3 hc3)
   obtain ⟨e1, e2, e3, e4, e5, e6, e7, ⟨e9, e8⟩, hv1, hb1, hce, hlast, hoo⟩ := HR1.out
   have hle := V.le hv1
   have hb2 := e2.1
   have hF3 : Fr B w w3 := e6.trans (Fr.of HB3.out.1)
   have hV3 := e5.below HB3.out.1
   have hbx3 := HBX.out _ _ hbx.out HB3.out.1
   obtain ⟨mm, hmm⟩ : ∃ mm, inL el = mm := ⟨_, rfl⟩
   have hmo : mm ≤ oo := by
    have : inL el ≤ el.e - el.b := by unfold inL; split <;> omega
    omega
   have hd3 := HB3.out.2.1
   rw [hmm] at hd3 ⊢
   obtain ⟨jj, hjj⟩ : ∃ jj, jk el.kind = jj := ⟨_, rfl⟩
   rw [hjj]
   have hdl : (done.length : Int) ≤ 65536 := by omega
   have CL : ∃ (vf' : Value) (vo' : Int), (∃ x y z, vf' = .slice x y z) ∧ Calls Tryz.prog 70 #[.slice A1 mm c1, .int .i64 (jj : Int), .int .i64 ((p : Int) + (oo : Int) - (mm : Int)), .nilIface, .pointer (some ⟨B + 1, 0, none⟩), .pointer (some ⟨B, 0, none⟩), .pointer (some ⟨B + 2, 0, none⟩), .pointer (some ⟨B + 3, 0, none⟩), .pointer (some ⟨D, 0, none⟩), .pointer (some ⟨B + 4, 0, none⟩)] w3 (ClPost w3 B D idx ((done.length : Int) + 1) vf' vo' i (.slice (some ⟨gd, od, none⟩) (i + m) (i + ci))) ∧
     ∀ W, Fr B w3 W → ∀ el', (done ++ [el])[idx]? = some el' → vo' = ((el'.b - (lo + i) : Nat) : Int) ∧ Fnd W s el' vf' := by
    by_cases hci : done.length = idx
    ·subst hci
     have hel : (done ++ [el])[done.length]? = some el := by simp
     by_cases h4 : el.kind = 4
     ·have hst : el.b + 2 ≤ el.e := by
       cases hv1 with
       | str b e h => exact h.2.1
       | word k b e h => have : k = 4 := h4; have := h.1; omega
       | num b e h => cases h4
       | arr0 => cases h4
       | arr => cases h4
       | obj0 => cases h4
       | obj => cases h4
      have hm4 : mm = el.e - el.b - 2 := by rw [← hmm]; exact if_pos h4
      have hj4 : jj = 1 := by rw [← hjj]; exact (jk_str _).2 h4
      subst hj4
      refine ⟨_, _, ⟨_, _, _, rfl⟩, closure_str (p := el.b - (lo + i)) hV3 (by omega) hdl (by omega) (by omega) (by omega), fun W hW el' he' => ?_⟩
      rw [hel] at he'
      obtain rfl := Option.some.inj he'
      refine ⟨rfl, _, _, by rw [show el.e - el.b = mm + 2 by omega], by omega, ?_⟩
      have := ((HD.out W (hF3.trans hW)).cutS (k := i + (el.b - (lo + i))) (by omega)).front (m := el.e - el.b) (by omega)
      rwa [show lo + (i + (el.b - (lo + i))) = el.b by omega] at this
     ·have hm4 : mm = el.e - el.b := by rw [← hmm]; exact if_neg h4
      have hib : inB el = el.b := if_neg h4
      rw [hib, hm4] at hd3
      refine ⟨_, _, ⟨_, _, _, rfl⟩, closure_yes hV3 (fun e => h4 ((jk_str _).1 (by rw [hjj]; omega))) hdl, fun W hW el' he' => ?_⟩
      rw [hel] at he'
      obtain rfl := Option.some.inj he'
      exact ⟨by omega, _, _, by rw [hm4], by have := HB3.out.2.2; rw [hmm] at this; omega, hd3.fr hV3 e9 hW⟩
    ·refine ⟨vf, vo, e9, closure_no hV3 hci hdl, fun W hW el' he' => ?_⟩
     have hlt : idx < done.length := by
      have := (List.getElem?_eq_some_iff.1 he').1
      simp at this
      omega
     rw [List.getElem?_append_left hlt] at he'
     obtain ⟨q1, A2, c2, q2, q3, q4⟩ := e8 el' he'
     exact ⟨q1, A2, c2, q2, q3, (q4.below HB3.out.1).fr hV3 e9 hW⟩
   obtain ⟨vf', vo', hvf', CLc, CLf⟩ := CL
   have CC := az CLc
   have x6 : Aside0 (wr.heap.size ≤ w3.heap.size) := ⟨HB3.out.1.size⟩
   have HR2 := az7 hF3 hV3 hbx3 hmm hmo hvf' CLf
   have m6 : (mm : Int) ≤ (oo : Int) := by omega
   have oo6 : (oo : Int) ≤ 65536 := by omega
   clear CLc CLf hvf' e1 e2 e3 e4 e5 e6 e7 e8 e9 hv1 hb1 hce hlast hoo hle hb2 hF3 hV3 hbx3 hmm hmo hd3 hjj hdl hb0 hb1' hb2'
   go_wp2_with (go_at_call 70; (with_reducible refine CC.out.mono ?_); rintro e w4 ⟨rfl, hcv, hfr⟩; have HW4 := az2 hcv hfr; clear hcv hfr)
   obtain ⟨e1, e2, e3, e4, e5, e6, e7, ⟨e9, e8⟩, hv1, hb1, hce, hlast, hoo⟩ := HR1.out
   obtain ⟨hF3, hV3, hbx3, hmm, hmo, hvf', CLf⟩ := HR2.out
   have hle := V.le hv1
   have hb2 := e2.1
   have hbb := hb1.1
   have het := HX.out.2.2.2.2.2
   have hB4 := HX.out.2.1
   have hF4 := hF3.trans HW4.out.2
   have hbx4 : w4.heap[w.heap.size]? = some (.cells #[.bool false, .bool false, .int .i64 0] 93 (0, 0)) := (HW4.out.2.block _ (blk_lt hbx3) (by omega) (by omega) (by omega)).trans hbx3
   have hb0 := (blk_cell hbx4 0).trans rfl
   have hb1' := (blk_cell hbx4 1).trans rfl
   have hb2' := (blk_cell hbx4 2).trans rfl
   obtain ⟨d2, hd2⟩ : ∃ d2, c = lo + i + (p + oo) + d2 := ⟨c - (lo + i + (p + oo)), by omega⟩
   have hcb : bn s c = 93 ∨ bn s c = 44 := by rcases hlast with ⟨_, q⟩ | ⟨q, _⟩ <;> omega
   have hb1c : Blanks s (lo + i + (p + oo)) c := by rw [show lo + i + (p + oo) = el.e by omega]; exact hb1
   have CN4 := CN.out w4.drew (p + oo) c ⟨hF4.os, hF4.tape, hF4.output, hF4.size, hF4.block⟩ (by omega) hb1c (by omega) (by unfold blank; omega)
   rw [hd2, Nat.add_sub_cancel_left] at CN4
   have CN4 := az CN4
   have t4 : ((d2 : Int) == -1) = false := beqF
   have d8 : (p : Int) + (oo : Int) + (d2 : Int) < (m : Int) := by omega
   have d9 : p + oo + d2 < m := by omega
   have p5 : (p : Int) + (oo : Int) ≤ (ci : Int) := by omega
   have p6 : ¬ ci = p + oo := by omega
   have p7 : (p : Int) + (oo : Int) ≤ (m : Int) := by omega
   have HR3 := az5 hF4 hbx4 hd2 d9 hlast
   have hq : ∃ x : Nat, x = bn s c ∧ (x = 93 ∨ x = 44) := ⟨_, rfl, hcb⟩
   obtain ⟨x, hx, hx2⟩ := hq
   have HX3 := az hx
   have s2 : 0 ≤ (p : Int) + (oo : Int) := by omega
   have s3 : ((p : Int) + (oo : Int)).toNat = p + oo := by omega
   clear e1 e2 e3 e4 e5 e6 e7 e8 e9 hv1 hb1 hce hlast hoo hle hb2 hbb het hB4 hF3 hF4 hV3 hbx3 hbx4 hmm hmo hvf' CLf hd2 hcb hb1c hx
   go_region_with (go_at_call 59; refine Calls.mono CN4.out ?_; rintro e w5 ⟨rfl, hbl⟩; have hF5 := HR3.out.1.trans (Fr.of (undrew hbl)); have hcb5 : w5.cell? ⟨gd, od + i + (p + oo + d2), none⟩ = some (.int .u8 (x : Int)) := (HC.out w5 hF5 (p + oo + d2) HR3.out.2.2.2.1).trans (by rw [show lo + i + (p + oo + d2) = c by have := HR3.out.2.2.1; omega, HX3.out]); have HF5 := az3 hF5 (undrew hbl) (HBX.out _ _ HR3.out.2.1 (undrew hbl)); clear hbl hF5)
   clear s2 s3
   rcases hx2 with rfl | rfl
   ·go_wp2_with fail
    obtain ⟨e1, e2, e3, e4, e5, e6, e7, ⟨e9, e8⟩, hv1, hb1, hce, hlast, hoo⟩ := HR1.out
    obtain ⟨hF3, hV3, hbx3, hmm, hmo, hvf', CLf⟩ := HR2.out
    have hrest : rest = [] := by
     rcases hlast with ⟨q, _⟩ | ⟨q, _⟩
     ·exact q
     ·have := HX3.out; omega
    rw [hrest] at e4
    rw [HR.out]
    refine ⟨_, vf', vo', rfl, ?_, HF5.out.1, ?_⟩
    ·have := HW4.out.1.below HF5.out.2.1
     have hl : ((t.kids.length : Nat) : Int) = (done.length : Int) + 1 := by rw [e4]; simp
     rw [hl]
     exact this
    ·rw [e4]
     exact CLf w5 (HW4.out.2.trans (Fr.of HF5.out.2.1))
   ·go_wp2_with fail
    obtain ⟨e1, e2, e3, e4, e5, e6, e7, ⟨e9, e8⟩, hv1, hb1, hce, hlast, hoo⟩ := HR1.out
    obtain ⟨hF3, hV3, hbx3, hmm, hmo, hvf', CLf⟩ := HR2.out
    obtain ⟨h4, h5, hd2, h7, h8⟩ := HR3.out
    rcases hlast with ⟨_, q⟩ | ⟨_, a', hb', hels⟩
    ·have := HX3.out; omega
    go_roundg (gk - 1)
    case measure => simp at e1; omega
    case rel =>
     refine ⟨p + oo + d2 + 1, by go_num, ⟨a', done ++ [el], rest, vf', vo', by simp at e1; omega, by rw [show lo + i + (p + oo + d2 + 1) = c + 1 by omega]; exact hb', hels, by rw [e4, List.append_assoc]; rfl, ?_, HF5.out.1, by simp; omega, hvf', CLf w5 (HW4.out.2.trans (Fr.of HF5.out.2.1))⟩, ⟨HF5.out.2.2⟩⟩
     have := HW4.out.1.below HF5.out.2.1
     have hl : (((done ++ [el]).length : Nat) : Int) = (done.length : Int) + 1 := by simp
     rw [hl]
     exact this
theorem utf8_lt {c : Nat} (h : c < 1114112) : ∀ x ∈ utf8 c, x < 256 := by
 intro x hx
 unfold utf8 at hx
 by_cases h1 : c < 128
 ·rw [if_pos h1] at hx; simp at hx; omega
 ·rw [if_neg h1] at hx
  by_cases h2 : c < 2048
  ·rw [if_pos h2] at hx; simp at hx; omega
  ·rw [if_neg h2] at hx
   by_cases h3 : high c ∨ low c
   ·rw [if_pos h3] at hx; simp at hx; omega
   ·rw [if_neg h3] at hx
    by_cases h4 : c < 65536
    ·rw [if_pos h4] at hx; simp at hx; omega
    ·rw [if_neg h4] at hx; simp at hx; omega
theorem shortv_lt {c : Nat} (h : c < 256) : shortv c < 256 := by
 unfold shortv
 repeat (split; omega)
 exact h
theorem dec_lt (s : ByteArray) (z : Nat) : ∀ f a, ∀ x ∈ dec s z f a, x < 256
 | 0, a, x, hx => by simp [dec] at hx
 | f + 1, a, x, hx => by
  unfold dec at hx
  by_cases h1 : z ≤ a
  ·rw [if_pos h1] at hx; simp at hx
  ·rw [if_neg h1] at hx
   by_cases h2 : bn s a ≠ 92
   ·rw [if_pos h2] at hx
    rcases List.mem_cons.1 hx with rfl | hx
    ·exact bn_lt _ _
    ·exact dec_lt s z f _ x hx
   ·rw [if_neg h2] at hx
    by_cases h3 : unitAt s a z
    ·rw [if_pos h3] at hx
     have hc := code_lt h3
     by_cases h4 : pairAt s a z
     ·rw [if_pos h4] at hx
      have h5 := h4.2.1
      have h6 := h4.2.2
      unfold high at h5
      unfold low at h6
      rcases List.mem_append.1 hx with hx | hx
      ·exact utf8_lt (by omega) x hx
      ·exact dec_lt s z f _ x hx
     ·rw [if_neg h4] at hx
      rcases List.mem_append.1 hx with hx | hx
      ·exact utf8_lt (by omega) x hx
      ·exact dec_lt s z f _ x hx
    ·rw [if_neg h3] at hx
     rcases List.mem_cons.1 hx with rfl | hx
     ·exact shortv_lt (bn_lt _ _)
     ·exact dec_lt s z f _ x hx
def strOf (xs : List Nat) : ByteArray := strOfNums (xs.map fun x : Nat => (x : Int))
theorem strOf_size (xs : List Nat) : (strOf xs).size = xs.length := by
 unfold strOf strOfNums
 show Array.size _ = _
 simp
theorem strOf_data (xs : List Nat) : (strOf xs).data = (xs.map fun x : Nat => UInt8.ofNat x).toArray := by
 unfold strOf strOfNums
 rw [List.map_map]; rfl
theorem strOf_bn {xs : List Nat} (h : ∀ x ∈ xs, x < 256) {i : Nat} (hi : i < xs.length) : bn (strOf xs) i = xs[i] := by
 have e : (strOf xs).size = xs.length := strOf_size xs
 unfold bn bt
 rw [dif_pos (show ((i : Int)).toNat < (strOf xs).size by rw [e]; exact hi)]
 have hx := h xs[i] (List.getElem_mem hi)
 show ((((strOf xs).data[((i : Int)).toNat]'(by show _ < (strOf xs).size; rw [e]; exact hi)).toNat : Int)).toNat = xs[i]
 simp only [strOf_data]
 simp
 exact Nat.mod_eq_of_lt (by omega)
theorem kb_len (k : ByteArray) : (kb k).length = k.size := by simp [kb]
theorem kb_at (k : ByteArray) {i : Nat} (h : i < k.size) : (kb k)[i]? = some (bn k i) := by
 unfold kb; rw [List.getElem?_map, List.getElem?_range h]; rfl
theorem kb_strOf {xs : List Nat} (h : ∀ x ∈ xs, x < 256) : kb (strOf xs) = xs := by
 apply List.ext_getElem?
 intro i
 by_cases hi : i < xs.length
 ·rw [kb_at _ (by rw [strOf_size]; exact hi), strOf_bn h hi, List.getElem?_eq_getElem hi]
 ·rw [List.getElem?_eq_none (by rw [kb_len, strOf_size]; omega), List.getElem?_eq_none (by omega)]
theorem bn_ext {a b : ByteArray} (hs : a.size = b.size) (h : ∀ k : Nat, k < a.size → bn a k = bn b k) : a = b := by
 apply ByteArray.ext_getElem hs
 intro i h1 h2
 have h3 := h i h1
 unfold bn bt at h3
 rw [dif_pos (show ((i : Int)).toNat < a.size from h1), dif_pos (show ((i : Int)).toNat < b.size from h2)] at h3
 have h4 : (a[i]).toNat = (b[i]).toNat := by simpa using h3
 exact UInt8.toNat_inj.mp h4
theorem kb_inj {a b : ByteArray} (h : kb a = kb b) : a = b := by
 have hl : a.size = b.size := by rw [← kb_len a, ← kb_len b, h]
 refine bn_ext hl (fun k hk => ?_)
 have := congrArg (·[k]?) h
 rw [kb_at _ hk, kb_at _ (by omega)] at this
 exact Option.some.inj this
theorem Lst.conv {w : World} {A : Option Addr} {xs : List Nat} {c : Nat} (h : Lst w A xs) : (convert 43 9 (.slice A xs.length c)).run Tryz.prog w = .ok (.string (strOf xs)) w := by
 refine string_of_reads Tryz.underlying43 Tryz.underlying5 Tryz.underlying9 ⟨by simp, by have := h.1; omega, fun hn => ?_⟩
 obtain ⟨g, o, e, hg, hc⟩ := h.2 hn
 refine ⟨_, e, fun j hj => ?_⟩
 have e2 : (⟨g, o, none⟩ : Addr).add j = ⟨g, o + j, none⟩ := by
  unfold Addr.add
  by_cases h0 : j = 0
  ·rw [if_pos h0, h0]; rfl
  ·rw [if_neg h0]
 rw [e2, hc j xs[j] (List.getElem?_eq_getElem hj)]
 congr 2
 rw [List.getD, List.getElem?_map, List.getElem?_eq_getElem hj]; rfl
set_option maxRecDepth 100000 in
theorem equalStr_calls {w : World} {gk : Nat} {t : TypeId} {A : Option Addr} {xs : List Nat} {c : Nat} {k : ByteArray} {b : Bool} (hg : w.heap[gk]? = some (.cells #[.slice A xs.length c] t (0, 0))) (h : Lst w A xs) (hx : ∀ x ∈ xs, x < 256) (hb : b = decide (xs = kb k)) :
  Calls Tryz.prog 66 #[.pointer (some ⟨gk, 0, none⟩), .string k] w fun e w' => e = .returned (.bool b) ∧ w' = w := by
 have hcv := h.conv (c := c)
 have c0 := (blk_cell hg 0).trans rfl
 have HX := az hx
 obtain ⟨S, hS⟩ : ∃ S, S = strOf xs := ⟨_, rfl⟩
 rw [← hS] at hcv
 by_cases e : xs = kb k
 ·have e2 : S = k := by rw [hS]; exact kb_inj (by rw [kb_strOf hx, e])
  subst e2
  have hb' : b = true := by rw [hb]; exact decide_eq_true e
  subst hb'
  clear hS hb e h hg hx
  go_enter Tryz.func66, Tryz.ntmps66
  go_wp2_with fail
  go_ret
  exact ⟨by simp, rfl⟩
 ·have e2 : ¬ S = k := by
   intro e2
   exact e (by rw [← e2, hS, kb_strOf hx])
  have hb' : b = false := by rw [hb]; exact decide_eq_false e
  subst hb'
  have e3 : (S.toList == k.toList) = false := beq_eq_false_iff_ne.2 (fun h => e2 (ByteArray.ext (Array.toList_inj.1 (by rw [ByteArray.toList_eq, ByteArray.toList_eq] at h; exact h))))
  clear hS hb e h hg hx
  go_enter Tryz.func66, Tryz.ntmps66
  go_wp2_with fail
  go_ret
  exact ⟨rfl, rfl⟩
theorem Els.lo {s : ByteArray} {a e : Nat} {kids : List JT} {j : Nat} {el : JT} : Els s a e kids → kids[j]? = some el → a ≤ el.b
 | .last t c h1 h2 h3 h4, hj => by
  match j, hj with
  | 0, hj => simp at hj; subst hj; exact Nat.le_refl _
 | .more t c a e r h1 h2 h3 h4 h5 h6, hj => by
  have hb := h2.1
  have hb5 := h5.1
  have hv := V.le h1
  match j, hj with
  | 0, hj => simp at hj; subst hj; exact Nat.le_refl _
  | j + 1, hj => have := Els.lo h6 (by simpa using hj); omega
theorem V.kidLo {s : ByteArray} {t kid : JT} {j : Nat} (h : V s t) (hk : t.kind = 5) (hj : t.kids[j]? = some kid) : t.b ≤ kid.b := by
 cases h with
 | word k0 b e h => cases hj
 | num b e h => cases hj
 | str b e h => cases hj
 | arr0 b c h1 h2 h3 h4 => cases hj
 | arr b a e kids h1 h2 h3 => have := Els.lo h3 hj; have := h2.1; show b ≤ _; omega
 | obj0 b c h1 h2 h3 h4 => cases hk
 | obj b a e ns kids h1 h2 h3 => cases hk
mutual
theorem Srch.le {s : ByteArray} {ks : List ByteArray} {lo hi R : Nat} : Srch s ks lo hi R → lo ≤ R
 | .nil _ _ => Nat.le_refl _
 | .go _ _ _ _ _ _ h => SC.le h
theorem SC.le {s : ByteArray} {ks : List ByteArray} {hi R n i L K : Nat} {m : Bool} : SC s ks hi R n i L K m → i ≤ R
 | .one _ _ _ _ _ _ _ _ _ _ _ _ _ _ h => by have := SC.le h; omega
 | .val _ _ _ _ _ e p _ _ _ h1 h2 _ _ _ h => by have := SC.le h; have := h1.2.1; have := h2.1; omega
 | .no _ _ _ _ _ e p _ _ _ _ h1 h2 _ _ _ _ h => by have := SC.le h; have := h1.2.1; have := h2.1; omega
 | .yes _ _ _ _ _ e p _ _ _ h1 h2 _ _ _ _ _ h => by have := SC.le h; have := h1.2.1; have := h2.1; omega
 | .fin _ _ _ e p _ _ _ h1 h2 _ _ _ _ _ => by have := h1.2.1; have := h2.1; omega
 | .opn _ _ _ _ _ _ _ _ _ h => by have := SC.le h; omega
 | .skipO _ _ _ _ _ _ _ _ _ _ _ h _ _ k => by have := SC.le k; omega
 | .skipA _ _ _ _ _ _ _ _ _ _ _ _ _ h _ _ k => by have := SC.le k; omega
 | .idx _ _ _ _ _ _ _ t el hv hk _ _ _ hkid h => by have := Srch.le h; have := V.kidLo hv hk hkid; omega
end
end JS
end Go.Proofs.YtbimfhaokgigkaaGreatDoor
