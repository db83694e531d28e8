/- Walks of functions of FnJpGetFloat (X5, X6); conditions stand ahead of each theorem. -/
import Derived.Test.YtbimfhaokgigkaaGreatDoorT26
set_option maxRecDepth 100000
set_option maxHeartbeats 4000000
namespace Go.Proofs.YtbimfhaokgigkaaGreatDoor
open Go.RowKit Go.Proofs.YtbimfhaokgigkaaGreatDoorW.PrintWords Go.Proofs.YtbimfhaokgigkaaGreatDoorW.PrintLast
namespace JS
theorem numb_dlm {c : Nat} (h : numb c) : ¬ dlm c := by unfold numb at h; unfold dlm; omega
theorem getType_num {w : World} {s : ByteArray} {lo n cp p e : Nat} {A : Option Addr} (h : Dat w s lo n A) (hn : n ≤ cp) (he : e ≤ lo + n) (hs : Num s (lo + p) e) (hd : DelimIn s (lo + n) e) :
  Calls Tryz.prog 60 #[.agg #[.bool false, .bool false, .int .i64 0], .slice A n cp, .int .i64 (p : Int)] w (TyPost w s lo (lo + p) e 3) := by
 refine byR fun R hR => ?_
 have HR := az hR
 have hsz : (n : Int) ≤ 65536 := by have := h.1; have := h.2.1; omega
 obtain ⟨x1, x2, x3, x4⟩ := hs
 obtain ⟨d, rfl⟩ : ∃ d, e = lo + p + d := ⟨e - (lo + p), by omega⟩
 have hpn : p < n := by omega
 have hpn6 : (p : Int) < (n : Int) := by omega
 have hD := h.alloc (.cells #[.bool false, .bool false, .int .i64 0] 93)
 obtain ⟨g, o, rfl, hc⟩ := hD.at_ hpn
 have hDc := hD.cutS (k := p) hpn
 have HDc := az hD
 obtain ⟨c0, hc0⟩ : ∃ c0, c0 = bn s (lo + p) := ⟨_, rfl⟩
 rw [← hc0] at hc
 have hcs : c0 = 45 ∨ c0 = 48 ∨ c0 = 49 ∨ c0 = 50 ∨ c0 = 51 ∨ c0 = 52 ∨ c0 = 53 ∨ c0 = 54 ∨ c0 = 55 ∨ c0 = 56 ∨ c0 = 57 := by
  rw [← hc0] at x3
  unfold digit at x3
  omega
 have CT := az (tokEnd_calls (c := cp - p) (d := d) hDc (by omega) (fun k hk => numb_dlm (x4 _ (by omega) (by omega))) (fun hk => hd (by omega)))
 have HS := az3 hn he x1
 have hcp : ¬ cp = p := by omega
 have hcp1 : (p : Int) ≤ (cp : Int) := by omega
 have hnc : (n : Int) ≤ (cp : Int) := by omega
 have hj1 : (p : Int) ≤ (n : Int) := by omega
 have hd6 : (d : Int) ≤ 65536 := by omega
 have hd7 : (p : Int) + (d : Int) ≤ (n : Int) := by omega
 have hd8 : (p : Int) + (d : Int) ≤ (cp : Int) := by omega
 clear hR h hn he x1 x2 x3 x4 hD hDc hc0 hd
 rcases hcs with rfl | rfl | rfl | rfl | rfl | rfl | rfl | rfl | rfl | rfl | rfl
 all_goals
  go_enter Tryz.func60, Tryz.ntmps60
  go_wp2_with (go_at_call 71; (with_reducible refine CT.out.mono ?_); rintro e w1 ⟨rfl, hbl⟩; have HB1 := az hbl; have hc1 := (hbl.cell (World.block_lt_of_cell? _ _ hc)).trans hc; clear hbl)
  refine bodyPost_ret (res4 rfl _ _ _) rfl ?_
  rw [HR.out]
  obtain ⟨q1, q2, q3⟩ := HS.out
  exact ty_fin (g := g) (o := o) rfl HDc.out HB1.out q1 q2 q3 (by omega) (by omega) rfl
theorem Dat.reads {w : World} {s : ByteArray} {lo n : Nat} {A : Option Addr} (h : Dat w s lo n A) : ReadsInt w .u8 A n ((List.range n).map fun k => (bn s (lo + k) : Int)) := by
 refine ⟨by simp, by have := h.1; have := h.2.1; omega, fun hn => ?_⟩
 obtain ⟨g, o, e, hg, hc⟩ := h.2.2 hn
 refine ⟨_, e, fun j hj => ?_⟩
 have e2 : (⟨g, o, none⟩ : Addr).add j = ⟨g, o + j, none⟩ := by
  unfold Addr.add
  by_cases h0 : j = 0
  ·rw [if_pos h0, h0]; rfl
  ·rw [if_neg h0]
 rw [e2, hc j hj]
 congr 2
 rw [List.getD, List.getElem?_map, List.getElem?_range hj]; rfl
theorem Dat.conv {w : World} {s : ByteArray} {lo n c : Nat} {A : Option Addr} (h : Dat w s lo n A) : (convert 43 9 (.slice A n c)).run Tryz.prog w = .ok (.string (strOfNums ((List.range n).map fun k => (bn s (lo + k) : Int)))) w :=
 string_of_reads Tryz.underlying43 Tryz.underlying5 Tryz.underlying9 h.reads
def wordStr (k : Nat) : ByteArray := if k = 0 then ⟨#[110, 117, 108, 108]⟩ else if k = 1 then ⟨#[102, 97, 108, 115, 101]⟩ else ⟨#[116, 114, 117, 101]⟩
theorem word_str {s : ByteArray} {k b e : Nat} (h : Word s k b e) : strOfNums ((List.range (word k).length).map fun i => (bn s (b + i) : Int)) = wordStr k := by
 obtain ⟨h1, h2, h3, h4⟩ := h
 have e1 : ((List.range (word k).length).map fun i => (bn s (b + i) : Int)) = (word k).map (fun x : Nat => (x : Int)) := by
  apply List.ext_getElem (by simp)
  intro i h5 h6
  simp only [List.getElem_map, List.getElem_range]
  rw [h4 i (by simpa using h6), List.getD, List.getElem?_eq_getElem (by simpa using h6)]; rfl
 rw [e1]
 have : k = 0 ∨ k = 1 ∨ k = 2 := by omega
 rcases this with rfl | rfl | rfl <;> decide
theorem getType_word {w : World} {s : ByteArray} {lo n cp p e k : Nat} {A : Option Addr} (h : Dat w s lo n A) (hn : n ≤ cp) (he : e ≤ lo + n) (hs : Word s k (lo + p) e) (hd : DelimIn s (lo + n) e) :
  Calls Tryz.prog 60 #[.agg #[.bool false, .bool false, .int .i64 0], .slice A n cp, .int .i64 (p : Int)] w (TyPost w s lo (lo + p) e k) := by
 refine byR fun R hR => ?_
 have HR := az hR
 have hsz : (n : Int) ≤ 65536 := by have := h.1; have := h.2.1; omega
 have hstr := word_str hs
 obtain ⟨x1, x2, x3, x4⟩ := hs
 have hwl := word_len k
 have hwd := x4
 obtain ⟨d, hd0⟩ : ∃ d, d = (word k).length := ⟨_, rfl⟩
 obtain ⟨c0, hc0⟩ : ∃ c0, c0 = (word k).getD 0 0 := ⟨_, rfl⟩
 obtain ⟨W, hW⟩ : ∃ W, W = wordStr k := ⟨_, rfl⟩
 have h3 : (k = 0 ∧ d = 4 ∧ c0 = 110 ∧ W = ⟨#[110, 117, 108, 108]⟩) ∨ (k = 1 ∧ d = 5 ∧ c0 = 102 ∧ W = ⟨#[102, 97, 108, 115, 101]⟩) ∨ (k = 2 ∧ d = 4 ∧ c0 = 116 ∧ W = ⟨#[116, 114, 117, 101]⟩) := by
  have : k = 0 ∨ k = 1 ∨ k = 2 := by omega
  rcases this with rfl | rfl | rfl
  ·exact .inl ⟨rfl, hd0, hc0, hW⟩
  ·exact .inr (.inl ⟨rfl, hd0, hc0, hW⟩)
  ·exact .inr (.inr ⟨rfl, hd0, hc0, hW⟩)
 have hfirst := x4 0 (by omega)
 rw [Nat.add_zero, ← hc0] at hfirst
 rw [← hd0] at x2 hstr hwl x4
 rw [← hW] at hstr
 have hD := h.alloc (.cells #[.bool false, .bool false, .int .i64 0] 93)
 have hpn : p < n := by omega
 have hpn6 : (p : Int) < (n : Int) := by omega
 obtain ⟨g, o, rfl, hc⟩ := hD.at_ hpn
 have hDc := hD.cutS (k := p) hpn
 have CT := az (tokEnd_calls (c := cp - p) (d := d) hDc (by omega) (fun i hi => by have := x4 i hi; have := word_get k x1 i (by omega); unfold dlm; omega) (fun hk => by rw [← x2]; exact hd (by omega)))
 rw [hfirst] at hc
 have HS := az4 hn he hpn hD
 subst x2
 have hcp : ¬ cp = p := by omega
 have hcp1 : (p : Int) ≤ (cp : Int) := by omega
 have hnc : (n : Int) ≤ (cp : Int) := by omega
 have hj1 : (p : Int) ≤ (n : Int) := by omega
 have hd7 : (p : Int) + (d : Int) ≤ (n : Int) := by omega
 have hd8 : (p : Int) + (d : Int) ≤ (cp : Int) := by omega
 have HCV : Aside0 (∀ w1 : World, Below (w.alloc (.cells #[.bool false, .bool false, .int .i64 0] 93)).heap.size (w.alloc (.cells #[.bool false, .bool false, .int .i64 0] 93)) w1 → (convert 43 9 (.slice (some ⟨g, o + p, none⟩) d (cp - p))).run Tryz.prog w1 = .ok (.string W) w1) := ⟨fun w1 hb => by
  rw [← hstr]
  exact ((hDc.front (m := d) (by omega)).below hb).conv⟩
 have HE := az (show lo + p < lo + p + d by omega)
 clear hR h hn he x1 x4 hD hDc hd hfirst hstr hwl hwd hd0 hc0 hW
 rcases h3 with ⟨rfl, rfl, rfl, rfl⟩ | ⟨rfl, rfl, rfl, rfl⟩ | ⟨rfl, rfl, rfl, rfl⟩
 all_goals
  go_enter Tryz.func60, Tryz.ntmps60
  go_wp2_with (go_at_call 71; (with_reducible refine CT.out.mono ?_); rintro e w1 ⟨rfl, hbl⟩; have HB1 := az hbl; have hc1 := (hbl.cell (World.block_lt_of_cell? _ _ hc)).trans hc; have hv1 := HCV.out _ hbl; clear hbl)
  refine bodyPost_ret (res4 rfl _ _ _) rfl ?_
  rw [HR.out]
  obtain ⟨q1, q2, q3, q4⟩ := HS.out
  exact ty_fin (g := g) (o := o) rfl q4 HB1.out q1 q2 HE.out (by omega) (by omega) rfl
theorem getType_any {w : World} {s : ByteArray} {lo n cp p : Nat} {A : Option Addr} {t : JT} (h : Dat w s lo n A) (hn : n ≤ cp) (hv : V s t) (hb : t.b = lo + p) (he : t.e ≤ lo + n) (hd : DelimIn s (lo + n) t.e) :
  Calls Tryz.prog 60 #[.agg #[.bool false, .bool false, .int .i64 0], .slice A n cp, .int .i64 (p : Int)] w (TyPost w s lo (lo + p) t.e t.kind) := by
 cases hv with
 | word k b e hw => obtain rfl : b = lo + p := hb; have := getType_word h hn he hw hd; exact this
 | num b e hw => obtain rfl : b = lo + p := hb; exact getType_num h hn he hw hd
 | str b e hw => obtain rfl : b = lo + p := hb; exact getType_str h hn he hw
 | arr0 b c h1 h2 h3 h4 => exact getType_blk h hn (V.arr0 b c h1 h2 h3 h4) (.inl rfl) hb he
 | arr b a e kids h1 h2 h3 => exact getType_blk h hn (V.arr b a e kids h1 h2 h3) (.inl rfl) hb he
 | obj0 b c h1 h2 h3 h4 => exact getType_blk h hn (V.obj0 b c h1 h2 h3 h4) (.inr rfl) hb he
 | obj b a e ns kids h1 h2 h3 => exact getType_blk h hn (V.obj b a e ns kids h1 h2 h3) (.inr rfl) hb he
theorem V.noblank {s : ByteArray} {t : JT} (h : V s t) : ¬ blank (bn s t.b) := by
 cases h with
 | word k b e h =>
  obtain ⟨h1, h2, h3, h4⟩ := h
  have hl := word_len k
  have e1 := h4 0 (by omega)
  have e2 := word_get k h1 0 (by omega)
  rw [Nat.add_zero] at e1
  show ¬ blank (bn s b)
  unfold blank
  omega
 | num b e h => obtain ⟨_, _, h, _⟩ := h; show ¬ blank (bn s b); unfold digit at h; unfold blank; omega
 | str b e h => obtain ⟨h, _⟩ := h; show ¬ blank (bn s b); unfold blank; omega
 | arr0 b c h1 _ _ _ => show ¬ blank (bn s b); unfold blank; omega
 | arr b a e kids h1 _ _ => show ¬ blank (bn s b); unfold blank; omega
 | obj0 b c h1 _ _ _ => show ¬ blank (bn s b); unfold blank; omega
 | obj b a e ns kids h1 _ _ => show ¬ blank (bn s b); unfold blank; omega
def inB (t : JT) : Nat := if t.kind = 4 then t.b + 1 else t.b
def inL (t : JT) : Nat := if t.kind = 4 then t.e - t.b - 2 else t.e - t.b
theorem jk_str (k : Nat) : jk k = 1 ↔ k = 4 := by
 unfold jk
 by_cases h0 : k = 0
 ·simp [h0]
 ·rw [if_neg h0]
  by_cases h1 : k ≤ 2
  ·rw [if_pos h1]; omega
  ·rw [if_neg h1]
   by_cases h2 : k = 3
   ·simp [h2]
   ·rw [if_neg h2]
    by_cases h3 : k = 4
    ·simp [h3]
    ·rw [if_neg h3]; by_cases h4 : k = 5
     ·simp [h4]
     ·rw [if_neg h4]; omega
def GetPost (w : World) (s : ByteArray) (lo : Nat) (t : JT) (x : Ending) (w' : World) : Prop :=
 ∃ (A : Option Addr) (c : Nat), x = .returned (.tuple #[.slice A (inL t) c, .int .i64 (jk t.kind : Int), .int .i64 ((t.b - lo : Nat) : Int), .int .i64 ((t.e - lo : Nat) : Int), .nilIface]) ∧ Dat w' s (inB t) (inL t) A ∧ inL t ≤ c ∧ Below w.heap.size w w'
theorem getCfg_calls {w : World} {s : ByteArray} {lo n cp r nk ck : Nat} {A K : Option Addr} {t : JT} (h : Dat w s lo n A) (hn : n ≤ cp) (hv : V s t) (hb : Blanks s (lo + r) t.b) (he : t.e ≤ lo + n) (hd : DelimIn s (lo + n) t.e)
  (hk : (nk = 0 ∧ r = 0) ∨ (0 < nk ∧ ∀ W, Below w.heap.size w W → Calls Tryz.prog 58 #[.agg #[.bool false, .bool false, .int .i64 0], .slice A n cp, .slice K nk ck] W (NumPost W (r : Int)))) :
  Calls Tryz.prog 48 #[.agg #[.bool false, .bool false, .int .i64 0], .slice A n cp, .slice K nk ck] w (GetPost w s lo t) := by
 refine byR fun R hR => ?_
 have HR := az hR
 have hsz : (n : Int) ≤ 65536 := by have := h.1; have := h.2.1; omega
 have hle := V.le hv
 have hbl := hb.1
 have hrn : r < n := by omega
 have hD := h.alloc (.cells #[.bool false, .bool false, .int .i64 0] 93)
 obtain ⟨g, o, rfl, _⟩ := hD.at_ hrn
 obtain ⟨p, hp⟩ : ∃ p, t.b = lo + p := ⟨t.b - lo, by omega⟩
 have HD := az hD
 have HX := az7 hn hv hb he hd hp hle
 have hcp : ¬ cp = r := by omega
 have hcp1 : (r : Int) ≤ (cp : Int) := by omega
 have hnc : (n : Int) ≤ (cp : Int) := by omega
 have hj1 : (r : Int) ≤ (n : Int) := by omega
 have hr6 : (r : Int) ≤ 65536 := by omega
 have HC : Aside0 (∀ w', Below (w.heap.size + 1) (w.alloc (.cells #[.bool false, .bool false, .int .i64 0] 93)) w' → Dat w' s lo n (some ⟨g, o, none⟩)) := ⟨fun w' hb => HD.out.below (hb.mono (by simp))⟩
 clear hR h hn hb he hd hp hle hbl hD hrn hv
 go_enter Tryz.func48, Tryz.ntmps48
 go_upto_if 14 with fail
 go_cut [8] (fun v8 w' => v8 = .int .i64 (r : Int) ∧ Aside0 (Below (w.heap.size + 1) (w.alloc (.cells #[.bool false, .bool false, .int .i64 0] 93)) w'))
 case first =>
  rcases hk with ⟨rfl, rfl⟩ | ⟨hk0, hs⟩
  ·go_wp2_with fail
   go_meet
   exact ⟨rfl, ⟨Below.refl _ _⟩⟩
  ·have t0 : decide ((0 : Int) < (nk : Int)) = true := dT
   have t0n : decide (0 < nk) = true := decide_eq_true hk0
   have t1 : ((r : Int) == -1) = false := beqF
   have HS := az hs
   clear hs
   go_wp2_with (go_at_call 58; refine Calls.mono (HS.out _ ?_) ?_; exact (Below.refl _ _).alloc (Nat.le_refl _) _; rintro e w1 ⟨rfl, hbl⟩; have HB1 := az hbl; clear hbl)
   go_meet
   exact ⟨rfl, ⟨HB1.out.mono (by simp)⟩⟩
 case rest =>
  obtain ⟨rfl, hw⟩ := hcut
  have hb := box_at hw.out
  have hb0 := (blk_cell hb 0).trans rfl
  have hb1 := (blk_cell hb 1).trans rfl
  have hb2 := (blk_cell hb 2).trans rfl
  clear hb hk
  obtain ⟨q1, q2, q3, q4, q5, q6, q7, q8⟩ := HX.out
  have hnr : n - r ≤ cp - r := by omega
  have CN : Aside0 (∀ W : World, Below (w.heap.size + 1) (w.alloc (.cells #[.bool false, .bool false, .int .i64 0] 93)) W → Calls Tryz.prog 59 #[.agg #[.bool false, .bool false, .int .i64 0], .slice (some ⟨g, o + r, none⟩) (n - r) (cp - r)] W (NumPost W ((p - r : Nat) : Int))) := ⟨fun W hW => by
   have hbl := q3.1
   have e : p - r = t.b - (lo + r) := by omega
   rw [e]
   exact next_calls ((HC.out W hW).cutS (by omega)) hnr q3 (by omega) (V.noblank q2)⟩
  have CG : Aside0 (∀ W : World, Below (w.heap.size + 1) (w.alloc (.cells #[.bool false, .bool false, .int .i64 0] 93)) W → Calls Tryz.prog 60 #[.agg #[.bool false, .bool false, .int .i64 0], .slice (some ⟨g, o, none⟩) n cp, .int .i64 (p : Int)] W (TyPost W s lo (lo + p) t.e t.kind)) := ⟨fun W hW => getType_any (HC.out W hW) q1 q2 q6 q4 q5⟩
  obtain ⟨d, rfl⟩ : ∃ d, p = r + d := ⟨p - r, by have := q3.1; omega⟩
  have hd6 : (d : Int) ≤ 65536 := by omega
  rw [Nat.add_sub_cancel_left] at CN
  simp only [Int.natCast_add] at CG
  have t1 : ((d : Int) == -1) = false := beqF
  clear q1 q2 q3 q4 q5 q6 q7 q8 hnr
  go_wp2_with fail
  go_region_with (go_at_call 59; refine Calls.mono (CN.out _ ?_) ?_; exact ⟨hw.out.os, hw.out.tape, hw.out.output, hw.out.size, hw.out.block⟩; rintro e w1 ⟨rfl, hbl⟩; have HB1 : Aside0 (Below (w.heap.size + 1) (w.alloc (.cells #[.bool false, .bool false, .int .i64 0] 93)) w1) := ⟨hw.out.trans (undrew (hbl.mono (Nat.le_trans (by simp) hw.out.size)))⟩; have hb := box_at HB1.out; have hb3 := (blk_cell hb 0).trans rfl; have hb4 := (blk_cell hb 1).trans rfl; have hb5 := (blk_cell hb 2).trans rfl; clear hb hbl)
  go_wp2_with fail
  refine Calls.mono (CG.out w1 HB1.out) ?_
  rintro e w2 ⟨A2, c2, rfl, hD2, hc2, hbl2⟩
  have HB2 := az (below1 _ (HB1.out.trans (hbl2.mono (Nat.le_trans (by simp) HB1.out.size))))
  obtain ⟨q1, q2, q3, q4, q5, q6, q7, q8⟩ := HX.out
  have e1 : t.b - lo = r + d := by omega
  have e2 : lo + (r + d) = t.b := q6.symm
  rw [e2] at hD2 hc2 ⊢
  obtain ⟨J, hJ⟩ : ∃ J, J = jk t.kind := ⟨_, rfl⟩
  rw [← hJ]
  by_cases h4 : t.kind = 4
  ·have hJ1 : J = 1 := by rw [hJ]; exact (jk_str _).2 h4
   have hlen : t.b + 2 ≤ t.e := by
    cases q2 with
    | str b e h => exact h.2.1
    | word k b e h => have : k = 4 := h4; have := h.1; omega
    | num b e h => cases h4
    | arr0 => cases h4
    | arr => cases h4
    | obj0 => cases h4
    | obj => cases h4
   obtain ⟨g2, o2, rfl, _⟩ := hD2.at_ (k := 1) (by omega)
   obtain ⟨L, hL⟩ : ∃ L, t.e - t.b = L + 2 := ⟨t.e - t.b - 2, by omega⟩
   rw [hL] at hD2 hc2 ⊢
   have HE := az5 (hD2.cutS (k := 1) (by omega)) hL h4 (hJ1.symm.trans hJ) e1
   have hcc : ¬ c2 = 1 := by omega
   have hcn : (L : Int) + 2 ≤ (c2 : Int) := by omega
   have hL6 : (L : Int) ≤ 65536 := by have := hD2.2.1; have := hD2.1; omega
   subst hJ1
   clear q1 q2 q3 q4 q5 q6 q7 q8 e1 e2 hJ h4 hlen hL hD2 hbl2
   go_wp2_with fail
   refine bodyPost_ret (res5 rfl _ _ _) rfl ?_
   rw [HR.out]
   obtain ⟨p1, p2, p3, p4, p5⟩ := HE.out
   have i1 : inB t = t.b + 1 := if_pos p3
   have i2 : inL t = L := by unfold inL; rw [if_pos p3, p2]; omega
   unfold GetPost
   rw [i1, i2, ← p4, p5]
   exact ⟨_, _, rfl, p1.front (by omega), Nat.le_refl _, HB2.out⟩
  ·have hJ1 : ((J : Int) == 1) = false := beqF (fun e => h4 ((jk_str _).1 (by omega)))
   have hJ1n : (J == 1) = false := beqFn (fun e => h4 ((jk_str _).1 (by omega)))
   obtain ⟨L, hL⟩ : ∃ L, L = t.e - t.b := ⟨_, rfl⟩
   rw [← hL] at hD2 hc2 ⊢
   have HE := az5 hD2 hL h4 hJ e1
   have hcn : (L : Int) ≤ (c2 : Int) := by omega
   have hL6 : (L : Int) ≤ 65536 := by have := hD2.2.1; have := hD2.1; omega
   clear q1 q2 q3 q4 q5 q6 q7 q8 e1 e2 hJ h4 hL hD2 hbl2
   go_wp2_with fail
   refine bodyPost_ret (res5 rfl _ _ _) rfl ?_
   rw [HR.out]
   obtain ⟨p1, p2, p3, p4, p5⟩ := HE.out
   have i1 : inB t = t.b := if_neg p3
   have i2 : inL t = L := by unfold inL; rw [if_neg p3, p2]
   unfold GetPost
   rw [i1, i2, ← p4, p5]
   exact ⟨_, _, rfl, p1, Nat.le_refl _, HB2.out⟩
def Get4 (w : World) (s : ByteArray) (lo : Nat) (t : JT) (x : Ending) (w' : World) : Prop :=
 ∃ (A : Option Addr) (c : Nat), x = .returned (.tuple #[.slice A (inL t) c, .int .i64 (jk t.kind : Int), .int .i64 ((t.e - lo : Nat) : Int), .nilIface]) ∧ Dat w' s (inB t) (inL t) A ∧ inL t ≤ c ∧ Below w.heap.size w w'
theorem cfgGet_calls {w : World} {s : ByteArray} {lo n cp : Nat} {A : Option Addr} {t : JT} (h : Dat w s lo n A) (hn : n ≤ cp) (hv : V s t) (hb : Blanks s lo t.b) (he : t.e ≤ lo + n) (hd : DelimIn s (lo + n) t.e) :
  Calls Tryz.prog 81 #[.agg #[.bool false, .bool false, .int .i64 0], .slice A n cp, .slice none 0 0] w (Get4 w s lo t) := by
 refine byR fun R hR => ?_
 have HR := az hR
 have CG := az (getCfg_calls (r := 0) (K := none) (nk := 0) (ck := 0) (h.alloc (.cells #[.bool false, .bool false, .int .i64 0] 93)) hn hv hb he hd (.inl ⟨rfl, rfl⟩))
 clear hR h hn hv hb he hd
 go_enter Tryz.func81, Tryz.ntmps81
 go_wp2_with (go_at_call 48; (with_reducible refine CG.out.mono ?_); rintro e w1 ⟨A1, c1, rfl, hD, hc, hbl⟩; have HE := az3 hD hc hbl; clear hD hc hbl)
 refine bodyPost_ret (res4 rfl _ _ _) rfl ?_
 rw [HR.out]
 exact ⟨A1, c1, rfl, HE.out.1, HE.out.2.1, below1 _ (HE.out.2.2.mono (by simp))⟩
theorem get_calls {w : World} {s : ByteArray} {n cp r nk ck : Nat} {A K : Option Addr} {t : JT} (h : Dat w s 0 n A) (hn : n ≤ cp) (hv : V s t) (hb : Blanks s r t.b) (he : t.e ≤ n) (hd : DelimIn s n t.e)
  (hcf : w.cell? ⟨3, 0, none⟩ = some (.bool false) ∧ w.cell? ⟨3, 1, none⟩ = some (.bool false) ∧ w.cell? ⟨3, 2, none⟩ = some (.int .i64 0))
  (hk : (nk = 0 ∧ r = 0) ∨ (0 < nk ∧ ∀ W, Below w.heap.size w W → Calls Tryz.prog 58 #[.agg #[.bool false, .bool false, .int .i64 0], .slice A n cp, .slice K nk ck] W (NumPost W (r : Int)))) :
  Calls Tryz.prog 20 #[.slice A n cp, .slice K nk ck] w (Get4 w s 0 t) := by
 refine byR fun R hR => ?_
 have HR := az hR
 have CG := az (getCfg_calls (lo := 0) h hn hv (by rwa [Nat.zero_add]) (by omega) (by rwa [Nat.zero_add]) hk)
 have CI : Aside0 (Calls Tryz.prog 36 #[.slice A n cp, .slice K nk ck] w (GetPost w s 0 t)) := ⟨by
  obtain ⟨R2, hR2⟩ : ∃ R : Ending → World → Prop, R = GetPost w s 0 t := ⟨_, rfl⟩
  rw [← hR2]
  have HR2 := az hR2
  obtain ⟨c0, c1, c2⟩ := hcf
  clear hR hR2 h hn hv hb he hd hk
  go_enter Tryz.func36, Tryz.ntmps36
  go_wp2_with (go_at_call 48; (with_reducible refine CG.out.mono ?_); rintro e w1 ⟨A1, c1, rfl, hD, hc, hbl⟩; have HE := az3 hD hc hbl; clear hD hc hbl)
  refine bodyPost_ret (res5 rfl _ _ _) rfl ?_
  rw [HR2.out]
  exact ⟨A1, _, rfl, HE.out.1, HE.out.2.1, HE.out.2.2⟩⟩
 clear hR h hn hv hb he hd hk hcf
 go_enter Tryz.func20, Tryz.ntmps20
 go_wp2_with (go_at_call 36; (with_reducible refine CI.out.mono ?_); rintro e w1 ⟨A1, c1, rfl, hD, hc, hbl⟩; have HE := az3 hD hc hbl; clear hD hc hbl)
 refine bodyPost_ret (res4 rfl _ _ _) rfl ?_
 rw [HR.out]
 exact ⟨A1, _, rfl, HE.out.1, HE.out.2.1, HE.out.2.2⟩
end JS
end Go.Proofs.YtbimfhaokgigkaaGreatDoor
