/- Walks of functions of FnJpGetFloat (Z1, Z2, Z3, Z4, Z5, Z6, Z7, Z8, Z9); conditions stand ahead of each theorem. -/
import Derived.Test.YtbimfhaokgigkaaGreatDoorT49
import Derived.Test.YtbimfhaokgigkaaGreatDoorT21
import Derived.Test.YtbimfhaokgigkaaGreatDoorT03
import Derived.Test.YtbimfhaokgigkaaGreatDoorT37
import Derived.Test.YtbimfhaokgigkaaGreatDoorT43
set_option linter.unusedVariables false
set_option linter.unusedSimpArgs false
set_option maxRecDepth 100000
set_option maxHeartbeats 8000000
namespace Go.Proofs.YtbimfhaokgigkaaGreatDoor
open Go.RowKit Go.Proofs.YtbimfhaokgigkaaGreatDoorW.PrintWords Go.Proofs.YtbimfhaokgigkaaGreatDoorW.PrintLast
structure REnv (n : Nat) (w : World) : Prop where
 a : AEnv n w
 r0 : 13 < n
 rv : ∃ ev, w.cell? ⟨13, 0, none⟩ = some ev ∧ (ev = .nilIface ∨ ∃ te pe, ev = .iface te pe)
theorem REnv.below {n : Nat} {w w' : World} (h : REnv n w) (hb : Below n w w') : REnv n w' := by
 have hc : ∀ b o, b < n → w'.cell? ⟨b, o, none⟩ = w.cell? ⟨b, o, none⟩ := fun b o hbn => hb.cell (p := ⟨b, o, none⟩) hbn
 obtain ⟨h1, h2, ⟨ev, h3, h4⟩⟩ := h
 exact ⟨h1.below hb, h2, ⟨ev, by rw [hc _ _ h2, h3], h4⟩⟩
theorem REnv.le {n : Nat} {w : World} (h : REnv n w) : n ≤ w.heap.size := h.a.f.le
def fbyte (s : ByteArray) (st k : Nat) : Nat := (bt s ((st + k : Nat) : Int)).toNat
def CutX (s : ByteArray) (neg : Bool) (W F : Nat) (x esg : Int) (N : Nat) : Rat := (FP.dnum 0 (ndig s (nst neg) W) (W + F) : Rat) * FP.p10 ((FP.ecl (nexp s x) N : Int) * esg - F)
section
variable {s : ByteArray} {neg : Bool} {W F : Nat} {x esg : Int} {N : Nat}
theorem nst_eq (neg : Bool) : (if neg = true then 1 else 0 : Nat) = nst neg := rfl
theorem fbyte_int {k : Nat} (st : Nat) : ((fbyte s st k : Nat) : Int) = bt s ((st + k : Nat) : Int) := by
 unfold fbyte
 have := bt_range s ((st + k : Nat) : Int)
 omega
theorem num_jnum (h : Num0 s neg W F x esg N) (hs : s.size ≤ 800) : JNum s neg W (fbyte s (nst neg)) F (fun k => fbyte s (nst neg) (W + 1 + k)) x esg N (nexp s x) := by
 have hst := nst_eq neg
 obtain ⟨h1, h2, h3, h4, h5, h6, h7⟩ := h
 rw [hst] at h3 h4 h5 h6 h7
 refine ⟨hs, fun e => ?_, h2, h3, fun k hk => (fbyte_int _).symm, fun k hk => ?_, fun hF => ⟨(h6 hF).1, (h6 hF).2.1, fun k hk => ?_, fun k hk => ?_⟩, ?_⟩
 ·rcases h1 with ⟨_, e1⟩ | ⟨e1, _⟩
  ·exact e1
  ·rw [e] at e1; cases e1
 ·have := h4 k hk; unfold fbyte; omega
 ·show _ = ((fbyte s (nst neg) (W + 1 + k) : Nat) : Int)
  rw [fbyte_int]
  congr 2
  omega
 ·have := (h6 hF).2.2 k hk
  show 48 ≤ fbyte s (nst neg) (W + 1 + k) ∧ fbyte s (nst neg) (W + 1 + k) ≤ 57
  unfold fbyte
  rw [show nst neg + (W + 1 + k) = nst neg + W + 1 + k by omega]
  omega
 ·unfold nq
  rcases h7 with h7 | ⟨a, q, b, c, d, e, f⟩
  ·exact .inl h7
  ·rw [← b]
   refine .inr ⟨c, d, a, e, fun k hk => ?_, fun k hk => ?_⟩
   ·have := f k hk
    unfold nexp
    omega
   ·have := f k hk
    unfold nexp
    omega
theorem num_whole (h : Num0 s neg W F x esg N) : FP.dnum (FP.dnum 0 (fbyte s (nst neg)) W) (fun k => fbyte s (nst neg) (W + 1 + k)) F = FP.dnum 0 (ndig s (nst neg) W) (W + F) := by
 rw [FP.dnum_split]
 have e1 : FP.dnum 0 (ndig s (nst neg) W) W = FP.dnum 0 (fbyte s (nst neg)) W := FP.dnum_same W (fun k hk => by unfold ndig fbyte; rw [if_pos hk])
 rw [e1]
 exact FP.dnum_same F (fun k hk => by
  show fbyte s (nst neg) (W + 1 + k) = ndig s (nst neg) W (W + k)
  unfold ndig fbyte
  rw [if_neg (by omega), show nst neg + (W + 1 + k) = nst neg + 1 + (W + k) by omega])
def frontLen (W F : Nat) : Nat := W + (if F = 0 then 0 else 1 + F)
theorem num_front (h : Num0 s neg W F x esg N) (hs : s.size ≤ 800) : Front s neg (nst neg : Int) (frontLen W F) (fbyte s (nst neg)) ∧ (∀ e : Int, FP.dval (FP.sds (fbyte s (nst neg)) (frontLen W F)) (Dp0 (FP.rst (fbyte s (nst neg)) (frontLen W F)) + e) = (FP.dnum 0 (ndig s (nst neg) W) (W + F) : Rat) * FP.p10 (e - F)) ∧
  (48 ≤ fbyte s (nst neg) 0 ∧ fbyte s (nst neg) 0 ≤ 57) ∧ ((N = 0 ∧ (nst neg : Int) + (frontLen W F : Nat) = s.size) ∨ Back s ((nst neg : Int) + (frontLen W F : Nat)) x esg N (nexp s x)) := by
 have hj := num_jnum h hs
 have hw := num_whole h
 have hst := nst_eq neg
 have hfr : ∀ k < F, 48 ≤ fbyte s (nst neg) (W + 1 + k) ∧ fbyte s (nst neg) (W + 1 + k) ≤ 57 := fun k hk => (hj.frac (by omega)).2.2.2 k hk
 have hd46 : F ≠ 0 → fbyte s (nst neg) W = 46 := fun hF => by
  have := (hj.frac hF).1
  have e := fbyte_int (s := s) (k := W) (nst neg)
  omega
 obtain ⟨M, hM⟩ : ∃ M, M = frontLen W F := ⟨_, rfl⟩
 have hM2 : M = W + (if F = 0 then 0 else 1 + F) := hM
 rw [← hM]
 have V := fun e => FP.val_front (g := fbyte s (nst neg)) (W := W) (F := F) (M := M) hj.one hj.kinds hd46 hfr hM2 e
 have hback : (N = 0 ∧ nst neg + M = s.size) ∨ Back s ((nst neg + M : Nat) : Int) x esg N (nexp s x) := by
  have := hj.back
  unfold nq at this
  rw [hM2, ← Nat.add_assoc]
  exact this
 have hMs : nst neg + M ≤ s.size := by
  rcases hback with ⟨_, e⟩ | hb
  ·omega
  ·have h1 := hb.fin
   have h2 := hb.one
   rcases hb.sgn with ⟨e, _⟩ | ⟨e, _⟩ | ⟨e, _⟩ <;> omega
 have h0 := hj.kinds 0 (by have := hj.one; omega)
 have hb0 : bt s ((nst neg : Nat) : Int) = (fbyte s (nst neg) 0 : Int) := by rw [fbyte_int, Nat.add_zero]
 have ec : ((nst neg + M : Nat) : Int) = (nst neg : Int) + (M : Int) := by omega
 have hone := hj.one
 refine ⟨⟨by omega, ?_, ?_, ?_, by omega, by omega, ?_, ?_, (V 0).2.2, (V 0).2.1, ?_, ?_⟩, ?_, h0, ?_⟩
 ·rcases h.sgn with ⟨e1, e2⟩ | ⟨e1, e2⟩
  ·rw [e1, e2]; rfl
  ·rw [e1]; symm; rw [beq_eq_false_iff_ne]; exact e2
 ·unfold nst; cases neg <;> rfl
 ·rw [beq_eq_false_iff_ne]
  rcases h.sgn with ⟨e1, e2⟩ | ⟨e1, e2⟩
  ·rw [e2]; decide
  ·rw [e1] at hb0 h0
   have e3 : bt s ((nst false : Nat) : Int) = bt s 0 := rfl
   rw [e3] at hb0
   intro e4
   rw [e4] at hb0
   omega
 ·intro j hj'
  have := fbyte_int (s := s) (k := j) (nst neg)
  rw [this]
  congr 1
 ·intro j hj'
  by_cases hjW : j < W
  ·exact .inr (hj.kinds j hjW)
  ·by_cases he : j = W
   ·rw [he]; exact .inl (hd46 (by intro e; rw [e, if_pos rfl] at hM2; omega))
   ·have hF : F ≠ 0 := by intro e; rw [e, if_pos rfl] at hM2; omega
    rw [if_neg hF] at hM2
    have := hfr (j - W - 1) (by omega)
    rw [show W + 1 + (j - W - 1) = j by omega] at this
    exact .inr this
 ·rcases hback with ⟨_, e⟩ | hb
  ·exact .inl (by omega)
  ·have h1 := hb.fin
   have h2 := hb.one
   have hl := hb.letter
   rw [ec] at hl
   refine .inr ⟨?_, hl⟩
   rcases hb.sgn with ⟨e, _⟩ | ⟨e, _⟩ | ⟨e, _⟩ <;> omega
 ·intro hz hlt
  have hW1 : W = 1 := by
   have := h.zero
   rw [hst] at this
   exact this hz
  by_cases hF : F = 0
  ·rw [hF, if_pos rfl] at hM2
   rcases hback with ⟨_, e⟩ | hb
   ·omega
   ·have hl := hb.letter
    rw [show ((nst neg + M : Nat) : Int) = (nst neg : Int) + 1 by omega] at hl
    omega
  ·have := (hj.frac hF).1
   rw [show ((nst neg + W : Nat) : Int) = (nst neg : Int) + 1 by omega] at this
   exact .inl this
 ·intro e
  have := (V e).1
  rw [hw] at this
  unfold Dp0
  exact this
 ·rw [ec] at hback
  rcases hback with ⟨a, b⟩ | hb
  ·exact .inl ⟨a, by omega⟩
  ·exact .inr hb
theorem num_pf (h : Num0 s neg W F x esg N) (hs : s.size ≤ 800) {n : Nat} {w : World} (hE : REnv n w) : Calls Tryz.prog 49 #[.string s, .int .i64 64] w (PfPost w neg (CutX s neg W F x esg N)) := by
 obtain ⟨hf, hv, h0, hb⟩ := num_front h hs
 obtain ⟨ev, r1, r2⟩ := hE.rv
 have r0 : 13 < w.heap.size := Nat.lt_of_lt_of_le hE.r0 hE.le
 rcases hb with ⟨hN, hend⟩ | hb
 ·have e : CutX s neg W F x esg N = FP.dval (FP.sds (fbyte s (nst neg)) (frontLen W F)) (Dp0 (FP.rst (fbyte s (nst neg)) (frontLen W F)) + 0) := by
   rw [hv 0]
   unfold CutX
   rw [hN]
   congr 2
   show ((0 : Nat) : Int) * esg - F = _
   omega
  rw [e]
  cases neg with
  | true => exact pf_calls (numIn_plain_true hf h0 hend) hE.a r0 r1 r2
  | false => exact pf_calls (numIn_plain_false hf h0 hend) hE.a r0 r1 r2
 ·have e : CutX s neg W F x esg N = FP.dval (FP.sds (fbyte s (nst neg)) (frontLen W F)) (Dp0 (FP.rst (fbyte s (nst neg)) (frontLen W F)) + (FP.ecl (nexp s x) N : Int) * esg) := by
   rw [hv _]
   rfl
  rw [e]
  cases neg with
  | true => exact pf_calls (numIn_exp_true hf h0 hb) hE.a r0 r1 r2
  | false => exact pf_calls (numIn_exp_false hf h0 hb) hE.a r0 r1 r2
end
theorem num_digs {s : ByteArray} {neg : Bool} {W F : Nat} {x esg : Int} {N : Nat} (h : Num0 s neg W F x esg N) (hs : s.size ≤ 800) : ∀ k < W + F, ndig s (nst neg) W k ≤ 57 := by
 intro k hk
 have hj := num_jnum h hs
 unfold ndig
 by_cases c : k < W
 ·rw [if_pos c]
  exact (hj.kinds k c).2
 ·rw [if_neg c]
  have := ((hj.frac (by omega)).2.2.2 (k - W) (by omega)).2
  have e : fbyte s (nst neg) (W + 1 + (k - W)) = (bt s ((nst neg + 1 + k : Nat) : Int)).toNat := by
   unfold fbyte
   rw [show nst neg + (W + 1 + (k - W)) = nst neg + 1 + k by omega]
  rw [← e]
  exact this
theorem num_len {s : ByteArray} {neg : Bool} {W F : Nat} {x esg : Int} {N : Nat} (h : Num0 s neg W F x esg N) (hs : s.size ≤ 800) : W + F ≤ 800 := by
 have hj := num_jnum h hs
 have h1 := hj.fits
 by_cases hF : F = 0
 ·omega
 ·have := (hj.frac hF).2.1
  omega
theorem same_near {s : ByteArray} {neg : Bool} {W F : Nat} {x esg : Int} {N : Nat} (h : Num0 s neg W F x esg N) (hs : s.size ≤ 800) {r r' : Nat} (b : FP.Near (NumX s neg W F x esg N) r) (b' : FP.Near (CutX s neg W F x esg N) r') : r = r' := by
 have hj := num_jnum h hs
 have hD : FP.dnum 0 (ndig s (nst neg) W) (W + F) < 10 ^ (0 + (W + F)) := FP.dnum_lt (by decide) (num_digs h hs) _ (Nat.le_refl _)
 have hl : W + F ≤ 800 := num_len h hs
 unfold NumX at b
 unfold CutX at b'
 by_cases hN : N = 0
 ·subst hN
  have e1 : esg * (FP.dnum 0 (nexp s x) 0 : Int) - F = (FP.ecl (nexp s x) 0 : Int) * esg - F := by
   show esg * ((0 : Nat) : Int) - F = ((0 : Nat) : Int) * esg - F
   simp
  rw [e1] at b
  exact b.unique b'
 ·have he : esg = 1 ∨ esg = -1 := by
   rcases hj.back with ⟨e, _⟩ | hb
   ·exact absurd e hN
   ·rcases hb.sgn with ⟨_, e⟩ | ⟨_, _, e⟩ | ⟨_, _, e⟩
    ·exact .inl e
    ·exact .inl e
    ·exact .inr e
  exact FP.near_cut hD (by omega) (by omega) he b b'
theorem sub_self {neg : Bool} {r : Nat} (hr : r < FP.INF) : Ieee.double.sub (FP.wordOf neg r) (FP.wordOf neg r) = some 0 := by
 unfold Ieee.Format.sub
 rw [FP.read_word neg r hr]
 simp only [Ieee.Datum.opposite, Ieee.Datum.sum, Option.map_some]
 obtain ⟨m, hm⟩ : ∃ m, m = FP.sig r := ⟨_, rfl⟩
 obtain ⟨i, hi⟩ : ∃ i, i = FP.plc r := ⟨_, rfl⟩
 rw [← hm, ← hi]
 have e : Ieee.signed neg m (i - min i i).toNat + Ieee.signed (!neg) m (i - min i i).toNat = 0 := by
  cases neg <;> simp [Ieee.signed] <;> omega
 rw [e, if_pos rfl]
 have e2 : (neg && !neg) = false := by cases neg <;> rfl
 rw [e2]
 show some (Ieee.double.nearest false 0 (min i i)) = some 0
 obtain ⟨r', h1, h2⟩ := FP.nearest_near false 0 (min i i)
 have h0 : FP.Near (FP.val 0) 0 := FP.near_self (by decide)
 have hv : (((0 : Nat) : Rat) * FP.p2 (min i i)) = FP.val 0 := by
  unfold FP.val FP.sig
  simp
 rw [hv] at h2
 rw [h1, h2.unique h0]
 rfl
theorem sub_inf (neg : Bool) : Ieee.double.sub (FP.wordOf neg FP.INF) (FP.wordOf neg FP.INF) = none := by
 cases neg <;> kernel_rfl
theorem nan_run {x : Nat} (h : Ieee.double.sub x x = none) (t : TypeId) (w : World) : ∃ (q : Nat), (binOp .sub t (.float .f64 x) (.float .f64 x)).run Tryz.prog w = .ok (.float .f64 ((q % 2) * 2 ^ 63 + 0x7ff0000000000000 + 1 + (q / 2) % (2 ^ 52 - 1))) w.drew := by
 have h' : FloatKind.f64.format.sub x x = none := h
 refine ⟨w.tape w.drawn (Question.nanBits FloatKind.f64 x x), ?_⟩
 simp [binOp, Op.floatArith, h']
 rfl
theorem nan_eq (q : Nat) : FloatKind.f64.format.order ((q % 2) * 2 ^ 63 + 0x7ff0000000000000 + 1 + (q / 2) % (2 ^ 52 - 1)) 0 = none := by
 obtain ⟨B, hB⟩ : ∃ B, B = (q % 2) * 2 ^ 63 + 0x7ff0000000000000 + 1 + (q / 2) % (2 ^ 52 - 1) := ⟨_, rfl⟩
 rw [← hB]
 have e2 : B % 2 ^ 63 = 0x7ff0000000000000 + 1 + (q / 2) % (2 ^ 52 - 1) := by omega
 have hn : Ieee.double.order B 0 = none := by
  unfold Ieee.Format.order
  have : ∃ a b, Ieee.double.read B = Ieee.Datum.nan a b := by
   unfold Ieee.Format.read
   rw [FP.signWeight_double]
   simp only [e2, FP.binade_double, FP.infRung_double, FP.leastPlace_double]
   rw [if_neg (by omega), if_neg (by unfold FP.INF; omega), if_neg (by unfold FP.INF; omega)]
   exact ⟨_, _, rfl⟩
  obtain ⟨a, b, h⟩ := this
  rw [h]
  rfl
 exact hn
def FinPost (w : World) (neg : Bool) (X : Rat) (e : Ending) (w' : World) : Prop :=
 ∃ (f : Nat) (b : Bool), e = .returned (.tuple #[.float .f64 f, .bool b]) ∧ Below w.heap.size w w' ∧ (b = true → ∃ r, FP.Near X r ∧ r < FP.INF ∧ f = FP.wordOf neg r)
theorem finite_num {s : ByteArray} {neg : Bool} {W F : Nat} {x esg : Int} {N : Nat} (h : Num0 s neg W F x esg N) (hs : s.size ≤ 800) (w : World) : Calls Tryz.prog 6 #[.string s] w (FinPost w neg (NumX s neg W F x esg N)) := by
 obtain ⟨X, hX⟩ : ∃ X, X = NumX s neg W F x esg N := ⟨_, rfl⟩
 have CN := nearestTo_calls h hs w
 rw [← hX] at CN ⊢
 have CN2 : Calls Tryz.prog 12 #[.string s] w (fun e w' => ∃ (f : Nat) (b : Bool), e = .returned (.tuple #[.float .f64 f, .bool b]) ∧ Below w.heap.size w w' ∧ (b = true → ∃ r, FP.Near X r ∧ f = FP.wordOf neg r)) := CN.mono fun e w' ⟨hb, hc⟩ => by
  rcases hc with ⟨f, hf⟩ | ⟨r, hr, hf⟩
  ·exact ⟨f, false, hf, hb, fun h => by cases h⟩
  ·exact ⟨_, true, hf, hb, fun _ => ⟨r, hr, rfl⟩⟩
 have CN := az CN2
 refine byR fun R hR => ?_
 have HR := az hR
 clear hR CN2 h hs hX
 go_enter Tryz.func6, Tryz.ntmps6
 go_upto_region 2 with (go_at_call 12; refine CN.out.mono ?_; rintro e w1 ⟨f, b, rfl, hbl, hb⟩; dsimp only; have H1 := az2 hbl hb; clear hbl hb)
 cases b with
 | false =>
  go_wp2_with fail
  rw [HR.out]
  exact ⟨_, false, rfl, H1.out.1, fun h => by cases h⟩
 | true =>
  obtain ⟨r, hr, rfl⟩ := H1.out.2 (by trivial)
  by_cases hi : r < FP.INF
  ·have hsub : ∀ (t : TypeId) (w : World), (binOp .sub t (.float .f64 (FP.wordOf neg r)) (.float .f64 (FP.wordOf neg r))).run Tryz.prog w = .ok (.float .f64 0) w := fun t w => run_float_arith w .sub t .f64 _ _ 0 (sub_self hi)
   have heq : ∀ (t : TypeId) (w : World), (binOp .eql t (.float .f64 0) (.float .f64 0)).run Tryz.prog w = .ok (.bool true) w := fun t w => by kernel_rfl
   have HH := az2 hr hi
   clear hr hi
   go_wp2_with fail
   rw [HR.out]
   exact ⟨_, true, rfl, H1.out.1, fun _ => ⟨r, HH.out.1, HH.out.2, rfl⟩⟩
  ·obtain rfl : r = FP.INF := by have := hr.1; omega
   obtain ⟨q, hsub⟩ := nan_run (sub_inf neg) 30 w1
   have heq := nan_eq q
   obtain ⟨nb, hnb⟩ : ∃ nb, nb = (q % 2) * 2 ^ 63 + 0x7ff0000000000000 + 1 + (q / 2) % (2 ^ 52 - 1) := ⟨_, rfl⟩
   rw [← hnb] at hsub
   rw [← hnb] at heq
   clear hnb hi hr
   go_wp2_with fail
   rw [HR.out]
   exact ⟨_, false, rfl, ⟨H1.out.1.os, H1.out.1.tape, H1.out.1.output, H1.out.1.size, H1.out.1.block⟩, fun h => by cases h⟩
theorem value_no {s : ByteArray} (h : ¬ ∃ neg W F x esg N, Num0 s neg W F x esg N) (hs : s.size ≤ 65536) (w : World) :
  Calls Tryz.prog 18 #[.string s] w (fun e w' => e = .returned (.tuple #[.agg #[.bool false, .string ⟨#[]⟩, .int .i64 0], .bool false]) ∧ Below w.heap.size w w') := by
 refine byR fun R hR => ?_
 have HR := az hR
 have CI := az (fun w1 => isNumber_calls s (by omega) w1)
 have HN := az h
 clear hR h hs
 go_enter Tryz.func18, Tryz.ntmps18
 go_wp2_with fail
 refine (CI.out _).mono ?_
 rintro e w1 ⟨b, rfl, hbel1, hnum⟩
 have hB2 : w1.heap[w.heap.size]? = some (.cells #[.bool false, .string ⟨#[]⟩, .int .i64 0] 51 (0, 0)) := (hbel1.block _ (by simp)).trans (heap_alloc_new w _)
 have bw1 : Below w.heap.size w w1 := ((Below.refl _ _).alloc (Nat.le_refl _) _).trans (hbel1.mono (by simp))
 have HB2 := az2 hB2 bw1
 have hb : b = false := by
  cases b with
  | false => rfl
  | true => exact absurd (hnum rfl) HN.out
 subst hb
 clear hbel1 hnum bw1
 have c20 := blk_cell hB2 0
 have c21 := blk_cell hB2 1
 have c22 := blk_cell hB2 2
 have f20 := blk_frozen hB2 0
 have f21 := blk_frozen hB2 1
 have f22 := blk_frozen hB2 2
 have hF := blk_set (blk_set (blk_set hB2 0 (.bool false)) 1 (.string ⟨#[]⟩)) 2 (.int .i64 0)
 have HF := az hF
 clear hB2 hF
 go_wp2_with fail
 have d0 := blk_cell HF.out 0
 have d1 := blk_cell HF.out 1
 have d2 := blk_cell HF.out 2
 refine bodyPost_ret (v := .tuple #[.agg #[.bool false, .string ⟨#[]⟩, .int .i64 0], .bool false]) (by simp [results, Tryz.results18, go_sem, d0, d1, d2]) rfl ?_
 rw [HR.out]
 exact ⟨rfl, (((HB2.out.2.setCell (Nat.le_refl _) _).setCell (Nat.le_refl _) _).setCell (Nat.le_refl _) _)⟩
def NoPost (w : World) (e : Ending) (w' : World) : Prop := ∃ f : Nat, e = .returned (.tuple #[.float .f64 f, .bool false]) ∧ Below w.heap.size w w'
theorem nearest_no {s : ByteArray} {w : World} (h : Calls Tryz.prog 18 #[.string s] w (fun e w' => e = .returned (.tuple #[.agg #[.bool false, .string ⟨#[]⟩, .int .i64 0], .bool false]) ∧ Below w.heap.size w w')) : Calls Tryz.prog 12 #[.string s] w (NoPost w) := by
 refine byR fun R hR => ?_
 have HR := az hR
 have CV := az h
 clear hR h
 go_enter Tryz.func12, Tryz.ntmps12
 go_wp2_with (go_at_call 18; refine CV.out.mono ?_; rintro e w1 ⟨rfl, hbl⟩; dsimp only; have HB := az hbl; clear hbl)
 rw [HR.out]
 exact ⟨_, rfl, HB.out.alloc HB.out.size _⟩
theorem nearest_long {s : ByteArray} {neg : Bool} {W F : Nat} {x esg : Int} {N : Nat} (h : Num0 s neg W F x esg N) (hs : s.size ≤ 65536) (hl : 800 < s.size) (w : World) : Calls Tryz.prog 12 #[.string s] w (NoPost w) := by
 refine byR fun R hR => ?_
 have HR := az hR
 have CV0 : Calls Tryz.prog 18 #[.string s] w (fun e w' => ∃ (b0 : Bool) (ds : ByteArray) (p : Int) (b : Bool), e = .returned (.tuple #[.agg #[.bool b0, .string ds, .int .i64 p], .bool b]) ∧ Below w.heap.size w w') :=
  (value_calls h hs w).mono fun e w' ⟨hb, hc⟩ => by
   rcases hc with e1 | ⟨ds, g, p, e1, _⟩
   ·exact ⟨_, _, _, _, e1, hb⟩
   ·exact ⟨_, _, _, _, e1, hb⟩
 have CV := az CV0
 have t8 : decide ((800 : Int) < (s.size : Int)) = true := dT
 have t8n : decide (800 < s.size) = true := decide_eq_true hl
 clear hR h hs hl CV0
 go_enter Tryz.func12, Tryz.ntmps12
 go_upto_region 2 with (go_at_call 18; refine CV.out.mono ?_; rintro e w1 ⟨b0, ds, p, b, rfl, hbl⟩; dsimp only; have HB := az hbl; clear hbl)
 cases b with
 | false =>
  go_wp2_with fail
  rw [HR.out]
  exact ⟨_, rfl, HB.out.alloc HB.out.size _⟩
 | true =>
  go_wp2_with fail
  rw [HR.out]
  exact ⟨_, rfl, HB.out.alloc HB.out.size _⟩
def FinAny (w : World) (s : ByteArray) (e : Ending) (w' : World) : Prop :=
 ∃ (f : Nat) (b : Bool), e = .returned (.tuple #[.float .f64 f, .bool b]) ∧ Below w.heap.size w w' ∧ (b = true → ∃ neg W F x esg N r, Num0 s neg W F x esg N ∧ s.size ≤ 800 ∧ FP.Near (NumX s neg W F x esg N) r ∧ r < FP.INF ∧ f = FP.wordOf neg r)
theorem finite_no {s : ByteArray} {w : World} (h : Calls Tryz.prog 12 #[.string s] w (NoPost w)) : Calls Tryz.prog 6 #[.string s] w (FinAny w s) := by
 refine byR fun R hR => ?_
 have HR := az hR
 have CN := az h
 clear hR h
 go_enter Tryz.func6, Tryz.ntmps6
 go_wp2_with (go_at_call 12; refine CN.out.mono ?_; rintro e w1 ⟨f, rfl, hbl⟩; dsimp only; have HB := az hbl; clear hbl)
 rw [HR.out]
 exact ⟨_, false, rfl, HB.out, fun h => by cases h⟩
theorem finite_any {s : ByteArray} (hs : s.size ≤ 65536) (w : World) : Calls Tryz.prog 6 #[.string s] w (FinAny w s) := by
 by_cases h : ∃ neg W F x esg N, Num0 s neg W F x esg N
 ·obtain ⟨neg, W, F, x, esg, N, h⟩ := h
  by_cases hl : s.size ≤ 800
  ·exact (finite_num h hl w).mono fun e w' ⟨f, b, h1, h2, h3⟩ => ⟨f, b, h1, h2, fun hb => by
    obtain ⟨r, h4, h5, h6⟩ := h3 hb
    exact ⟨neg, W, F, x, esg, N, r, h, hl, h4, h5, h6⟩⟩
  ·exact finite_no (nearest_long h hs (by omega) w)
 ·exact finite_no (nearest_no (value_no h hs w))
namespace JS
theorem strOf_raw {s : ByteArray} {lo n : Nat} (h : lo + n ≤ s.size) : strOf (raw s lo n) = s.extract lo (lo + n) := by
 apply kb_inj
 rw [kb_strOf (fun x hx => by
  obtain ⟨i, hi, e⟩ := List.mem_iff_getElem.1 hx
  have h1 := raw_at s lo n i (by rw [← raw_len s lo n]; exact hi)
  rw [List.getElem?_eq_getElem hi, e] at h1
  rw [Option.some.inj h1]; exact bn_lt _ _)]
 apply List.ext_getElem?
 intro i
 have hz := part_size (s := s) (b := lo) (e := lo + n) h
 by_cases hi : i < n
 ·rw [raw_at _ _ _ _ hi, kb_at _ (by omega), bn_part h (by omega)]
 ·rw [List.getElem?_eq_none (by rw [raw_len]; omega), List.getElem?_eq_none (by rw [kb_len]; omega)]
theorem parseFloat_calls {w : World} {s : ByteArray} {lo m c gb : Nat} {ty : TypeId} {A : Option Addr} {neg : Bool} {W F : Nat} {x esg : Int} {N n : Nat} (h : Dat w s lo m A) (hb : w.heap[gb]? = some (.cells #[.slice A m c] ty (0, 0)))
  (hn : Num0 (s.extract lo (lo + m)) neg W F x esg N) (hs : m ≤ 800) (hE : REnv n w) :
  Calls Tryz.prog 37 #[.pointer (some ⟨gb, 0, none⟩)] w (PfPost w neg (CutX (s.extract lo (lo + m)) neg W F x esg N)) := by
 refine byR fun R hR => ?_
 have HR := az hR
 have hcv := h.lst.conv (c := c)
 rw [raw_len, strOf_raw h.1] at hcv
 have hz := part_size (s := s) (b := lo) (e := lo + m) h.1
 have CP := az (num_pf hn (by omega) hE)
 have c0 := (blk_cell hb 0).trans rfl
 obtain ⟨T, hT⟩ : ∃ T, T = s.extract lo (lo + m) := ⟨_, rfl⟩
 rw [← hT] at hcv CP HR
 clear h hb hn hs hE hR hz hT
 go_enter Tryz.func37, Tryz.ntmps37
 go_wp2_with (go_at_call 49; refine CP.out.mono ?_; rintro e w1 ⟨r, hr, hc, hbl⟩; have HH := az3 hr hc hbl; clear hr hbl; obtain ⟨f, v, rfl, hv⟩ : ∃ f v, e = .returned (.tuple #[.float .f64 f, v]) ∧ True := (by rcases hc with ⟨_, e⟩ | ⟨_, t, x, e⟩; exact ⟨_, _, e, trivial⟩; exact ⟨_, _, e, trivial⟩); clear hc hv; dsimp only)
 rw [HR.out]
 exact ⟨r, HH.out.1, HH.out.2.1, HH.out.2.2⟩
structure JEnv (n : Nat) (w : World) : Prop where
 r : REnv n w
 esc : EscTab w
 e0 : 14 < n
 cfg : w.cell? ⟨3, 0, none⟩ = some (.bool false) ∧ w.cell? ⟨3, 1, none⟩ = some (.bool false) ∧ w.cell? ⟨3, 2, none⟩ = some (.int .i64 0)
 c0 : 3 < n
 nul : ∃ t x, w.cell? ⟨0, 0, none⟩ = some (.iface t x)
 n0 : 0 < n
theorem JEnv.below {n : Nat} {w w' : World} (h : JEnv n w) (hb : Below n w w') : JEnv n w' := by
 have hc : ∀ b o, b < n → w'.cell? ⟨b, o, none⟩ = w.cell? ⟨b, o, none⟩ := fun b o hbn => hb.cell (p := ⟨b, o, none⟩) hbn
 obtain ⟨h1, h2, h3, ⟨h4, h5, h6⟩, h7, ⟨t, x, h8⟩, h9⟩ := h
 exact ⟨h1.below hb, fun c hs => by rw [hc _ _ h3]; exact h2 c hs, h3, ⟨by rw [hc _ _ h7]; exact h4, by rw [hc _ _ h7]; exact h5, by rw [hc _ _ h7]; exact h6⟩, h7, ⟨t, x, by rw [hc _ _ h9]; exact h8⟩, h9⟩
theorem JEnv.le {n : Nat} {w : World} (h : JEnv n w) : n ≤ w.heap.size := h.r.le
def FltPost (w : World) (f : Nat) (e : Ending) (w' : World) : Prop := e = .returned (.tuple #[.float .f64 f, .nilIface]) ∧ Below w.heap.size w w'
theorem parse_calls {w : World} {s : ByteArray} {lo m c : Nat} {A : Option Addr} {neg : Bool} {W F : Nat} {x esg : Int} {N n r : Nat} (h : Dat w s lo m A)
  (hn : Num0 (s.extract lo (lo + m)) neg W F x esg N) (hs : m ≤ 800) (hE : REnv n w) (hr : ∀ r', FP.Near (CutX (s.extract lo (lo + m)) neg W F x esg N) r' → r = r') (hi : r < FP.INF) :
  Calls Tryz.prog 22 #[.slice A m c] w (FltPost w (FP.wordOf neg r)) := by
 refine byR fun R hR => ?_
 have HR := az hR
 have hB : Below w.heap.size w (w.alloc (.cells #[.slice A m c] 43)) := (Below.refl _ _).alloc (Nat.le_refl _) _
 have CP0 : Calls Tryz.prog 37 #[.pointer (some ⟨w.heap.size, 0, none⟩)] (w.alloc (.cells #[.slice A m c] 43)) (FltPost w (FP.wordOf neg r)) :=
  (parseFloat_calls (h.alloc _) (heap_alloc_new _ _) hn hs (hE.below (hB.mono hE.le))).mono fun e w' ⟨r', h1, h2, h3⟩ => by
   obtain rfl := hr r' h1
   rcases h2 with ⟨_, h2⟩ | ⟨h2, _⟩
   ·exact ⟨h2, hB.trans (h3.mono (by simp))⟩
   ·omega
 have CP := az CP0
 clear CP0 hR h hn hs hE hr hi hB
 go_enter Tryz.func22, Tryz.ntmps22
 go_wp2_with (go_at_call 37; refine CP.out.mono ?_; rintro e w1 ⟨rfl, hbl⟩; dsimp only; have HB := az hbl; clear hbl)
 rw [HR.out]
 exact ⟨rfl, HB.out⟩
section
variable {w : World} {s : ByteArray} {cp nk ck n : Nat} {A K : Option Addr} {ks : List ByteArray} {t tgt : JT}
theorem get_path (h : Dat w s 0 s.size A) (hn : s.size ≤ cp) (hE : JEnv n w) (hv : V s t) (hb : Blanks s 0 t.b) (hbe : Blanks s t.e s.size) (hp : Path s ks t tgt) (hk : Keys w K ks) (hnk : nk = ks.length) (hck : nk ≤ ck) :
  V s tgt ∧ Calls Tryz.prog 20 #[.slice A s.size cp, .slice K nk ck] w (Get4 w s 0 tgt) := by
 have hd0 : Delim s t.e := by
  by_cases c : t.e = s.size
  ·exact .inl c
  ·exact .inr ⟨by have := hbe.1; omega, .inl (hbe.2.2 t.e (Nat.le_refl _) (by have := hbe.1; omega))⟩
 have hd := hp.delim hv hd0
 have hdi : DelimIn s s.size tgt.e := fun hlt => by
  rcases hd with h | ⟨_, h⟩
  ·omega
  ·unfold dlm; unfold blank at h; omega
 by_cases h0 : ks = []
 ·subst h0
  cases hp
  exact ⟨hv, get_calls (r := 0) h hn hv hb (V.le hv).2 hdi hE.cfg (.inl ⟨hnk, rfl⟩)⟩
 ·obtain ⟨hvt, R, hs, hbR⟩ := hp.whole hv h0 hb
  refine ⟨hvt, get_calls (r := R) h hn hvt hbR (V.le hvt).2 hdi hE.cfg (.inr ⟨by have := List.length_pos_iff.2 h0; omega, fun W hW => ?_⟩)⟩
  have := search_calls ks.length W 0 s.size cp nk ck A K ks R (Nat.le_refl _) (h.below hW) hn (hk.below hW) hnk hck (hE.esc.below hW) (by rw [Nat.zero_add]; exact hs)
  rwa [Nat.sub_zero] at this
end
theorem errNew_calls {w : World} {s : ByteArray} : Calls Tryz.prog 21 #[.string s] w (fun e w' => ∃ t x, e = .returned (.iface t x) ∧ Below w.heap.size w w') := by
 refine byR fun R hR => ?_
 have HR := az hR
 clear hR
 go_enter Tryz.func21, Tryz.ntmps21
 go_wp2_with fail
 rw [HR.out]
 exact ⟨_, _, rfl, (Below.refl _ _).alloc (Nat.le_refl _) _⟩
section
variable {w : World} {s : ByteArray} {cp nk ck n : Nat} {A K : Option Addr} {ks : List ByteArray} {t tgt : JT}
theorem getFloat_num (hg : Calls Tryz.prog 20 #[.slice A s.size cp, .slice K nk ck] w (Get4 w s 0 tgt)) (hE : JEnv n w) (hk : tgt.kind = 3) (hle : tgt.b < tgt.e) {neg : Bool} {W F : Nat} {x esg : Int} {N r : Nat}
  (hn : Num0 (s.extract tgt.b tgt.e) neg W F x esg N) (hs : tgt.e - tgt.b ≤ 800) (hr : ∀ r', FP.Near (CutX (s.extract tgt.b tgt.e) neg W F x esg N) r' → r = r') (hi : r < FP.INF) :
  Calls Tryz.prog 13 #[.slice A s.size cp, .slice K nk ck] w (FltPost w (FP.wordOf neg r)) := by
 refine byR fun R hR => ?_
 have HR := az hR
 have hib : inB tgt = tgt.b := by unfold inB; rw [if_neg (by omega)]
 have hil : inL tgt = tgt.e - tgt.b := by unfold inL; rw [if_neg (by omega)]
 have hjk : jk tgt.kind = 2 := by rw [hk]; rfl
 have CG0 : Calls Tryz.prog 20 #[.slice A s.size cp, .slice K nk ck] w (fun e w' => ∃ (B : Option Addr) (c : Nat) (z : Int), e = .returned (.tuple #[.slice B (tgt.e - tgt.b) c, .int .i64 2, .int .i64 z, .nilIface]) ∧ Dat w' s tgt.b (tgt.e - tgt.b) B ∧ Below w.heap.size w w') :=
  hg.mono fun e w' ⟨B, c, h1, h2, _, h3⟩ => by
   rw [hib, hil] at h2
   rw [hil, hjk] at h1
   exact ⟨B, c, _, h1, h2, h3⟩
 have CG := az CG0
 have CP := az (fun (W' : World) (B : Option Addr) (c : Nat) (hb : Below w.heap.size w W') (hd : Dat W' s tgt.b (tgt.e - tgt.b) B) =>
  parse_calls (c := c) (n := n) (r := r) (neg := neg) (W := W) (F := F) (x := x) (esg := esg) (N := N) hd (by rw [show tgt.b + (tgt.e - tgt.b) = tgt.e by omega]; exact hn) hs (hE.r.below (hb.mono hE.le)) (by rw [show tgt.b + (tgt.e - tgt.b) = tgt.e by omega]; exact hr) hi)
 obtain ⟨m, hm⟩ : ∃ m, m = tgt.e - tgt.b := ⟨_, rfl⟩
 rw [← hm] at CG CP
 obtain ⟨f, hf⟩ : ∃ f, f = FP.wordOf neg r := ⟨_, rfl⟩
 rw [← hf] at CP HR
 clear hf hle hk hm hg hR hib hil hjk CG0 hn hr hi hs hE
 go_enter Tryz.func13, Tryz.ntmps13
 go_wp2_with (first | (go_at_call 20; refine CG.out.mono ?_; rintro e w1 ⟨B, c, z, rfl, hd, hbl⟩; dsimp only; have H1 := az2 hd hbl; clear hd hbl) | (go_at_call 22; refine (CP.out _ _ _ H1.out.2 H1.out.1).mono ?_; rintro e w2 ⟨rfl, hbl⟩; dsimp only; have H2 := az hbl; clear hbl))
 rw [HR.out]
 exact ⟨rfl, H1.out.2.trans (H2.out.mono H1.out.2.size)⟩
theorem getFloat_other (hg : Calls Tryz.prog 20 #[.slice A s.size cp, .slice K nk ck] w (Get4 w s 0 tgt)) (hE : JEnv n w) (hk : tgt.kind ≠ 3) (hk6 : tgt.kind ≤ 6) :
  Calls Tryz.prog 13 #[.slice A s.size cp, .slice K nk ck] w (fun e w' => ∃ t x, e = .returned (.tuple #[.float .f64 0, .iface t x]) ∧ Below w.heap.size w w') := by
 refine byR fun R hR => ?_
 have HR := az hR
 obtain ⟨j, hj⟩ : ∃ j, j = jk tgt.kind := ⟨_, rfl⟩
 have hj2 : j ≠ 2 := by
  rw [hj]
  have : tgt.kind = 0 ∨ tgt.kind = 1 ∨ tgt.kind = 2 ∨ tgt.kind = 4 ∨ tgt.kind = 5 ∨ tgt.kind = 6 := by omega
  rcases this with e | e | e | e | e | e <;> rw [e] <;> decide
 have CG0 : Calls Tryz.prog 20 #[.slice A s.size cp, .slice K nk ck] w (fun e w' => ∃ (B : Option Addr) (m c : Nat) (z : Int), e = .returned (.tuple #[.slice B m c, .int .i64 (j : Int), .int .i64 z, .nilIface]) ∧ Below w.heap.size w w') :=
  hg.mono fun e w' ⟨B, c, h1, h2, _, h3⟩ => by
   rw [← hj] at h1
   exact ⟨B, _, c, _, h1, h3⟩
 have CG := az CG0
 have CE := az (fun (W : World) (s : ByteArray) => errNew_calls (w := W) (s := s))
 have t2 : ((j : Int) != 2) = true := bneT
 have t2n : (j != 2) = true := bneTn hj2
 have HE := az hE
 clear hg hR CG0 hE hk hk6 hj hj2
 by_cases h6 : j = 6
 ·have t6 : ((j : Int) == 6) = true := by rw [h6]; rfl
  have t6n : (j == 6) = true := by rw [h6]; rfl
  clear h6
  go_enter Tryz.func13, Tryz.ntmps13
  go_upto_region 6 with (go_at_call 20; refine CG.out.mono ?_; rintro e w1 ⟨B, m, c, z, rfl, hbl⟩; dsimp only; have H1 := az hbl; clear hbl)
  obtain ⟨ti, xi, hnul⟩ := (HE.out.below (H1.out.mono HE.out.le)).nul
  go_wp2_with fail
  repeat (go_quiet (fail); try go_wp2_with fail)
  rw [HR.out]
  exact ⟨ti, xi, rfl, by first | exact H1.out | exact pw_below_drewN H1.out _⟩
 ·have t6 : ((j : Int) == 6) = false := beqF
  have t6n : (j == 6) = false := beqFn h6
  clear h6
  go_enter Tryz.func13, Tryz.ntmps13
  go_wp2_with (first | (go_at_call 20; refine CG.out.mono ?_; rintro e w1 ⟨B, m, c, z, rfl, hbl⟩; dsimp only; have H1 := az hbl; clear hbl) | (go_at_call 21; refine (CE.out _ _).mono ?_; rintro e w2 ⟨te, xe, rfl, hbl⟩; dsimp only; have H2 := az hbl; clear hbl))
  rw [HR.out]
  exact ⟨te, xe, rfl, H1.out.trans (H2.out.mono H1.out.size)⟩
end
theorem bytes_dat (w : World) (s : ByteArray) (hs : s.size ≤ 65536) : Dat (Lib.bytesWorld w 5 s) s 0 s.size (some ⟨w.heap.size, 0, none⟩) :=
 ⟨by omega, hs, fun _ => ⟨w.heap.size, 0, rfl, by rw [Lib.bytesWorld_size]; omega, fun k hk => by
  rw [Nat.zero_add, Lib.bytesWorld_cell w _ s k hk, bn_at s k hk]
  have : s.data.toList.getD k 0 = s[k] := by
   rw [List.getD, Array.getElem?_toList]
   have : s.data[k]? = some (s.data[k]'hk) := Array.getElem?_eq_getElem hk
   rw [this]
   rfl
  rw [this]⟩⟩
section
variable {w : World} {s : ByteArray} {nk ck n : Nat} {K : Option Addr} {ks : List ByteArray} {t tgt : JT}
def OkFlt (w : World) (f : Nat) (b : Bool) (e : Ending) (w' : World) : Prop := e = .returned (.tuple #[.float .f64 f, .bool b]) ∧ Below w.heap.size w w'
theorem jpGetFloat_num (hs6 : s.size ≤ 65536) (hE : JEnv n w) (hv : V s t) (hb : Blanks s 0 t.b) (hbe : Blanks s t.e s.size) (hp : Path s ks t tgt) (hk : Keys w K ks) (hnk : nk = ks.length) (hck : nk ≤ ck) (hk3 : tgt.kind = 3) {neg : Bool} {W F : Nat} {x esg : Int} {N r : Nat}
  (hn : Num0 (s.extract tgt.b tgt.e) neg W F x esg N) (hs : tgt.e - tgt.b ≤ 800) (hr : ∀ r', FP.Near (CutX (s.extract tgt.b tgt.e) neg W F x esg N) r' → r = r') (hi : r < FP.INF) :
  Calls Tryz.prog 7 #[.string s, .slice K nk ck] w (OkFlt w (FP.wordOf neg r) true) := by
 obtain ⟨f, hf⟩ : ∃ f, f = FP.wordOf neg r := ⟨_, rfl⟩
 obtain ⟨R, hR⟩ : ∃ R, R = OkFlt w (FP.wordOf neg r) true := ⟨_, rfl⟩
 rw [← hR]
 rw [← hf] at hR
 have HR := az hR
 have hB := Lib.bytesWorld_below w 5 s
 have hcv := Lib.run_convert_string_bytes (P := Tryz.prog) w 9 43 5 s Tryz.underlying9 Tryz.underlying43 Tryz.underlying5
 have hcap := grownCap_ge w s.size 0 5
 obtain ⟨hvt, hg⟩ := get_path (cp := grownCap w s.size 0 5) (bytes_dat w s hs6) hcap (hE.below (hB.mono hE.le)) hv hb hbe hp (hk.below hB) hnk hck
 have hle := V.le hvt
 have CG0 := getFloat_num hg (hE.below (hB.mono hE.le)) hk3 hle.1 hn hs hr hi
 rw [← hf] at CG0
 have CG := az CG0
 obtain ⟨wb, hwb⟩ : ∃ wb, wb = Lib.bytesWorld w 5 s := ⟨_, rfl⟩
 obtain ⟨cp, hcp⟩ : ∃ cp, cp = grownCap w s.size 0 5 := ⟨_, rfl⟩
 rw [← hwb, ← hcp] at hcv CG
 rw [← hwb] at hB
 have HB := az hB
 clear CG0 hg hvt hle hwb hcp hcap hB hf hR hs6 hE hv hb hbe hp hk hnk hck hk3 hn hs hr hi
 go_enter Tryz.func7, Tryz.ntmps7
 go_wp2_with (go_at_call 13; refine CG.out.mono ?_; rintro e w1 ⟨rfl, hbl⟩; dsimp only; have H1 := az hbl; clear hbl)
 rw [HR.out]
 exact ⟨rfl, HB.out.trans (H1.out.mono HB.out.size)⟩
theorem jpGetFloat_other (hs6 : s.size ≤ 65536) (hE : JEnv n w) (hv : V s t) (hb : Blanks s 0 t.b) (hbe : Blanks s t.e s.size) (hp : Path s ks t tgt) (hk : Keys w K ks) (hnk : nk = ks.length) (hck : nk ≤ ck) (hk3 : tgt.kind ≠ 3) (hk6 : tgt.kind ≤ 6) :
  Calls Tryz.prog 7 #[.string s, .slice K nk ck] w (OkFlt w 0 false) := by
 refine byR fun R hR => ?_
 have HR := az hR
 have hB := Lib.bytesWorld_below w 5 s
 have hcv := Lib.run_convert_string_bytes (P := Tryz.prog) w 9 43 5 s Tryz.underlying9 Tryz.underlying43 Tryz.underlying5
 have hcap := grownCap_ge w s.size 0 5
 obtain ⟨hvt, hg⟩ := get_path (cp := grownCap w s.size 0 5) (bytes_dat w s hs6) hcap (hE.below (hB.mono hE.le)) hv hb hbe hp (hk.below hB) hnk hck
 have CG := az (getFloat_other hg (hE.below (hB.mono hE.le)) hk3 hk6)
 obtain ⟨wb, hwb⟩ : ∃ wb, wb = Lib.bytesWorld w 5 s := ⟨_, rfl⟩
 obtain ⟨cp, hcp⟩ : ∃ cp, cp = grownCap w s.size 0 5 := ⟨_, rfl⟩
 rw [← hwb, ← hcp] at hcv CG
 rw [← hwb] at hB
 have HB := az hB
 clear hg hvt hwb hcp hcap hB hR hs6 hE hv hb hbe hp hk hnk hck hk3 hk6
 go_enter Tryz.func7, Tryz.ntmps7
 go_wp2_with (go_at_call 13; refine CG.out.mono ?_; rintro e w1 ⟨te, xe, rfl, hbl⟩; dsimp only; have H1 := az hbl; clear hbl)
 rw [HR.out]
 exact ⟨rfl, HB.out.trans (H1.out.mono HB.out.size)⟩
end
def KeysA (w : World) (K : Option Addr) (ks : List ByteArray) : Prop := 0 < ks.length → ∃ g o, K = some ⟨g, o, none⟩ ∧ g < w.heap.size ∧ ∀ (i : Nat) (k : ByteArray), ks[i]? = some k → w.cell? ⟨g, o + i, none⟩ = some (Value.string k)
theorem zzFits1_calls {w : World} {K : Option Addr} {ks : List ByteArray} {n ck : Nat} (hk : KeysA w K ks) (hn : n = ks.length) (h63 : n ≤ 9223372036854775807) :
  Calls Tryz.prog 4 #[.slice K n ck] w (fun e w' => ∃ b : Bool, e = .returned (.bool b) ∧ w' = w ∧ (b = true → ks.length ≤ 2147483647 ∧ ∀ k ∈ ks, k.size ≤ 2147483647)) := by
 refine byR fun R hR => ?_
 have NO : Aside0 (R (.returned (.bool false)) w) := ⟨by rw [hR]; exact ⟨false, rfl, rfl, fun h => by cases h⟩⟩
 have YES : Aside0 (ks.length ≤ 2147483647 → (∀ k ∈ ks, k.size ≤ 2147483647) → R (.returned (.bool true)) w) := ⟨fun h1 h2 => by rw [hR]; exact ⟨true, rfl, rfl, fun _ => ⟨h1, h2⟩⟩⟩
 have HK := az3 hk hn h63
 clear hR hk h63
 by_cases hb : n ≤ 2147483647
 ·have t1 : decide ((2147483647 : Int) < (n : Int)) = false := dF
  have t1n : decide (2147483647 < n) = false := dF
  have HB := az hb
  clear hb hn
  go_enter Tryz.func4, Tryz.ntmps4
  go_wp2_with fail
  go_loopg [10] n (fun q v10 w' => ∃ i : Nat, v10 = .int .i64 (i : Int) ∧ Aside0 (q = n - i ∧ i ≤ n ∧ ∀ j, j < i → ∀ k, ks[j]? = some k → k.size ≤ 2147483647) ∧ Aside0 (w' = w))
  case atStart => exact ⟨0, rfl, ⟨by omega, Nat.zero_le _, fun j hj => absurd hj (by omega)⟩, ⟨rfl⟩⟩
  case round =>
   obtain ⟨i, rfl, hi, hw⟩ := hrel
   have ew := hw.out
   subst ew
   by_cases hin : i < n
   ·have hi6 : (i : Int) < (n : Int) := by omega
    obtain ⟨key, hkey⟩ : ∃ k, ks[i]? = some k := ⟨_, List.getElem?_eq_getElem (by have := HK.out.2; omega)⟩
    obtain ⟨g, o, rfl, hg, hc⟩ := HK.out.1 (by have := HK.out.2; omega)
    have hkc := hc i key hkey
    have wi : IntKind.i64.wrap ((i : Int) + 1) = (i : Int) + 1 := by rw [IntKind.wrap_i64]; have := HB.out; omega
    have HKY := az hkey
    clear hkey hc hg
    by_cases hz : key.size ≤ 2147483647
    ·have t2 : decide ((2147483647 : Int) < (key.size : Int)) = false := dF
     have t2n : decide (2147483647 < key.size) = false := dF
     have HZ := az hz
     clear hz hin
     go_wp2_with fail
     go_roundg (n - (i + 1))
     case measure => have := hi.out.1; omega
     case rel => exact ⟨i + 1, by go_num, ⟨rfl, by omega, fun j hj k hk => by
       by_cases c : j < i
       ·exact hi.out.2.2 j c k hk
       ·obtain rfl : j = i := by omega
        cases HKY.out.symm.trans hk
        exact HZ.out⟩, ⟨rfl⟩⟩
    ·have t2 : decide ((2147483647 : Int) < (key.size : Int)) = true := dT
     have t2n : decide (2147483647 < key.size) = true := dT
     clear hz hin
     go_wp2_with fail
     exact NO.out
   ·obtain rfl : i = n := by have := hi.out.2.1; omega
    have t2 : decide ((i : Int) < (i : Int)) = false := dF
    clear hin
    go_wp2_with fail
    refine YES.out (by have := HB.out; have := HK.out.2; omega) fun k hk => ?_
    obtain ⟨j, hj, e⟩ := List.mem_iff_getElem.1 hk
    exact hi.out.2.2 j (by have := HK.out.2; omega) k (by rw [List.getElem?_eq_getElem hj, e])
 ·have t1 : decide ((2147483647 : Int) < (n : Int)) = true := dT
  have t1n : decide (2147483647 < n) = true := dT
  clear hb hn
  go_enter Tryz.func4, Tryz.ntmps4
  go_wp2_with fail
  exact NO.out
theorem Path.few {s : ByteArray} {ks : List ByteArray} {t tgt : JT} (h : Path s ks t tgt) : V s t → V s tgt ∧ ks.length + tgt.e ≤ t.e := by
 induction h with
 | nil t => exact fun hv => ⟨hv, by simp⟩
 | mem k ks t kid tgt j h1 h2 h3 h4 hp ih =>
  intro hv
  obtain ⟨h5, h6⟩ := V.kid hv h4
  obtain ⟨h7, h8⟩ := ih h5
  exact ⟨h7, by rw [List.length_cons]; omega⟩
 | el k ks t kid tgt j h1 h2 h4 hp ih =>
  intro hv
  obtain ⟨h5, h6⟩ := V.kid hv h4
  obtain ⟨h7, h8⟩ := ih h5
  exact ⟨h7, by rw [List.length_cons]; omega⟩
theorem V.kind6 {s : ByteArray} {t : JT} (h : V s t) : t.kind ≤ 6 := by
 cases h with
 | word k b e h => obtain ⟨h1, _⟩ := h; show k ≤ 6; omega
 | num b e h => show 3 ≤ 6; omega
 | str b e h => show 4 ≤ 6; omega
 | arr0 b c h1 h2 h3 h4 => show 5 ≤ 6; omega
 | arr b a e kids h1 h2 h3 => show 5 ≤ 6; omega
 | obj0 b c h1 h2 h3 h4 => show 6 ≤ 6; omega
 | obj b a e ns kids h1 h2 h3 => show 6 ≤ 6; omega
def oneText : ByteArray := { data := #[123, 34, 97, 34, 58, 49, 125] }
def oneKey : ByteArray := { data := #[97] }
def oneT : JT := .mk 6 0 7 [(1, 4)] [.mk 3 5 6 [] []]
theorem one_blanks {s : ByteArray} {a : Nat} (h : a ≤ s.size) : Blanks s a a := ⟨Nat.le_refl _, h, fun k h1 h2 => absurd h2 (by omega)⟩
theorem one_str : Str oneText 1 4 := ⟨by decide, by decide, by decide, by decide, .plain 2 3 (by decide) (by decide) (by decide) (by decide) (.done 3 (by decide))⟩
theorem one_num : V oneText (.mk 3 5 6 [] []) := .num 5 6 ⟨by decide, by decide, .inr (by decide), fun k h1 h2 => by
 obtain rfl : k = 5 := by omega
 exact .inl (by decide)⟩
theorem one_v : V oneText oneT :=
 .obj 0 1 7 _ _ (by decide) (one_blanks (by decide)) (.last 1 4 4 (.mk 3 5 6 [] []) 6 one_str (one_blanks (by decide)) (by decide) (by decide) (one_blanks (by decide)) one_num (one_blanks (by decide)) (by decide) (by decide))
theorem one_path : Path oneText [oneKey] oneT (.mk 3 5 6 [] []) :=
 .mem oneKey [] oneT (.mk 3 5 6 [] []) _ 0 rfl (fun i hi => absurd hi (by omega)) ⟨(1, 4), rfl, by decide⟩ rfl (.nil _)
theorem one_num0 : Num0 (oneText.extract 5 6) false 1 0 0 0 0 := by
 have hb : bt (oneText.extract 5 6) 0 = 49 := by decide
 refine ⟨.inr ⟨rfl, by rw [hb]; decide⟩, by decide, by decide, fun k hk => ?_, fun h => ?_, fun h => absurd rfl h, .inl ⟨rfl, by decide⟩⟩
 ·obtain rfl : k = 0 := by omega
  show 48 ≤ bt (oneText.extract 5 6) 0 ∧ bt (oneText.extract 5 6) 0 ≤ 57
  rw [hb]; decide
 ·have : bt (oneText.extract 5 6) 0 = 48 := h
  omega
theorem order_self {neg : Bool} {r : Nat} (hr : r < FP.INF) : FloatKind.f64.format.order (FP.wordOf neg r) (FP.wordOf neg r) = some .eq := by
 obtain ⟨A, B, h, h1, h2⟩ := FP.order_words neg neg hr hr
 obtain rfl : A = B := by omega
 have h' : FloatKind.f64.format.order (FP.wordOf neg r) (FP.wordOf neg r) = _ := h
 rw [h', Int.compare_eq_eq.mpr rfl]
theorem one_near : ∃ r, r < FP.INF ∧ FP.Near (NumX (oneText.extract 5 6) false 1 0 0 0 0) r := by
 obtain ⟨r, h1, h2⟩ := FP.exists_rung (m := 1) (by decide)
 refine ⟨r, h1, ?_⟩
 have e : NumX (oneText.extract 5 6) false 1 0 0 0 0 = FP.val r := by
  rw [h2]
  unfold NumX
  have e1 : FP.dnum 0 (ndig (oneText.extract 5 6) (nst false) 1) (1 + 0) = 1 := by decide
  rw [e1, show ((0 : Int) * (FP.dnum 0 (nexp (oneText.extract 5 6) 0) 0 : Int) - ((0 : Nat) : Int)) = ((0 : Nat) : Int) by simp, FP.p10_nat]
  simp
 rw [e]
 exact FP.near_self h1
theorem one_keys {w : World} {t : TypeId} : Keys (w.alloc (.cells #[.string oneKey] t)) (some ⟨w.heap.size, 0, none⟩) [oneKey] :=
 ⟨by simp, fun _ => ⟨w.heap.size, 0, rfl, by simp, fun i k hk => by
  match i with
  | 0 =>
   cases hk
   exact (blk_cell (heap_alloc_new w _) 0).trans rfl
  | i + 1 => simp at hk⟩⟩
theorem second_calls {w : World} {t : TypeId} {n : Nat} (hE : JEnv n w) (ck : Nat) (hck : 1 ≤ ck) : ∃ f, Calls Tryz.prog 7 #[.string oneText, .slice (some ⟨w.heap.size, 0, none⟩) 1 ck] (w.alloc (.cells #[.string oneKey] t)) (OkFlt (w.alloc (.cells #[.string oneKey] t)) f true) := by
 obtain ⟨r, h1, h2⟩ := one_near
 have hs : oneText.size = 7 := rfl
 exact ⟨_, jpGetFloat_num (by decide) (hE.below (((Below.refl _ _).alloc (Nat.le_refl _) _).mono hE.le)) one_v (one_blanks (by decide)) (one_blanks (by decide)) one_path one_keys rfl hck rfl one_num0 (by decide)
  (fun r' h => same_near one_num0 (by decide) h2 h) h1⟩
def TruePost (w : World) (e : Ending) (w' : World) : Prop := e = .returned (.bool true) ∧ Below w.heap.size w w'
set_option maxRecDepth 1000000 in
theorem law_calls {w : World} {s : ByteArray} {K : Option Addr} {ks : List ByteArray} {n ck m : Nat} (hk : KeysA w K ks) (hn : n = ks.length) (hck : n ≤ ck) (h63 : n ≤ 9223372036854775807) (hE : JEnv m w) :
  Calls Tryz.prog 3 #[.string s, .slice K n ck] w (TruePost w) := by
 refine byR fun R hR => ?_
 have YES : Aside0 (∀ w', Below w.heap.size w w' → R (.returned (.bool true)) w') := ⟨fun w' h => by rw [hR]; exact ⟨rfl, h⟩⟩
 have CZ := az (zzFits1_calls (w := w) (ck := ck) hk hn h63)
 have HK := az4 hk hn hck hE
 clear hR hk hn hck h63 hE
 by_cases hs : s.size ≤ 2147483647
 ·have t1 : decide ((2147483647 : Int) < (s.size : Int)) = false := dF
  have t1n : decide (2147483647 < s.size) = false := dF
  have HS := az hs
  clear hs
  go_enter Tryz.func3, Tryz.ntmps3
  go_upto_if 20 with (go_at_call 4; refine CZ.out.mono ?_; rintro e w1 ⟨b, rfl, hw1, hb⟩; subst w1; dsimp only; have H1 := az hb; clear hb)
  cases b with
  | false =>
   go_wp2_with fail
   exact YES.out _ (Below.refl _ _)
  | true =>
   obtain ⟨h1, h2⟩ := H1.out (by trivial)
   have CF := az (jpFound_calls (w := w) (n := n) (ck := ck) HS.out (show KeysG w K ks from ⟨h1, h2, HK.out.1⟩) HK.out.2.1)
   clear h1 h2
   go_upto_region 4 with (go_at_call 5; refine CF.out.mono ?_; rintro e w2 ⟨v, b, rfl, hbl, ⟨k5, b5, e5, E1, E2, n1, f1, n2, f2, rfl⟩, hb⟩; dsimp only; have H2 := az2 hbl hb; clear hbl hb)
   have hnew := heap_alloc_new w2 (.cells #[.int .i64 k5, .int .i64 b5, .int .i64 e5, .slice E1 n1 f1, .slice E2 n2 f2] 27)
   have hBz := H2.out.1.alloc H2.out.1.size (.cells #[.int .i64 k5, .int .i64 b5, .int .i64 e5, .slice E1 n1 f1, .slice E2 n2 f2] 27)
   have hsz : (w2.alloc (.cells #[.int .i64 k5, .int .i64 b5, .int .i64 e5, .slice E1 n1 f1, .slice E2 n2 f2] 27)).heap.size = w2.heap.size + 1 := by simp
   obtain ⟨wz, hwz⟩ : ∃ wz, wz = w2.alloc (.cells #[.int .i64 k5, .int .i64 b5, .int .i64 e5, .slice E1 n1 f1, .slice E2 n2 f2] 27) := ⟨_, rfl⟩
   rw [← hwz] at hnew hBz hsz ⊢
   have HZ := az3 hnew hBz hsz
   clear hwz hnew hBz hsz
   cases b with
   | false =>
    go_wp2_with fail
    exact YES.out _ HZ.out.2.1
   | true =>
    obtain ⟨hs6, t, tgt, hv, hbl0, hbe, hp, nv, kv, hveq⟩ := H2.out.2 (by trivial)
    obtain ⟨rfl, rfl, rfl⟩ : k5 = (tgt.kind : Int) ∧ b5 = (tgt.b : Int) ∧ e5 = (tgt.e : Int) := by
     simp at hveq
     exact ⟨hveq.1, hveq.2.1, hveq.2.2.1⟩
    obtain ⟨hvt, hfew⟩ := hp.few hv
    have hle := V.le hvt
    have hlb : (tgt.b : Int) ≤ (tgt.e : Int) := by omega
    have hle6 : (tgt.e : Int) ≤ (s.size : Int) := by omega
    have CN := az (fun W => finite_any (s := s.extract tgt.b tgt.e) (by rw [part_size hle.2]; omega) W)
    have HT := az7 hs6 hv hbl0 hbe hp hvt hfew
    have HKK : Aside0 (∀ W, Below wz.heap.size wz W → Below w.heap.size w W ∧ Keys W K ks ∧ JEnv m W) := ⟨fun W h => by
     have hB := HZ.out.2.1.trans (h.mono HZ.out.2.1.size)
     exact ⟨hB, Keys.below (show Keys w K ks from ⟨by have := hbe.1; omega, HK.out.1⟩) hB, HK.out.2.2.2.below (hB.mono HK.out.2.2.2.le)⟩⟩
    clear hs6 hv hbl0 hbe hp hvt hfew hle hveq
    have a1 := (blk_cell HZ.out.1 1).trans rfl
    have a2 := (blk_cell HZ.out.1 2).trans rfl
    go_upto_region 7 with (go_at_call 6; refine (CN.out _).mono ?_; rintro e w3 ⟨f, b, rfl, hbl, hb⟩; dsimp only; have H3 := az2 hbl hb; clear hbl hb)
    clear a1 a2
    have a0 := (blk_cell (blk_below HZ.out.1 H3.out.1) 0).trans rfl
    by_cases h3 : tgt.kind = 3
    ·have k1 : ((tgt.kind : Int) == 3) = true := by rw [h3]; rfl
     have k1n : (tgt.kind == 3) = true := by rw [h3]; rfl
     have k2 : ((tgt.kind : Int) != 3) = false := by rw [h3]; rfl
     have k2n : (tgt.kind != 3) = false := by rw [h3]; rfl
     have HH3 := az h3
     clear h3
     cases b with
     | false =>
      go_wp2_with fail
      exact YES.out _ (HKK.out _ H3.out.1).1
     | true =>
      obtain ⟨neg, W, F, x, esg, N, r, hn, h8, hnr, hri, rfl⟩ := H3.out.2 (by trivial)
      have h8' : tgt.e - tgt.b ≤ 800 := by
       rw [part_size (V.le HT.out.2.2.2.2.2.1).2] at h8
       exact h8
      obtain ⟨hB3, hK3, hE3⟩ := HKK.out _ H3.out.1
      have CJ := az (jpGetFloat_num (ck := ck) HT.out.1 hE3 HT.out.2.1 HT.out.2.2.1 HT.out.2.2.2.1 HT.out.2.2.2.2.1 hK3 HK.out.2.1 HK.out.2.2.1 HH3.out hn h8' (fun r' h => same_near hn h8 hnr h) hri)
      have heq := order_self (neg := neg) hri
      obtain ⟨f, hf⟩ : ∃ f, f = FP.wordOf neg r := ⟨_, rfl⟩
      rw [← hf] at CJ heq ⊢
      clear hn h8 hnr hri h8' hB3 hK3 hE3 hf
      go_upto_region 10 with (go_at_call 7; refine CJ.out.mono ?_; rintro e w4 ⟨rfl, hbl⟩; dsimp only; have H4 := az (H3.out.1.trans (hbl.mono H3.out.1.size)); clear hbl)
      clear a0
      have a0 := (blk_cell (blk_below HZ.out.1 H4.out) 0).trans rfl
      have HQ := az (show R (.returned (.bool (FloatKind.f64.format.order f f == some .eq))) w4 by rw [heq]; exact YES.out _ (HKK.out _ H4.out).1)
      clear heq
      go_wp2_with fail
      exact HQ.out
    ·have k1 : ((tgt.kind : Int) == 3) = false := beqF
     have k1n : (tgt.kind == 3) = false := beqFn h3
     have k2 : ((tgt.kind : Int) != 3) = true := bneT
     have k2n : (tgt.kind != 3) = true := bneTn h3
     have HH3 := az h3
     clear h3
     obtain ⟨hB3, hK3, hE3⟩ := HKK.out _ H3.out.1
     have CJ := az (jpGetFloat_other (ck := ck) HT.out.1 hE3 HT.out.2.1 HT.out.2.2.1 HT.out.2.2.2.1 HT.out.2.2.2.2.1 hK3 HK.out.2.1 HK.out.2.2.1 HH3.out (V.kind6 HT.out.2.2.2.2.2.1))
     clear hB3 hK3 hE3
     go_upto_region 10 with (go_at_call 7; refine CJ.out.mono ?_; rintro e w4 ⟨rfl, hbl⟩; dsimp only; have H4 := az (H3.out.1.trans (hbl.mono H3.out.1.size)); clear hbl)
     clear a0
     have a0 := (blk_cell (blk_below HZ.out.1 H4.out) 0).trans rfl
     obtain ⟨f2, h2⟩ := second_calls (t := 9) (HKK.out _ H4.out).2.2 1 (Nat.le_refl _)
     have C2 := az h2
     have HW4 := az (HKK.out _ H4.out).1
     clear h2
     go_wp2_with (go_at_call 7; refine C2.out.mono ?_; rintro e w5 ⟨rfl, hbl⟩; dsimp only; have H5 := az hbl; clear hbl)
     exact YES.out _ ((HW4.out.alloc HW4.out.size _).trans (H5.out.mono (HW4.out.alloc HW4.out.size _).size))
 ·have t1 : decide ((2147483647 : Int) < (s.size : Int)) = true := dT
  have t1n : decide (2147483647 < s.size) = true := dT
  clear hs
  go_enter Tryz.func3, Tryz.ntmps3
  go_wp2_with fail
  exact YES.out _ (Below.refl _ _)
end JS
end Go.Proofs.YtbimfhaokgigkaaGreatDoor
