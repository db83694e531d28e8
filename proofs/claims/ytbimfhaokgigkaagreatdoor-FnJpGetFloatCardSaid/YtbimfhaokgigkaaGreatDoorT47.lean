/- Walks of functions of FnJpGetFloat (H8, H9); conditions stand ahead of each theorem. -/
import Derived.Test.YtbimfhaokgigkaaGreatDoorT46
import Derived.Test.YtbimfhaokgigkaaGreatDoorT13
import Derived.Test.YtbimfhaokgigkaaGreatDoorT03
import Derived.Laws.Closers25b
set_option linter.unusedVariables false
set_option linter.unusedSimpArgs false
set_option maxRecDepth 100000
set_option maxHeartbeats 1000000
namespace Go.Proofs.YtbimfhaokgigkaaGreatDoor
open Go.RowKit Go.Proofs.YtbimfhaokgigkaaGreatDoorW.PrintWords Go.Proofs.YtbimfhaokgigkaaGreatDoorW.PrintLast
structure Digs (ds : ByteArray) (g : Nat → Nat) : Prop where
 sz : ds.size ≤ 800
 bytes : ∀ k < ds.size, bt ds (k : Int) = (g k : Int)
 kinds : ∀ k < ds.size, 48 ≤ g k ∧ g k ≤ 57
theorem scaled_calls {ds : ByteArray} {g : Nat → Nat} (h : Digs ds g) (m : Nat) (hm : m < 2 ^ 64) (e P : Int) (neg : Bool) (he0 : -1100 ≤ e) (he1 : e ≤ 1100) (hp0 : -1300 ≤ P) (hp1 : P ≤ 1300) (w : World) :
  Calls Tryz.prog 47 #[.int .u64 (m : Int), .int .i64 e, .agg #[.bool neg, .string ds, .int .i64 P]] w (ScPost w (FP.scX m e P) (FP.scY (FP.dnum 0 g ds.size) e P)) := by
 by_cases c1 : 0 < e
 ·obtain ⟨ne, rfl⟩ := Int.eq_ofNat_of_zero_le (show 0 ≤ e by omega)
  by_cases c2 : 0 < P
  ·obtain ⟨np, rfl⟩ := Int.eq_ofNat_of_zero_le (show 0 ≤ P by omega)
   exact scaled_pp m ne np neg ds g hm h.sz h.bytes h.kinds (by omega) (by omega) (by omega) (by omega) w _ _ (by unfold FP.scX; rw [if_pos c1, if_pos c2, Nat.mul_one]; rfl) (by unfold FP.scY; rw [if_pos c1, if_pos c2]; rfl)
  ·obtain ⟨np, hnp⟩ := Int.eq_ofNat_of_zero_le (show 0 ≤ -P by omega)
   obtain rfl : P = -(np : Int) := by omega
   have e2 : (- -(np : Int)).toNat = np := by omega
   exact scaled_pn m ne np neg ds g hm h.sz h.bytes h.kinds (by omega) (by omega) (by omega) w _ _ (by unfold FP.scX; rw [if_pos c1, if_neg c2, e2]; rfl) (by unfold FP.scY; rw [if_pos c1, if_neg c2, Nat.mul_one])
 ·obtain ⟨ne, hne⟩ := Int.eq_ofNat_of_zero_le (show 0 ≤ -e by omega)
  obtain rfl : e = -(ne : Int) := by omega
  have e1 : (- -(ne : Int)).toNat = ne := by omega
  by_cases c2 : 0 < P
  ·obtain ⟨np, rfl⟩ := Int.eq_ofNat_of_zero_le (show 0 ≤ P by omega)
   exact scaled_np m ne np neg ds g hm h.sz h.bytes h.kinds (by omega) (by omega) (by omega) w _ _ (by unfold FP.scX; rw [if_neg c1, if_pos c2, Nat.mul_one]) (by unfold FP.scY; rw [if_neg c1, if_pos c2, e1]; rfl)
  ·obtain ⟨np, hnp⟩ := Int.eq_ofNat_of_zero_le (show 0 ≤ -P by omega)
   obtain rfl : P = -(np : Int) := by omega
   have e2 : (- -(np : Int)).toNat = np := by omega
   exact scaled_nn m ne np neg ds g hm h.sz h.bytes h.kinds (by omega) (by omega) w _ _ (by unfold FP.scX; rw [if_neg c1, if_neg c2, e2]) (by unfold FP.scY; rw [if_neg c1, if_neg c2, e1, Nat.mul_one])
def RungPost (w : World) (X : Rat) (e : Ending) (w' : World) : Prop := ∃ r : Nat, FP.Near X r ∧ e = .returned (.int .u64 (r : Int)) ∧ Below w.heap.size w w'
theorem sig_lt (r : Nat) : FP.sig r < 2 ^ 53 := by unfold FP.sig; split <;> omega
theorem plc_le {r : Nat} (h : r ≤ FP.INF) : -1074 ≤ FP.plc r ∧ FP.plc r ≤ 972 := by
 have h : r ≤ 9218868437227405312 := h
 unfold FP.plc
 split <;> omega
theorem cmp_val {r D : Nat} {P : Int} : FP.cmpI (FP.scX (FP.sig r) (FP.plc r) P) (FP.scY D (FP.plc r) P) ≤ 0 ↔ FP.val r ≤ (D : Rat) * FP.p10 P := by
 rw [FP.cmpI_le]
 have h1 := FP.sc_gt (m := FP.sig r) (D := D) (e := FP.plc r) (P := P)
 have h2 : FP.val r = (FP.sig r : Rat) * FP.p2 (FP.plc r) := rfl
 rw [h2]
 constructor
 ·intro h
  have : ¬ FP.scY D (FP.plc r) P < FP.scX (FP.sig r) (FP.plc r) P := by omega
  rw [h1] at this
  grind
 ·intro h
  have : ¬ FP.scY D (FP.plc r) P < FP.scX (FP.sig r) (FP.plc r) P := by rw [h1]; grind
  omega
theorem cmp_mid_lt {r D : Nat} {P : Int} : FP.cmpI (FP.scX (2 * FP.sig r + 1) (FP.plc r - 1) P) (FP.scY D (FP.plc r - 1) P) < 0 ↔ FP.mid r < (D : Rat) * FP.p10 P := by
 rw [FP.cmpI_lt]; exact FP.sc_lt
theorem cmp_mid_eq {r D : Nat} {P : Int} : FP.cmpI (FP.scX (2 * FP.sig r + 1) (FP.plc r - 1) P) (FP.scY D (FP.plc r - 1) P) = 0 ↔ FP.mid r = (D : Rat) * FP.p10 P := by
 rw [FP.cmpI_eq]; exact FP.sc_eq
theorem subU {a b : Nat} (h : b ≤ a) (ha : a < 2 ^ 64) : IntKind.u64.wrap ((a : Int) - (b : Int)) = ((a - b : Nat) : Int) := by
 rw [← Int.ofNat_sub h, wrapU_lt (by omega)]
theorem addU {a b : Nat} (h : a + b < 2 ^ 64) : IntKind.u64.wrap ((a : Int) + (b : Int)) = ((a + b : Nat) : Int) := by
 rw [← Int.natCast_add, wrapU_lt h]
theorem nearest_end {ds : ByteArray} {g : Nat → Nat} (h : Digs ds g) (P : Int) (X : Rat) (hX : X = (FP.dnum 0 g ds.size : Rat) * FP.p10 P) {lo hi : Nat} (hb : FP.Bis X lo hi) (h1 : hi - lo ≤ 1) {c : Int}
  (hc : c = FP.cmpI (FP.scX (2 * FP.sig lo + 1) (FP.plc lo - 1) P) (FP.scY (FP.dnum 0 g ds.size) (FP.plc lo - 1) P)) :
  (c < 0 ∨ (c = 0 ∧ FP.sig lo % 2 = 1) → FP.Near X (lo + 1)) ∧ (¬ (c < 0 ∨ (c = 0 ∧ FP.sig lo % 2 = 1)) → FP.Near X lo) := by
 have hn := hb.near h1
 rw [hc, cmp_mid_lt, cmp_mid_eq, ← hX]
 exact hn
theorem odd_int {S : Nat} {b : Bool} (h : decide (S % 2 = 1) = b) : ((((S : Int) % 2)) == 1) = b := by
 rw [← h, Bool.eq_iff_iff, beq_iff_eq, decide_eq_true_iff]
 omega
def CPost (w : World) (c : Int) (e : Ending) (w' : World) : Prop := e = .returned (.int .i64 c) ∧ Below w.heap.size w w'
theorem nearest_calls {ds : ByteArray} {g : Nat → Nat} (h : Digs ds g) (P : Int) (hp0 : -1300 ≤ P) (hp1 : P ≤ 1300) (neg : Bool) (w : World) (X : Rat) (hX : X = (FP.dnum 0 g ds.size : Rat) * FP.p10 P) :
  Calls Tryz.prog 34 #[.agg #[.bool neg, .string ds, .int .i64 P]] w (RungPost w X) := by
 have hX0 : 0 ≤ X := by
  rw [hX]
  exact Rat.mul_nonneg (by exact_mod_cast Nat.zero_le _) (Rat.le_of_lt (FP.p10_pos P))
 refine byR fun R hR => ?_
 have HR := az hR
 have CS := az (fun (r : Nat) (hr : r ≤ FP.INF) w1 => scaled_calls h (FP.sig r) (by have := sig_lt r; omega) (FP.plc r) P neg (by have := plc_le hr; omega) (by have := plc_le hr; omega) hp0 hp1 w1)
 have CM := az (fun (r : Nat) (hr : r ≤ FP.INF) w1 => scaled_calls h (2 * FP.sig r + 1) (by have := sig_lt r; omega) (FP.plc r - 1) P neg (by have := plc_le hr; omega) (by have := plc_le hr; omega) hp0 hp1 w1)
 have HD := az h
 have HX := az hX
 have HX0 := az hX0
 obtain ⟨N0, hN0⟩ : ∃ N0, N0 = FP.INF := ⟨_, rfl⟩
 have HN0 := az hN0
 clear hR h hX hX0 hp0 hp1 hN0
 go_enter Tryz.func34, Tryz.ntmps34
 go_wp2_with fail
 go_loopg [3, 4] N0 (fun q v3 v4 w' => ∃ lo hi : Nat, v3 = .int .u64 (lo : Int) ∧ v4 = .int .u64 (hi : Int) ∧ Aside0 (q = hi - lo ∧ FP.Bis X lo hi) ∧ Aside0 (Below (w.heap.size + 1) (w.alloc (.cells #[.bool neg, .string ds, .int .i64 P] 51)) w'))
 case atStart => exact ⟨0, N0, rfl, by rw [HN0.out]; rfl, ⟨⟨rfl, by rw [HN0.out]; exact FP.Bis.start HX0.out⟩⟩, ⟨Below.refl _ _⟩⟩
 case round =>
  obtain ⟨lo, hi, rfl, rfl, hk, hbel⟩ := hrel
  have hk1 := hk.out.1
  have hb1 := hk.out.2.lt
  have hb2 : hi ≤ 9218868437227405312 := hk.out.2.top
  have e1 := subU (a := hi) (b := lo) (by omega) (by omega)
  obtain ⟨d, hd⟩ : ∃ d, d = hi - lo := ⟨_, rfl⟩
  rw [← hd] at e1 hk1
  have k0 : wr.cell? ⟨w.heap.size, 0, none⟩ = some (.bool neg) := (hbel.out.cell (p := ⟨w.heap.size, 0, none⟩) (by simp)).trans (by simp)
  have k1 : wr.cell? ⟨w.heap.size, 1, none⟩ = some (.string ds) := (hbel.out.cell (p := ⟨w.heap.size, 1, none⟩) (by simp)).trans (by simp)
  have k2 : wr.cell? ⟨w.heap.size, 2, none⟩ = some (.int .i64 P) := (hbel.out.cell (p := ⟨w.heap.size, 2, none⟩) (by simp)).trans (by simp)
  have gw : w.heap.size < wr.heap.size := by have := hbel.out.size; simp at this; omega
  by_cases hlt : 1 < d
  ·obtain ⟨hf, hhf⟩ : ∃ hf, hf = d / 2 := ⟨_, rfl⟩
   have e2 : (d : Int) / 2 = (hf : Int) := by omega
   have e3 : IntKind.u64.wrap ((lo : Int) + IntKind.u64.wrap (hf : Int)) = ((lo + hf : Nat) : Int) := by rw [wrapU_lt (show hf < 2 ^ 64 by omega)]; exact addU (by omega)
   obtain ⟨md, hmd⟩ : ∃ md, md = lo + hf := ⟨_, rfl⟩
   rw [← hmd] at e3
   have t1 : decide ((1 : Int) < (d : Int)) = true := dT
   have t1n : decide (1 < d) = true := decide_eq_true hlt
   have hmi : md ≤ FP.INF := by show md ≤ 9218868437227405312; omega
   have CB := az (binary_calls md hmi wr)
   obtain ⟨c, hc⟩ : ∃ c, c = FP.cmpI (FP.scX (FP.sig md) (FP.plc md) P) (FP.scY (FP.dnum 0 g ds.size) (FP.plc md) P) := ⟨_, rfl⟩
   have CS2 : Aside0 (∀ w1, Calls Tryz.prog 47 #[.int .u64 ((FP.sig md : Nat) : Int), .int .i64 (FP.plc md), .agg #[.bool neg, .string ds, .int .i64 P]] w1 (CPost w1 c)) := ⟨fun w1 => by rw [hc]; exact CS.out md hmi w1⟩
   have hval := cmp_val (r := md) (D := FP.dnum 0 g ds.size) (P := P)
   rw [← hc, ← HX.out] at hval
   have HV := az (And.intro hval (And.intro hc (And.intro hmd (And.intro hhf (And.intro hd (And.intro hk1 (And.intro hlt (And.intro hb1 hb2))))))))
   clear hval hc hmd hhf hd hk1 hlt hb1 hb2 hmi
   obtain ⟨S, hS⟩ : ∃ S, S = FP.sig md := ⟨_, rfl⟩
   obtain ⟨L, hL⟩ : ∃ L, L = FP.plc md := ⟨_, rfl⟩
   rw [← hS, ← hL] at CB CS2
   clear hS hL
   by_cases hcc : c ≤ 0
   ·have t2 : decide (c ≤ 0) = true := decide_eq_true hcc
    go_wp2_with (first
     | (go_at_call 46; (with_reducible refine CB.out.mono ?_); rintro e w2 ⟨rfl, rfl⟩)
     | (go_at_call 47; (with_reducible refine (CS2.out _).mono ?_); rintro e w3 ⟨rfl, hbel3⟩))
    go_roundg (hi - md)
    case measure => have := HV.out; omega
    case rel =>
     have V := HV.out
     exact ⟨md, hi, rfl, rfl, ⟨⟨rfl, hk.out.2.up (by omega) (V.1.mp hcc)⟩⟩, ⟨hbel.out.trans (hbel3.mono (by omega))⟩⟩
   ·have t2 : decide (c ≤ 0) = false := decide_eq_false hcc
    go_wp2_with (first
     | (go_at_call 46; (with_reducible refine CB.out.mono ?_); rintro e w2 ⟨rfl, rfl⟩)
     | (go_at_call 47; (with_reducible refine (CS2.out _).mono ?_); rintro e w3 ⟨rfl, hbel3⟩))
    go_roundg (md - lo)
    case measure => have := HV.out; omega
    case rel =>
     have V := HV.out
     exact ⟨lo, md, rfl, rfl, ⟨⟨rfl, hk.out.2.down (by omega) (by omega) (fun h => absurd (V.1.mpr h) (by omega))⟩⟩, ⟨hbel.out.trans (hbel3.mono (by omega))⟩⟩
  ·have t1 : decide ((1 : Int) < (d : Int)) = false := dF
   have t1n : decide (1 < d) = false := decide_eq_false hlt
   have hmi : lo ≤ FP.INF := by show lo ≤ 9218868437227405312; omega
   have CB := az (binary_calls lo hmi wr)
   obtain ⟨c, hc⟩ : ∃ c, c = FP.cmpI (FP.scX (2 * FP.sig lo + 1) (FP.plc lo - 1) P) (FP.scY (FP.dnum 0 g ds.size) (FP.plc lo - 1) P) := ⟨_, rfl⟩
   have CS2 : Aside0 (∀ w1, Calls Tryz.prog 47 #[.int .u64 ((2 * FP.sig lo + 1 : Nat) : Int), .int .i64 (FP.plc lo - 1), .agg #[.bool neg, .string ds, .int .i64 P]] w1 (CPost w1 c)) := ⟨fun w1 => by rw [hc]; exact CM.out lo hmi w1⟩
   have EN := az (nearest_end HD.out P X HX.out hk.out.2 (by omega) hc)
   have hS53 := sig_lt lo
   have hplc := plc_le hmi
   obtain ⟨S, hS⟩ : ∃ S, S = FP.sig lo := ⟨_, rfl⟩
   obtain ⟨L, hL⟩ : ∃ L, L = FP.plc lo := ⟨_, rfl⟩
   rw [← hS, ← hL] at CB CS2
   rw [← hS] at EN hS53
   rw [← hL] at hplc
   obtain ⟨S2, hS2⟩ : ∃ S2, S2 = 2 * S + 1 := ⟨_, rfl⟩
   rw [← hS2] at CS2
   have e4 : IntKind.u64.wrap (IntKind.u64.wrap (2 * (S : Int)) + 1) = (S2 : Int) := by
    rw [show 2 * (S : Int) = ((2 * S : Nat) : Int) by omega, wrapU_lt (by omega), show ((2 * S : Nat) : Int) + 1 = ((2 * S + 1 : Nat) : Int) by omega, wrapU_lt (by omega), hS2]
   have e5 : IntKind.u64.wrap ((lo : Int) + 1) = ((lo + 1 : Nat) : Int) := by rw [show (lo : Int) + 1 = ((lo + 1 : Nat) : Int) by omega, wrapU_lt (by omega)]
   obtain ⟨pl1, pl2⟩ := hplc
   have FIN : Aside0 (∀ (r : Nat) w', FP.Near X r → Below w.heap.size w w' → R (.returned (.int .u64 (r : Int))) w') := ⟨fun r w' h1 h2 => by rw [HR.out]; exact ⟨r, h1, rfl, h2⟩⟩
   have BW : Aside0 (Below w.heap.size w wr) := ⟨((Below.refl _ _).alloc (Nat.le_refl _) _).trans (hbel.out.mono (by omega))⟩
   have G := az gw
   clear hc hS hL hS2 hd hk1 hlt hb1 hb2 hmi hS53 gw
   obtain ⟨od, hod⟩ : ∃ od, decide (S % 2 = 1) = od := ⟨_, rfl⟩
   have t5 := odd_int hod
   have t5n : (S % 2 == 1) = od := by rw [← hod]; rfl
   have HO := az hod
   clear hod
   rcases Int.lt_trichotomy c 0 with h1 | h1 | h1
   ·have t2 : decide (c < 0) = true := decide_eq_true h1
    go_wp2_with (first
     | (go_at_call 46; (with_reducible refine CB.out.mono ?_); rintro e w2 ⟨rfl, rfl⟩)
     | (go_at_call 47; (with_reducible refine (CS2.out _).mono ?_); rintro e w3 ⟨rfl, hbel3⟩))
    exact FIN.out (lo + 1) w3 (EN.out.1 (.inl h1)) (BW.out.trans (hbel3.mono (Nat.le_of_lt G.out)))
   ·subst h1
    cases od with
    | true =>
     go_wp2_with (first
      | (go_at_call 46; (with_reducible refine CB.out.mono ?_); rintro e w2 ⟨rfl, rfl⟩)
      | (go_at_call 47; (with_reducible refine (CS2.out _).mono ?_); rintro e w3 ⟨rfl, hbel3⟩))
     exact FIN.out (lo + 1) w3 (EN.out.1 (.inr ⟨(by first | trivial | rfl), of_decide_eq_true HO.out⟩)) (BW.out.trans (hbel3.mono (Nat.le_of_lt G.out)))
    | false =>
     go_wp2_with (first
      | (go_at_call 46; (with_reducible refine CB.out.mono ?_); rintro e w2 ⟨rfl, rfl⟩)
      | (go_at_call 47; (with_reducible refine (CS2.out _).mono ?_); rintro e w3 ⟨rfl, hbel3⟩))
     exact FIN.out lo w3 (EN.out.2 (fun h => by
      rcases h with h | ⟨_, h⟩
      ·exact absurd h (by decide)
      ·exact absurd h (of_decide_eq_false HO.out))) (BW.out.trans (hbel3.mono (Nat.le_of_lt G.out)))
   ·have t2 : decide (c < 0) = false := dF
    have t3 : (c == 0) = false := bF
    go_wp2_with (first
     | (go_at_call 46; (with_reducible refine CB.out.mono ?_); rintro e w2 ⟨rfl, rfl⟩)
     | (go_at_call 47; (with_reducible refine (CS2.out _).mono ?_); rintro e w3 ⟨rfl, hbel3⟩))
    exact FIN.out lo w3 (EN.out.2 (fun h => by rcases h with h | ⟨h, _⟩ <;> omega)) (BW.out.trans (hbel3.mono (Nat.le_of_lt G.out)))
def FloatPost (w : World) (X : Rat) (neg : Bool) (e : Ending) (w' : World) : Prop := ∃ r : Nat, FP.Near X r ∧ e = .returned (.float .f64 (FP.wordOf neg r)) ∧ Below w.heap.size w w'
theorem dec_low {D n : Nat} {P : Int} (h : D < 10 ^ n) (hp : P + (n : Int) ≤ -330) : (D : Rat) * FP.p10 P < FP.p10 (-330) := by
 have h1 : (D : Rat) < ((10 ^ n : Nat) : Rat) := FP.cast_lt h
 have h2 := (Rat.mul_lt_mul_right (FP.p10_pos P)).mpr h1
 rw [← FP.p10_nat, ← FP.p10_add] at h2
 have h3 := FP.p10_le (show (n : Int) + P ≤ -330 by omega)
 grind
theorem dec_high {D n : Nat} {P : Int} (h : 10 ^ n ≤ D) (hp : 310 ≤ P + (n : Int)) : FP.p10 310 ≤ (D : Rat) * FP.p10 P := by
 have h1 : ((10 ^ n : Nat) : Rat) ≤ (D : Rat) := FP.cast_le h
 have h2 := Rat.mul_le_mul_of_nonneg_right h1 (Rat.le_of_lt (FP.p10_pos P))
 rw [← FP.p10_nat, ← FP.p10_add] at h2
 have h3 := FP.p10_le (show (310 : Int) ≤ (n : Int) + P by omega)
 grind
theorem dnum_ge {g : Nat → Nat} {n : Nat} (h : 49 ≤ g 0) : 10 ^ n ≤ FP.dnum 0 g (n + 1) := by
 induction n with
 | zero => show 1 ≤ 0 * 10 + (g 0 - 48); omega
 | succ n ih =>
  show 10 ^ (n + 1) ≤ FP.dnum 0 g (n + 1) * 10 + (g (n + 1) - 48)
  rw [Nat.pow_succ]
  omega
theorem rung_small {X : Rat} {r : Nat} (h : FP.Near X r) : r < 2 ^ 63 := by
 have h1 : r ≤ 9218868437227405312 := h.1
 omega
theorem frombits2_run (x : Int) (w : World) : (callFunc 35 #[.int .u64 x]).run Tryz.prog w = .ok (.value (.float .f64 x.toNat)) w := by kernel_rfl
theorem near_nil_true {ds : ByteArray} {g : Nat → Nat} (hD : Digs ds g) (hlead : ds.size ≠ 0 → 49 ≤ g 0) (P Z : Int) (hZ : Z = P + (ds.size : Int)) (hw : wrap64 (P + (ds.size : Int)) = Z) (w : World) (X : Rat) (hX : X = (FP.dnum 0 g ds.size : Rat) * FP.p10 P)
  (h0 : ds.size = 0) : Calls Tryz.prog 19 #[.agg #[.bool true, .string ds, .int .i64 P]] w (FloatPost w X true) := by
 refine byR fun R hR => ?_
 have HR := az hR
 have hd0 : ds = ByteArray.empty := ByteArray.size_eq_zero_iff.mp h0
 subst hd0
 have NR := az (show FP.Near X 0 by
  have : FP.dnum 0 g ByteArray.empty.size = 0 := rfl
  rw [hX, this]
  have h2 := FP.near_self (r := 0) (by decide)
  rw [FP.val_zero] at h2
  have h3 : ((0 : Nat) : Rat) * FP.p10 P = 0 := by grind
  rw [h3]; exact h2)
 have e7 : Go.bits .or .u64 0 9223372036854775808 = (9223372036854775808 : Int) := by decide +kernel
 have hf := frombits2_run
 have HX := az hX
 clear hR hX hZ hD hlead h0
 go_enter Tryz.func19, Tryz.ntmps19
 go_wp2_with fail
 rw [HR.out]
 exact ⟨0, NR.out, by first | rfl | (rw [FP.wordOf_false]; rfl), (Below.refl _ _).alloc (Nat.le_refl _) _⟩
theorem near_low_true {ds : ByteArray} {g : Nat → Nat} (hD : Digs ds g) (hlead : ds.size ≠ 0 → 49 ≤ g 0) (P Z : Int) (hZ : Z = P + (ds.size : Int)) (hw : wrap64 (P + (ds.size : Int)) = Z) (w : World) (X : Rat) (hX : X = (FP.dnum 0 g ds.size : Rat) * FP.p10 P)
  (h0 : ds.size ≠ 0) (hz : Z < -400) : Calls Tryz.prog 19 #[.agg #[.bool true, .string ds, .int .i64 P]] w (FloatPost w X true) := by
 refine byR fun R hR => ?_
 have HR := az hR
 have hds : (ds = ByteArray.empty) = False := eq_false (fun e => h0 (by rw [e]; rfl))
 have hd2 : (ds.toList = ([] : List UInt8)) = False := eq_false (fun e => h0 (by rw [(toList_nil_iff_emptyBytes ds).mp e]; rfl))
 have hd4 : ds.toList.isEmpty = false := by rw [List.isEmpty_eq_false_iff]; intro e; rw [hd2] at e; exact e
 have NR := az (show FP.Near X 0 by
  rw [hX]
  exact FP.near_tiny (dec_low (FP.dnum_lt (j := 0) (by decide) (fun k hk => (hD.kinds k hk).2) ds.size (Nat.le_refl _)) (by omega)))
 have t1 : decide (Z < -400) = true := decide_eq_true hz
 have e7 : Go.bits .or .u64 0 9223372036854775808 = (9223372036854775808 : Int) := by decide +kernel
 have hf := frombits2_run
 have HX := az hX
 clear hR hX hZ hD hlead h0 hz
 go_enter Tryz.func19, Tryz.ntmps19
 go_wp2_with fail
 rw [HR.out]
 exact ⟨0, NR.out, by first | rfl | (rw [FP.wordOf_false]; rfl), (Below.refl _ _).alloc (Nat.le_refl _) _⟩
theorem near_high_true {ds : ByteArray} {g : Nat → Nat} (hD : Digs ds g) (hlead : ds.size ≠ 0 → 49 ≤ g 0) (P Z : Int) (hZ : Z = P + (ds.size : Int)) (hw : wrap64 (P + (ds.size : Int)) = Z) (w : World) (X : Rat) (hX : X = (FP.dnum 0 g ds.size : Rat) * FP.p10 P)
  (h0 : ds.size ≠ 0) (hz : 400 < Z) : Calls Tryz.prog 19 #[.agg #[.bool true, .string ds, .int .i64 P]] w (FloatPost w X true) := by
 refine byR fun R hR => ?_
 have HR := az hR
 have hds : (ds = ByteArray.empty) = False := eq_false (fun e => h0 (by rw [e]; rfl))
 have hd2 : (ds.toList = ([] : List UInt8)) = False := eq_false (fun e => h0 (by rw [(toList_nil_iff_emptyBytes ds).mp e]; rfl))
 have hd4 : ds.toList.isEmpty = false := by rw [List.isEmpty_eq_false_iff]; intro e; rw [hd2] at e; exact e
 have NR := az (show FP.Near X FP.INF by
  rw [hX]
  obtain ⟨n, hn⟩ : ∃ n, ds.size = n + 1 := ⟨ds.size - 1, by omega⟩
  rw [hn]
  exact FP.near_huge (dec_high (dnum_ge (hlead h0)) (by omega)))
 have t1 : decide (Z < -400) = false := dF
 have t2 : decide (400 < Z) = true := decide_eq_true hz
 have e7 : Go.bits .or .u64 9218868437227405312 9223372036854775808 = (18442240474082181120 : Int) := by decide +kernel
 have hf := frombits2_run
 have HX := az hX
 clear hR hX hZ hD hlead h0 hz
 go_enter Tryz.func19, Tryz.ntmps19
 go_wp2_with fail
 rw [HR.out]
 exact ⟨FP.INF, NR.out, by first | rfl | (rw [FP.wordOf_false]; rfl), (Below.refl _ _).alloc (Nat.le_refl _) _⟩
theorem near_mid_true {ds : ByteArray} {g : Nat → Nat} (hD : Digs ds g) (hlead : ds.size ≠ 0 → 49 ≤ g 0) (P Z : Int) (hZ : Z = P + (ds.size : Int)) (hw : wrap64 (P + (ds.size : Int)) = Z) (w : World) (X : Rat) (hX : X = (FP.dnum 0 g ds.size : Rat) * FP.p10 P)
  (h0 : ds.size ≠ 0) (hz0 : -400 ≤ Z) (hz1 : Z ≤ 400) : Calls Tryz.prog 19 #[.agg #[.bool true, .string ds, .int .i64 P]] w (FloatPost w X true) := by
 refine byR fun R hR => ?_
 have HR := az hR
 have hds : (ds = ByteArray.empty) = False := eq_false (fun e => h0 (by rw [e]; rfl))
 have hd2 : (ds.toList = ([] : List UInt8)) = False := eq_false (fun e => h0 (by rw [(toList_nil_iff_emptyBytes ds).mp e]; rfl))
 have hd4 : ds.toList.isEmpty = false := by rw [List.isEmpty_eq_false_iff]; intro e; rw [hd2] at e; exact e
 have CN := az (fun w1 => nearest_calls hD P (by have := hD.sz; omega) (by omega) true w1 X hX)
 have t1 : decide (Z < -400) = false := dF
 have t2 : decide (400 < Z) = false := dF
 have hf := frombits2_run
 have HX := az hX
 clear hR hX hZ hD hlead h0 hz0 hz1
 go_enter Tryz.func19, Tryz.ntmps19
 go_wp2_with (go_at_call 34; refine (CN.out _).mono ?_; rintro e w3 ⟨r, hn, rfl, hbel3⟩; have e7 := or_sign (rung_small hn); have k0 : w3.cell? ⟨w.heap.size, 0, none⟩ = some (.bool true) := (hbel3.cell (p := ⟨w.heap.size, 0, none⟩) (by simp)).trans (by simp))
 rw [HR.out]
 exact ⟨r, hn, by first | rfl | (rw [FP.wordOf_false]; rfl), (((Below.refl _ _).alloc (Nat.le_refl _) _)).trans (hbel3.mono (by simp))⟩
theorem near_nil_false {ds : ByteArray} {g : Nat → Nat} (hD : Digs ds g) (hlead : ds.size ≠ 0 → 49 ≤ g 0) (P Z : Int) (hZ : Z = P + (ds.size : Int)) (hw : wrap64 (P + (ds.size : Int)) = Z) (w : World) (X : Rat) (hX : X = (FP.dnum 0 g ds.size : Rat) * FP.p10 P)
  (h0 : ds.size = 0) : Calls Tryz.prog 19 #[.agg #[.bool false, .string ds, .int .i64 P]] w (FloatPost w X false) := by
 refine byR fun R hR => ?_
 have HR := az hR
 have hd0 : ds = ByteArray.empty := ByteArray.size_eq_zero_iff.mp h0
 subst hd0
 have NR := az (show FP.Near X 0 by
  have : FP.dnum 0 g ByteArray.empty.size = 0 := rfl
  rw [hX, this]
  have h2 := FP.near_self (r := 0) (by decide)
  rw [FP.val_zero] at h2
  have h3 : ((0 : Nat) : Rat) * FP.p10 P = 0 := by grind
  rw [h3]; exact h2)
 have hf := frombits2_run
 have HX := az hX
 clear hR hX hZ hD hlead h0
 go_enter Tryz.func19, Tryz.ntmps19
 go_wp2_with fail
 rw [HR.out]
 exact ⟨0, NR.out, by first | rfl | (rw [FP.wordOf_false]; rfl), (Below.refl _ _).alloc (Nat.le_refl _) _⟩
theorem near_low_false {ds : ByteArray} {g : Nat → Nat} (hD : Digs ds g) (hlead : ds.size ≠ 0 → 49 ≤ g 0) (P Z : Int) (hZ : Z = P + (ds.size : Int)) (hw : wrap64 (P + (ds.size : Int)) = Z) (w : World) (X : Rat) (hX : X = (FP.dnum 0 g ds.size : Rat) * FP.p10 P)
  (h0 : ds.size ≠ 0) (hz : Z < -400) : Calls Tryz.prog 19 #[.agg #[.bool false, .string ds, .int .i64 P]] w (FloatPost w X false) := by
 refine byR fun R hR => ?_
 have HR := az hR
 have hds : (ds = ByteArray.empty) = False := eq_false (fun e => h0 (by rw [e]; rfl))
 have hd2 : (ds.toList = ([] : List UInt8)) = False := eq_false (fun e => h0 (by rw [(toList_nil_iff_emptyBytes ds).mp e]; rfl))
 have hd4 : ds.toList.isEmpty = false := by rw [List.isEmpty_eq_false_iff]; intro e; rw [hd2] at e; exact e
 have NR := az (show FP.Near X 0 by
  rw [hX]
  exact FP.near_tiny (dec_low (FP.dnum_lt (j := 0) (by decide) (fun k hk => (hD.kinds k hk).2) ds.size (Nat.le_refl _)) (by omega)))
 have t1 : decide (Z < -400) = true := decide_eq_true hz
 have hf := frombits2_run
 have HX := az hX
 clear hR hX hZ hD hlead h0 hz
 go_enter Tryz.func19, Tryz.ntmps19
 go_wp2_with fail
 rw [HR.out]
 exact ⟨0, NR.out, by first | rfl | (rw [FP.wordOf_false]; rfl), (Below.refl _ _).alloc (Nat.le_refl _) _⟩
theorem near_high_false {ds : ByteArray} {g : Nat → Nat} (hD : Digs ds g) (hlead : ds.size ≠ 0 → 49 ≤ g 0) (P Z : Int) (hZ : Z = P + (ds.size : Int)) (hw : wrap64 (P + (ds.size : Int)) = Z) (w : World) (X : Rat) (hX : X = (FP.dnum 0 g ds.size : Rat) * FP.p10 P)
  (h0 : ds.size ≠ 0) (hz : 400 < Z) : Calls Tryz.prog 19 #[.agg #[.bool false, .string ds, .int .i64 P]] w (FloatPost w X false) := by
 refine byR fun R hR => ?_
 have HR := az hR
 have hds : (ds = ByteArray.empty) = False := eq_false (fun e => h0 (by rw [e]; rfl))
 have hd2 : (ds.toList = ([] : List UInt8)) = False := eq_false (fun e => h0 (by rw [(toList_nil_iff_emptyBytes ds).mp e]; rfl))
 have hd4 : ds.toList.isEmpty = false := by rw [List.isEmpty_eq_false_iff]; intro e; rw [hd2] at e; exact e
 have NR := az (show FP.Near X FP.INF by
  rw [hX]
  obtain ⟨n, hn⟩ : ∃ n, ds.size = n + 1 := ⟨ds.size - 1, by omega⟩
  rw [hn]
  exact FP.near_huge (dec_high (dnum_ge (hlead h0)) (by omega)))
 have t1 : decide (Z < -400) = false := dF
 have t2 : decide (400 < Z) = true := decide_eq_true hz
 have hf := frombits2_run
 have HX := az hX
 clear hR hX hZ hD hlead h0 hz
 go_enter Tryz.func19, Tryz.ntmps19
 go_wp2_with fail
 rw [HR.out]
 exact ⟨FP.INF, NR.out, by first | rfl | (rw [FP.wordOf_false]; rfl), (Below.refl _ _).alloc (Nat.le_refl _) _⟩
theorem near_mid_false {ds : ByteArray} {g : Nat → Nat} (hD : Digs ds g) (hlead : ds.size ≠ 0 → 49 ≤ g 0) (P Z : Int) (hZ : Z = P + (ds.size : Int)) (hw : wrap64 (P + (ds.size : Int)) = Z) (w : World) (X : Rat) (hX : X = (FP.dnum 0 g ds.size : Rat) * FP.p10 P)
  (h0 : ds.size ≠ 0) (hz0 : -400 ≤ Z) (hz1 : Z ≤ 400) : Calls Tryz.prog 19 #[.agg #[.bool false, .string ds, .int .i64 P]] w (FloatPost w X false) := by
 refine byR fun R hR => ?_
 have HR := az hR
 have hds : (ds = ByteArray.empty) = False := eq_false (fun e => h0 (by rw [e]; rfl))
 have hd2 : (ds.toList = ([] : List UInt8)) = False := eq_false (fun e => h0 (by rw [(toList_nil_iff_emptyBytes ds).mp e]; rfl))
 have hd4 : ds.toList.isEmpty = false := by rw [List.isEmpty_eq_false_iff]; intro e; rw [hd2] at e; exact e
 have CN := az (fun w1 => nearest_calls hD P (by have := hD.sz; omega) (by omega) false w1 X hX)
 have t1 : decide (Z < -400) = false := dF
 have t2 : decide (400 < Z) = false := dF
 have hf := frombits2_run
 have HX := az hX
 clear hR hX hZ hD hlead h0 hz0 hz1
 go_enter Tryz.func19, Tryz.ntmps19
 go_wp2_with (go_at_call 34; refine (CN.out _).mono ?_; rintro e w3 ⟨r, hn, rfl, hbel3⟩; have k0 : w3.cell? ⟨w.heap.size, 0, none⟩ = some (.bool false) := (hbel3.cell (p := ⟨w.heap.size, 0, none⟩) (by simp)).trans (by simp))
 rw [HR.out]
 exact ⟨r, hn, by first | rfl | (rw [FP.wordOf_false]; rfl), (((Below.refl _ _).alloc (Nat.le_refl _) _)).trans (hbel3.mono (by simp))⟩
theorem near_calls {ds : ByteArray} {g : Nat → Nat} (hD : Digs ds g) (hlead : ds.size ≠ 0 → 49 ≤ g 0) (P : Int) (hP : -4000000000000000 ≤ P ∧ P ≤ 4000000000000000) (neg : Bool) (w : World) :
  Calls Tryz.prog 19 #[.agg #[.bool neg, .string ds, .int .i64 P]] w (FloatPost w ((FP.dnum 0 g ds.size : Rat) * FP.p10 P) neg) := by
 have hs := hD.sz
 have hw : wrap64 (P + (ds.size : Int)) = P + (ds.size : Int) := by unfold wrap64; omega
 by_cases h0 : ds.size = 0
 ·cases neg
  ·exact near_nil_false hD hlead P _ rfl hw w _ rfl h0
  ·exact near_nil_true hD hlead P _ rfl hw w _ rfl h0
 ·by_cases h1 : P + (ds.size : Int) < -400
  ·cases neg
   ·exact near_low_false hD hlead P _ rfl hw w _ rfl h0 h1
   ·exact near_low_true hD hlead P _ rfl hw w _ rfl h0 h1
  ·by_cases h2 : 400 < P + (ds.size : Int)
   ·cases neg
    ·exact near_high_false hD hlead P _ rfl hw w _ rfl h0 h2
    ·exact near_high_true hD hlead P _ rfl hw w _ rfl h0 h2
   ·cases neg
    ·exact near_mid_false hD hlead P _ rfl hw w _ rfl h0 (by omega) (by omega)
    ·exact near_mid_true hD hlead P _ rfl hw w _ rfl h0 (by omega) (by omega)
end Go.Proofs.YtbimfhaokgigkaaGreatDoor
