/- Walks of functions of FnJpGetFloat (H5, H6, H7); conditions stand ahead of each theorem. -/
import Derived.Test.YtbimfhaokgigkaaGreatDoorT45
set_option linter.unusedVariables false
set_option linter.unusedSimpArgs false
set_option maxRecDepth 100000
set_option maxHeartbeats 4000000
namespace Go.Proofs.YtbimfhaokgigkaaGreatDoor
open Go.RowKit Go.Proofs.YtbimfhaokgigkaaGreatDoorW.PrintWords Go.Proofs.YtbimfhaokgigkaaGreatDoorW.PrintLast
theorem against_short (w : World) (A A' : Option Addr) (n c n' c' : Nat) (h : n < n') :
  Calls Tryz.prog 57 #[.slice A n c, .slice A' n' c'] w fun e w' => e = .returned (.int .i64 (-1)) ∧ Drew w w' := by
 have t1 : ((n : Int) == (n' : Int)) = false := bF
 have t2 : ((n : Int) != (n' : Int)) = true := nT
 have t3 : decide ((n : Int) < (n' : Int)) = true := dT
 have t3n : decide (n < n') = true := decide_eq_true h
 have t1n : (n == n') = false := bF
 have t2n : (n != n') = true := nT
 clear h
 go_enter Tryz.func57, Tryz.ntmps57
 go_wp2_with fail
 go_ret
 exact ⟨rfl, Drew.refl _⟩
theorem against_long (w : World) (A A' : Option Addr) (n c n' c' : Nat) (h : n' < n) :
  Calls Tryz.prog 57 #[.slice A n c, .slice A' n' c'] w fun e w' => e = .returned (.int .i64 1) ∧ Drew w w' := by
 have t1 : ((n : Int) == (n' : Int)) = false := bF
 have t2 : ((n : Int) != (n' : Int)) = true := nT
 have t3 : decide ((n : Int) < (n' : Int)) = false := dF
 have t3n : decide (n < n') = false := dF
 have t1n : (n == n') = false := bF
 have t2n : (n != n') = true := nT
 clear h
 go_enter Tryz.func57, Tryz.ntmps57
 go_wp2_with fail
 go_ret
 exact ⟨rfl, Drew.refl _⟩
def CmpPost (w : World) (x y : Nat) (e : Ending) (w' : World) : Prop := e = .returned (.int .i64 (FP.cmpI x y)) ∧ Drew w w'
theorem against_same (w : World) {x y : List Nat} (hx : FP.Nrm x) (hy : FP.Nrm y) (n : Nat) (hxn : n = x.length) (hyn : n = y.length) (hn : n ≤ 10000) (A A' : Option Addr) (c c' : Nat) (hcc : n ≤ c) (hcc' : n ≤ c')
  (hA : 0 < n → ∃ g g', A = some ⟨g, 0, none⟩ ∧ A' = some ⟨g', 0, none⟩ ∧ ∀ j < n, w.cell? ⟨g, j, none⟩ = some (.int .u32 ((x.getD j 0 : Nat) : Int)) ∧ w.cell? ⟨g', j, none⟩ = some (.int .u32 ((y.getD j 0 : Nat) : Int))) :
  Calls Tryz.prog 57 #[.slice A n c, .slice A' n c'] w (CmpPost w (FP.n32 x) (FP.n32 y)) := by
 refine byR fun R hR => ?_
 have HR := az hR
 have HX := az hx
 have HY := az hy
 have HXN := az hxn
 have HYN := az hyn
 have HA := az hA
 have HC := az2 hcc hcc'
 have t1 : ((n : Int) != (n : Int)) = false := by simp
 clear hR hx hy hxn hyn hA hcc hcc'
 go_enter Tryz.func57, Tryz.ntmps57
 go_wp2_with fail
 go_loopg [5] n (fun q v5 w' => ∃ j : Nat, v5 = .int .i64 ((j : Int) - 1) ∧ Aside0 (j ≤ n ∧ q = j ∧ ∀ i, j ≤ i → x.getD i 0 = y.getD i 0) ∧ Aside0 (Drew w w'))
 case atStart => exact ⟨n, rfl, ⟨⟨Nat.le_refl _, rfl, fun i hi => by rw [FP.getD_out (by have := HXN.out; omega), FP.getD_out (by have := HYN.out; omega)]⟩⟩, ⟨Drew.refl _⟩⟩
 case round =>
  obtain ⟨j, rfl, hk, hd⟩ := hrel
  have hjn := hk.out.1
  by_cases hj : j = 0
  ·subst hj
   have t2 : decide ((0 : Int) ≤ -1) = false := rfl
   go_wp2_with fail
   rw [HR.out]
   refine ⟨?_, hd.out⟩
   have e : x = y := by
    apply List.ext_getElem (by rw [← HXN.out, ← HYN.out])
    intro k h1 h2
    have := hk.out.2.2 k (Nat.zero_le _)
    rwa [FP.getD_in h1, FP.getD_in h2] at this
   subst e
   unfold FP.cmpI
   rw [if_neg (by omega), if_pos rfl]
   rfl
  ·obtain ⟨i, rfl⟩ : ∃ i, j = i + 1 := ⟨j - 1, by omega⟩
   obtain ⟨g, g', hg, hg', hc⟩ := HA.out (by omega)
   subst hg hg'
   obtain ⟨hc1, hc2⟩ := hc i (by omega)
   obtain ⟨nd, hnd⟩ := hd.out
   subst hnd
   have d1 : w.cell? ⟨g, i, none⟩ = some (.int .u32 ((x.getD i 0 : Nat) : Int)) := hc1
   have d2 : w.cell? ⟨g', i, none⟩ = some (.int .u32 ((y.getD i 0 : Nat) : Int)) := hc2
   have ei : ((i + 1 : Nat) : Int) - 1 = (i : Int) := by omega
   have HJ := az hj
   have hin : i < n := by omega
   have p5 : (0 ≤ (i : Int)) = True := eT
   have q5 : ((i : Int) < (n : Int)) = True := eT
   rw [ei]
   clear hc hc1 hc2 hj ei
   obtain ⟨a, ha⟩ : ∃ a, a = x.getD i 0 := ⟨_, rfl⟩
   obtain ⟨b, hb⟩ : ∃ b, b = y.getD i 0 := ⟨_, rfl⟩
   rw [← ha] at d1
   rw [← hb] at d2
   have Ha := az ha
   have Hb := az hb
   clear ha hb
   rcases Nat.lt_trichotomy a b with hlt | he | hgt
   ·have t3 : decide ((a : Int) < (b : Int)) = true := dT
    have t3n : decide (a < b) = true := decide_eq_true hlt
    have HL := az hlt
    clear hlt
    go_wp2_with fail
    go_quiet (fail)
    go_wp2_with fail
    rw [HR.out]
    refine ⟨?_, (Drew.step _ _).trans (Drew.step _ _)⟩
    have h1 := FP.n32_at HX.out HY.out (by rw [← HXN.out, ← HYN.out]) (show i < x.length by rw [← HXN.out]; exact hin) (fun k hk' => hk.out.2.2 k (by omega)) (by rw [← Ha.out, ← Hb.out]; exact HL.out)
    unfold FP.cmpI
    rw [if_pos h1]
    rfl
   ·subst he
    have t3 : decide ((a : Int) < (a : Int)) = false := dF
    have t3n : decide (a < a) = false := dF
    go_wp2_with fail
    go_quiet (fail)
    go_wp2_with fail
    go_quiet (fail)
    go_wp2_with fail
    go_roundg i
    case measure => have := hk.out.2.1; omega
    case rel =>
     refine ⟨i, rfl, ⟨⟨by omega, rfl, fun k hk' => ?_⟩⟩, ⟨⟨_, rfl⟩⟩⟩
     by_cases e : k = i
     ·subst e; rw [← Ha.out, ← Hb.out]
     ·exact hk.out.2.2 k (by omega)
   ·have t3 : decide ((a : Int) < (b : Int)) = false := dF
    have t3n : decide (a < b) = false := dF
    have t4 : decide ((b : Int) < (a : Int)) = true := dT
    have t4n : decide (b < a) = true := decide_eq_true hgt
    have HL := az hgt
    clear hgt
    go_wp2_with fail
    go_quiet (fail)
    go_wp2_with fail
    go_quiet (fail)
    go_wp2_with fail
    rw [HR.out]
    refine ⟨?_, ((Drew.step _ _).trans (Drew.step _ _)).trans (Drew.step _ _)⟩
    have h1 := FP.n32_at HY.out HX.out (by rw [← HXN.out, ← HYN.out]) (show i < y.length by rw [← HYN.out]; exact hin) (fun k hk' => (hk.out.2.2 k (by omega)).symm) (by rw [← Ha.out, ← Hb.out]; exact HL.out)
    unfold FP.cmpI
    rw [if_neg (by omega), if_neg (by omega)]
    rfl
theorem against_calls {w : World} {vx vy : Value} {X Y B B' : Nat} (hx : NumRd w vx X B) (hy : NumRd w vy Y B') (hB : B ≤ 10000) (hB' : B' ≤ 10000) : Calls Tryz.prog 57 #[vx, vy] w (CmpPost w X Y) := by
 obtain ⟨x, ⟨A, c, rfl, hc, hA⟩, nx, rfl, bx⟩ := hx
 obtain ⟨y, ⟨A', c', rfl, hc', hA'⟩, ny, rfl, b_y⟩ := hy
 rcases Nat.lt_trichotomy x.length y.length with h | h | h
 ·refine (against_short w A A' _ c _ c' h).mono ?_
  rintro e w' ⟨he, hd⟩
  refine ⟨?_, hd⟩
  have h1 := FP.n32_short nx ny h
  unfold FP.cmpI
  rw [if_pos h1]; exact he
 ·have := against_same w nx ny x.length rfl h (by omega) A A' c c' hc (by omega) (fun h0 => ?_)
  ·rw [← h]; exact this
  ·obtain ⟨g, e, _, h1⟩ := hA h0
   obtain ⟨g', e', _, h1'⟩ := hA' (by omega)
   exact ⟨g, g', e, e', fun j hj => ⟨h1 j hj, h1' j (by omega)⟩⟩
 ·refine (against_long w A A' _ c _ c' h).mono ?_
  rintro e w' ⟨he, hd⟩
  refine ⟨?_, hd⟩
  have h1 := FP.n32_short ny nx h
  unfold FP.cmpI
  rw [if_neg (by omega), if_neg (by omega)]; exact he
theorem or_top {f : Nat} (h : f < 2 ^ 52) : Go.bits .or .u64 (f : Int) 4503599627370496 = ((2 ^ 52 + f : Nat) : Int) := by
 have h1 := or64 (a := f) (b := 2 ^ 52) (by omega) (by decide)
 have h2 : f ||| 2 ^ 52 = 2 ^ 52 + f := by
  rw [Nat.or_comm]
  have := Nat.two_pow_add_eq_or_of_lt h 1
  rw [Nat.mul_one] at this
  exact this.symm
 rw [h2] at h1
 exact h1
theorem and_low {r : Nat} (h : r < 2 ^ 64) : Go.bits .and .u64 (r : Int) 4503599627370495 = ((r % 2 ^ 52 : Nat) : Int) := by
 have h1 := mask64 (x := (r : Int)) 52 (by decide) (by omega) (by omega)
 have h2 : (2 : Int) ^ 52 - 1 = 4503599627370495 := by decide
 rw [h2] at h1
 rw [h1]
 omega
theorem binary_calls (r : Nat) (hr : r ≤ FP.INF) (w : World) : Calls Tryz.prog 46 #[.int .u64 (r : Int)] w fun e w' => e = .returned (.tuple #[.int .u64 (FP.sig r : Int), .int .i64 (FP.plc r)]) ∧ w' = w := by
 have hr2 : r ≤ 9218868437227405312 := hr
 have h1 := and_low (r := r) (by omega)
 obtain ⟨f, hf⟩ : ∃ f, f = r % 2 ^ 52 := ⟨_, rfl⟩
 obtain ⟨q, hq⟩ : ∃ q, q = r / 2 ^ 52 := ⟨_, rfl⟩
 have h2 : (r : Int) / 4503599627370496 = (q : Int) := by omega
 rw [← hf] at h1
 have hf2 : f < 2 ^ 52 := by omega
 have h3 := or_top hf2
 obtain ⟨M, hM⟩ : ∃ M, M = 2 ^ 52 + f := ⟨_, rfl⟩
 rw [← hM] at h3
 have hq2 : q ≤ 2047 := by omega
 have hqi : (q : Int) ≤ 2047 := by omega
 obtain ⟨S, hS⟩ : ∃ S, S = FP.sig r := ⟨_, rfl⟩
 obtain ⟨L, hL⟩ : ∃ L, L = FP.plc r := ⟨_, rfl⟩
 rw [← hS, ← hL]
 by_cases c : q = 0
 ·have c1 : ((q : Int) == 0) = true := bT
  have c1n : (q == 0) = true := bT
  have HS := az (show S = f by rw [hS]; unfold FP.sig; rw [if_pos (by omega)]; omega)
  have HL := az (show L = -1074 by rw [hL]; unfold FP.plc; rw [if_pos (by omega)])
  clear hS hL hM hr hr2 hf hq hf2 c
  go_enter Tryz.func46, Tryz.ntmps46
  go_wp2
  go_ret2
  rw [HS.out, HL.out]
  exact ⟨rfl, rfl⟩
 ·have c1 : ((q : Int) == 0) = false := bF
  have c1n : (q == 0) = false := bF
  have HS := az (show S = M by rw [hS, hM, hf]; unfold FP.sig; rw [if_neg (by omega)])
  have HL := az (show L = (q : Int) - 1075 by rw [hL, hq]; unfold FP.plc; rw [if_neg (by omega)])
  clear hS hL hM hr hr2 hf hq hf2 c
  go_enter Tryz.func46, Tryz.ntmps46
  go_wp2
  go_ret2
  rw [HS.out, HL.out]
  exact ⟨rfl, rfl⟩
def ScPost (w : World) (x y : Nat) (e : Ending) (w' : World) : Prop := e = .returned (.int .i64 (FP.cmpI x y)) ∧ Below w.heap.size w w'
theorem scaled_pp (m ne np : Nat) (neg : Bool) (ds : ByteArray) (g : Nat → Nat) (hm : m < 2 ^ 64) (hs : ds.size ≤ 800) (hb : ∀ k < ds.size, bt ds (k : Int) = (g k : Int)) (hk : ∀ k < ds.size, 48 ≤ g k ∧ g k ≤ 57)
  (he0 : 0 < ne) (he : ne ≤ 1100) (hp0 : 0 < np) (hp : np ≤ 1300) (w : World) (X Y : Nat) (hX : X = m * 2 ^ ne) (hY : Y = FP.dnum 0 g ds.size * 10 ^ np) :
  Calls Tryz.prog 47 #[.int .u64 (m : Int), .int .i64 ((ne : Int)), .agg #[.bool neg, .string ds, .int .i64 ((np : Int))]] w (ScPost w X Y) := by
 refine byR fun R hR => ?_
 have HR := az hR
 have C1 := az (fun w1 => ofWord_calls m hm w1)
 have C2 := az (fun w1 => ofDigits_calls ds g (by omega) hb hk w1)
 have HS := az hs
 obtain ⟨D, hD⟩ : ∃ D, D = FP.dnum 0 g ds.size := ⟨_, rfl⟩
 rw [← hD] at hY C2
 have HXY := az2 hX hY
 have t1 : decide ((0 : Int) < (ne : Int)) = true := dT
 have t2 : decide ((0 : Int) < (np : Int)) = true := dT
 have t1n : decide (0 < ne) = true := decide_eq_true he0
 have t2n : decide (0 < np) = true := decide_eq_true hp0
 clear hR hX hY hm hs hb hk hD he0 hp0
 go_enter Tryz.func47, Tryz.ntmps47
 go_wp2_with fail
 go_region_held3 (fun w' => w'.cell? ⟨w.heap.size, 1, none⟩ = some (.string ds)) (first | go_keep | (refine (hbel1.cell (p := ⟨w.heap.size, 1, none⟩) ?_).trans ?_ <;> first | assumption | (simp; done) | (have hz := hbel2.size; simp at hz; simp; omega)) | (refine (hbel2.cell (p := ⟨w.heap.size, 1, none⟩) ?_).trans ?_ <;> first | assumption | (simp; done) | (have hz := hbel1.size; simp at hz; simp; omega))) (first | (go_at_call 53; refine (C1.out _).mono ?_; rintro e w1 ⟨v1, rfl, hrd1, hbel1⟩) | (go_at_call 54; refine (C2.out _).mono ?_; rintro e w2 ⟨v2, rfl, hrd2, hbel2⟩))
 have g1 : w.heap.size < w1.heap.size := by have hz := hbel1.size; simp at hz; omega
 have g2 : w.heap.size < w2.heap.size := Nat.lt_of_lt_of_le g1 hbel2.size
 have c2 : w2.cell? ⟨w.heap.size, 2, none⟩ = some (.int .i64 ((np : Int))) := (hbel2.cell (p := ⟨w.heap.size, 2, none⟩) g1).trans ((hbel1.cell (p := ⟨w.heap.size, 2, none⟩) (by simp)).trans (by simp))
 have bw2 : Below w.heap.size w w2 := by
  have b0 := hbel1.mono (show w.heap.size ≤ _ from (by simp))
  have b1 : Below w.heap.size w w1 := Below.trans (below_drew1 ((Below.refl _ _).alloc (Nat.le_refl _) _)) b0
  exact b1.trans (hbel2.mono (Nat.le_of_lt g1))
 have BW := az bw2
 clear bw2 hbel1
 go_wp2_with (first
  | (go_at_call 55; refine (shift_calls (hrd1.below hbel2) (n := ne) (by omega) (by have := HS.out; omega)).mono ?_; rintro e w3 ⟨v3, rfl, hrd3, hbel3⟩; have c3 := (hbel3.cell (p := ⟨w.heap.size, 2, none⟩) g2).trans c2)
  | (go_at_call 56; refine (tens_calls (hrd2.below hbel3) (n := np) (by omega) (by have := HS.out; omega)).mono ?_; rintro e w4 ⟨v4, rfl, hrd4, hbel4⟩)
  | (go_at_call 57; refine (against_calls (hrd3.below hbel4) (hrd4) (by have := HS.out; omega) (by have := HS.out; omega)).mono ?_; rintro e w5 ⟨rfl, hd5⟩))
 rw [HR.out, HXY.out.1, HXY.out.2]
 refine ⟨rfl, ?_⟩
 have s3 := hbel3.size
 obtain ⟨nd, rfl⟩ := hd5
 have b4 := hbel4.mono (show w.heap.size ≤ w3.heap.size by omega)
 exact pw_below_drewN (BW.out.trans ((hbel3.mono (Nat.le_of_lt g2)).trans b4)) nd
theorem scaled_pn (m ne np : Nat) (neg : Bool) (ds : ByteArray) (g : Nat → Nat) (hm : m < 2 ^ 64) (hs : ds.size ≤ 800) (hb : ∀ k < ds.size, bt ds (k : Int) = (g k : Int)) (hk : ∀ k < ds.size, 48 ≤ g k ∧ g k ≤ 57)
  (he0 : 0 < ne) (he : ne ≤ 1100) (hp : np ≤ 1300) (w : World) (X Y : Nat) (hX : X = m * 2 ^ ne * 10 ^ np) (hY : Y = FP.dnum 0 g ds.size) :
  Calls Tryz.prog 47 #[.int .u64 (m : Int), .int .i64 ((ne : Int)), .agg #[.bool neg, .string ds, .int .i64 (-(np : Int))]] w (ScPost w X Y) := by
 refine byR fun R hR => ?_
 have HR := az hR
 have C1 := az (fun w1 => ofWord_calls m hm w1)
 have C2 := az (fun w1 => ofDigits_calls ds g (by omega) hb hk w1)
 have HS := az hs
 obtain ⟨D, hD⟩ : ∃ D, D = FP.dnum 0 g ds.size := ⟨_, rfl⟩
 rw [← hD] at hY C2
 have HXY := az2 hX hY
 have t1 : decide ((0 : Int) < (ne : Int)) = true := dT
 have t2 : decide ((0 : Int) < -(np : Int)) = false := dF
 have t1n : decide (0 < ne) = true := decide_eq_true he0
 have t2n : decide ((np : Int) < 0) = false := dF
 have t2i : 0 ≤ (np : Int) := by omega
 have t2j : (np : Int) ≤ 1300 := by omega
 clear hR hX hY hm hs hb hk hD he0
 go_enter Tryz.func47, Tryz.ntmps47
 go_wp2_with fail
 go_region_held3 (fun w' => w'.cell? ⟨w.heap.size, 1, none⟩ = some (.string ds)) (first | go_keep | (refine (hbel1.cell (p := ⟨w.heap.size, 1, none⟩) ?_).trans ?_ <;> first | assumption | (simp; done) | (have hz := hbel2.size; simp at hz; simp; omega)) | (refine (hbel2.cell (p := ⟨w.heap.size, 1, none⟩) ?_).trans ?_ <;> first | assumption | (simp; done) | (have hz := hbel1.size; simp at hz; simp; omega))) (first | (go_at_call 53; refine (C1.out _).mono ?_; rintro e w1 ⟨v1, rfl, hrd1, hbel1⟩) | (go_at_call 54; refine (C2.out _).mono ?_; rintro e w2 ⟨v2, rfl, hrd2, hbel2⟩))
 have g1 : w.heap.size < w1.heap.size := by have hz := hbel1.size; simp at hz; omega
 have g2 : w.heap.size < w2.heap.size := Nat.lt_of_lt_of_le g1 hbel2.size
 have c2 : w2.cell? ⟨w.heap.size, 2, none⟩ = some (.int .i64 (-(np : Int))) := (hbel2.cell (p := ⟨w.heap.size, 2, none⟩) g1).trans ((hbel1.cell (p := ⟨w.heap.size, 2, none⟩) (by simp)).trans (by simp))
 have bw2 : Below w.heap.size w w2 := by
  have b0 := hbel1.mono (show w.heap.size ≤ _ from (by simp))
  have b1 : Below w.heap.size w w1 := Below.trans (below_drew1 ((Below.refl _ _).alloc (Nat.le_refl _) _)) b0
  exact b1.trans (hbel2.mono (Nat.le_of_lt g1))
 have BW := az bw2
 clear bw2 hbel1
 go_wp2_with (first
  | (go_at_call 55; refine (shift_calls (hrd1.below hbel2) (n := ne) (by omega) (by have := HS.out; omega)).mono ?_; rintro e w3 ⟨v3, rfl, hrd3, hbel3⟩; have c3 := (hbel3.cell (p := ⟨w.heap.size, 2, none⟩) g2).trans c2)
  | (go_at_call 56; refine (tens_calls (hrd3) (n := np) (by omega) (by have := HS.out; omega)).mono ?_; rintro e w4 ⟨v4, rfl, hrd4, hbel4⟩)
  | (go_at_call 57; refine (against_calls (hrd4) ((hrd2.below hbel3).below hbel4) (by have := HS.out; omega) (by have := HS.out; omega)).mono ?_; rintro e w5 ⟨rfl, hd5⟩))
 rw [HR.out, HXY.out.1, HXY.out.2]
 refine ⟨rfl, ?_⟩
 have s3 := hbel3.size
 obtain ⟨nd, rfl⟩ := hd5
 have b4 := hbel4.mono (show w.heap.size ≤ w3.heap.size by omega)
 exact pw_below_drewN (BW.out.trans ((hbel3.mono (Nat.le_of_lt g2)).trans b4)) nd
theorem scaled_np (m ne np : Nat) (neg : Bool) (ds : ByteArray) (g : Nat → Nat) (hm : m < 2 ^ 64) (hs : ds.size ≤ 800) (hb : ∀ k < ds.size, bt ds (k : Int) = (g k : Int)) (hk : ∀ k < ds.size, 48 ≤ g k ∧ g k ≤ 57)
  (he : ne ≤ 1100) (hp0 : 0 < np) (hp : np ≤ 1300) (w : World) (X Y : Nat) (hX : X = m) (hY : Y = FP.dnum 0 g ds.size * 2 ^ ne * 10 ^ np) :
  Calls Tryz.prog 47 #[.int .u64 (m : Int), .int .i64 (-(ne : Int)), .agg #[.bool neg, .string ds, .int .i64 ((np : Int))]] w (ScPost w X Y) := by
 refine byR fun R hR => ?_
 have HR := az hR
 have C1 := az (fun w1 => ofWord_calls m hm w1)
 have C2 := az (fun w1 => ofDigits_calls ds g (by omega) hb hk w1)
 have HS := az hs
 obtain ⟨D, hD⟩ : ∃ D, D = FP.dnum 0 g ds.size := ⟨_, rfl⟩
 rw [← hD] at hY C2
 have HXY := az2 hX hY
 have t1 : decide ((0 : Int) < -(ne : Int)) = false := dF
 have t2 : decide ((0 : Int) < (np : Int)) = true := dT
 have t1n : decide ((ne : Int) < 0) = false := dF
 have t1i : 0 ≤ (ne : Int) := by omega
 have t1j : (ne : Int) ≤ 1100 := by omega
 have t2n : decide (0 < np) = true := decide_eq_true hp0
 clear hR hX hY hm hs hb hk hD hp0
 go_enter Tryz.func47, Tryz.ntmps47
 go_wp2_with fail
 go_region_held3 (fun w' => w'.cell? ⟨w.heap.size, 1, none⟩ = some (.string ds)) (first | go_keep | (refine (hbel1.cell (p := ⟨w.heap.size, 1, none⟩) ?_).trans ?_ <;> first | assumption | (simp; done) | (have hz := hbel2.size; simp at hz; simp; omega)) | (refine (hbel2.cell (p := ⟨w.heap.size, 1, none⟩) ?_).trans ?_ <;> first | assumption | (simp; done) | (have hz := hbel1.size; simp at hz; simp; omega))) (first | (go_at_call 53; refine (C1.out _).mono ?_; rintro e w1 ⟨v1, rfl, hrd1, hbel1⟩) | (go_at_call 54; refine (C2.out _).mono ?_; rintro e w2 ⟨v2, rfl, hrd2, hbel2⟩))
 have g1 : w.heap.size < w1.heap.size := by have hz := hbel1.size; simp at hz; omega
 have g2 : w.heap.size < w2.heap.size := Nat.lt_of_lt_of_le g1 hbel2.size
 have c2 : w2.cell? ⟨w.heap.size, 2, none⟩ = some (.int .i64 ((np : Int))) := (hbel2.cell (p := ⟨w.heap.size, 2, none⟩) g1).trans ((hbel1.cell (p := ⟨w.heap.size, 2, none⟩) (by simp)).trans (by simp))
 have bw2 : Below w.heap.size w w2 := by
  have b0 := hbel1.mono (show w.heap.size ≤ _ from (by simp))
  have b1 : Below w.heap.size w w1 := Below.trans (below_drew1 ((Below.refl _ _).alloc (Nat.le_refl _) _)) b0
  exact b1.trans (hbel2.mono (Nat.le_of_lt g1))
 have BW := az bw2
 clear bw2 hbel1
 go_wp2_with (first
  | (go_at_call 55; refine (shift_calls (hrd2) (n := ne) (by omega) (by have := HS.out; omega)).mono ?_; rintro e w3 ⟨v3, rfl, hrd3, hbel3⟩; have c3 := (hbel3.cell (p := ⟨w.heap.size, 2, none⟩) g2).trans c2)
  | (go_at_call 56; refine (tens_calls (hrd3) (n := np) (by omega) (by have := HS.out; omega)).mono ?_; rintro e w4 ⟨v4, rfl, hrd4, hbel4⟩)
  | (go_at_call 57; refine (against_calls (((hrd1.below hbel2).below hbel3).below hbel4) (hrd4) (by have := HS.out; omega) (by have := HS.out; omega)).mono ?_; rintro e w5 ⟨rfl, hd5⟩))
 rw [HR.out, HXY.out.1, HXY.out.2]
 refine ⟨rfl, ?_⟩
 have s3 := hbel3.size
 obtain ⟨nd, rfl⟩ := hd5
 have b4 := hbel4.mono (show w.heap.size ≤ w3.heap.size by omega)
 exact pw_below_drewN (BW.out.trans ((hbel3.mono (Nat.le_of_lt g2)).trans b4)) nd
theorem scaled_nn (m ne np : Nat) (neg : Bool) (ds : ByteArray) (g : Nat → Nat) (hm : m < 2 ^ 64) (hs : ds.size ≤ 800) (hb : ∀ k < ds.size, bt ds (k : Int) = (g k : Int)) (hk : ∀ k < ds.size, 48 ≤ g k ∧ g k ≤ 57)
  (he : ne ≤ 1100) (hp : np ≤ 1300) (w : World) (X Y : Nat) (hX : X = m * 10 ^ np) (hY : Y = FP.dnum 0 g ds.size * 2 ^ ne) :
  Calls Tryz.prog 47 #[.int .u64 (m : Int), .int .i64 (-(ne : Int)), .agg #[.bool neg, .string ds, .int .i64 (-(np : Int))]] w (ScPost w X Y) := by
 refine byR fun R hR => ?_
 have HR := az hR
 have C1 := az (fun w1 => ofWord_calls m hm w1)
 have C2 := az (fun w1 => ofDigits_calls ds g (by omega) hb hk w1)
 have HS := az hs
 obtain ⟨D, hD⟩ : ∃ D, D = FP.dnum 0 g ds.size := ⟨_, rfl⟩
 rw [← hD] at hY C2
 have HXY := az2 hX hY
 have t1 : decide ((0 : Int) < -(ne : Int)) = false := dF
 have t2 : decide ((0 : Int) < -(np : Int)) = false := dF
 have t1n : decide ((ne : Int) < 0) = false := dF
 have t1i : 0 ≤ (ne : Int) := by omega
 have t1j : (ne : Int) ≤ 1100 := by omega
 have t2n : decide ((np : Int) < 0) = false := dF
 have t2i : 0 ≤ (np : Int) := by omega
 have t2j : (np : Int) ≤ 1300 := by omega
 clear hR hX hY hm hs hb hk hD
 go_enter Tryz.func47, Tryz.ntmps47
 go_wp2_with fail
 go_region_held3 (fun w' => w'.cell? ⟨w.heap.size, 1, none⟩ = some (.string ds)) (first | go_keep | (refine (hbel1.cell (p := ⟨w.heap.size, 1, none⟩) ?_).trans ?_ <;> first | assumption | (simp; done) | (have hz := hbel2.size; simp at hz; simp; omega)) | (refine (hbel2.cell (p := ⟨w.heap.size, 1, none⟩) ?_).trans ?_ <;> first | assumption | (simp; done) | (have hz := hbel1.size; simp at hz; simp; omega))) (first | (go_at_call 53; refine (C1.out _).mono ?_; rintro e w1 ⟨v1, rfl, hrd1, hbel1⟩) | (go_at_call 54; refine (C2.out _).mono ?_; rintro e w2 ⟨v2, rfl, hrd2, hbel2⟩))
 have g1 : w.heap.size < w1.heap.size := by have hz := hbel1.size; simp at hz; omega
 have g2 : w.heap.size < w2.heap.size := Nat.lt_of_lt_of_le g1 hbel2.size
 have c2 : w2.cell? ⟨w.heap.size, 2, none⟩ = some (.int .i64 (-(np : Int))) := (hbel2.cell (p := ⟨w.heap.size, 2, none⟩) g1).trans ((hbel1.cell (p := ⟨w.heap.size, 2, none⟩) (by simp)).trans (by simp))
 have bw2 : Below w.heap.size w w2 := by
  have b0 := hbel1.mono (show w.heap.size ≤ _ from (by simp))
  have b1 : Below w.heap.size w w1 := Below.trans (below_drew1 ((Below.refl _ _).alloc (Nat.le_refl _) _)) b0
  exact b1.trans (hbel2.mono (Nat.le_of_lt g1))
 have BW := az bw2
 clear bw2 hbel1
 go_wp2_with (first
  | (go_at_call 55; refine (shift_calls (hrd2) (n := ne) (by omega) (by have := HS.out; omega)).mono ?_; rintro e w3 ⟨v3, rfl, hrd3, hbel3⟩; have c3 := (hbel3.cell (p := ⟨w.heap.size, 2, none⟩) g2).trans c2)
  | (go_at_call 56; refine (tens_calls ((hrd1.below hbel2).below hbel3) (n := np) (by omega) (by have := HS.out; omega)).mono ?_; rintro e w4 ⟨v4, rfl, hrd4, hbel4⟩)
  | (go_at_call 57; refine (against_calls (hrd4) (hrd3.below hbel4) (by have := HS.out; omega) (by have := HS.out; omega)).mono ?_; rintro e w5 ⟨rfl, hd5⟩))
 rw [HR.out, HXY.out.1, HXY.out.2]
 refine ⟨rfl, ?_⟩
 have s3 := hbel3.size
 obtain ⟨nd, rfl⟩ := hd5
 have b4 := hbel4.mono (show w.heap.size ≤ w3.heap.size by omega)
 exact pw_below_drewN (BW.out.trans ((hbel3.mono (Nat.le_of_lt g2)).trans b4)) nd
end Go.Proofs.YtbimfhaokgigkaaGreatDoor
