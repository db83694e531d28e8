/- Walks of functions of FnFjFloatAll (H9); conditions stand ahead of each theorem. -/
import Derived.Test.YtodbjojglibniaaGreatDoorT33
import Derived.Test.YtodbjojglibniaaGreatDoorT13
import Derived.Test.YtodbjojglibniaaGreatDoorT03
import Derived.Laws.Closers25b
set_option linter.unusedVariables false
set_option linter.unusedSimpArgs false
namespace Go.Proofs.YtodbjojglibniaaGreatDoor
open Go.RowKit Go.Proofs.YtodbjojglibniaaGreatDoorW.PrintWords Go.Proofs.YtodbjojglibniaaGreatDoorW.PrintLast

/-- The nearest float's word, with a sign. -/
def FloatPost (w : World) (X : Rat) (neg : Bool) (e : Ending) (w' : World) : Prop := ∃ r : Nat, FP.Near X r ∧ e = .returned (.float .f64 (FP.wordOf neg r)) ∧ Below w.heap.size w w'
theorem dec_low {D n : Nat} {P : Int} (h : D < 10 ^ n) (hp : P + (n : Int) ≤ -330) : (D : Rat) * FP.p10 P < FP.p10 (-330) := by
  have h1 : (D : Rat) < ((10 ^ n : Nat) : Rat) := FP.cast_lt h
  have h2 := (Rat.mul_lt_mul_right (FP.p10_pos P)).mpr h1
  rw [← FP.p10_nat, ← FP.p10_add] at h2
  have h3 := FP.p10_le (show (n : Int) + P ≤ -330 by omega)
  grind
theorem dec_high {D n : Nat} {P : Int} (h : 10 ^ n ≤ D) (hp : 310 ≤ P + (n : Int)) : FP.p10 310 ≤ (D : Rat) * FP.p10 P := by
  have h1 : ((10 ^ n : Nat) : Rat) ≤ (D : Rat) := FP.cast_le h
  have h2 := Rat.mul_le_mul_of_nonneg_right h1 (Rat.le_of_lt (FP.p10_pos P))
  rw [← FP.p10_nat, ← FP.p10_add] at h2
  have h3 := FP.p10_le (show (310 : Int) ≤ (n : Int) + P by omega)
  grind
theorem dnum_ge {g : Nat → Nat} {n : Nat} (h : 49 ≤ g 0) : 10 ^ n ≤ FP.dnum 0 g (n + 1) := by
  induction n with
  | zero => show 1 ≤ 0 * 10 + (g 0 - 48); omega
  | succ n ih =>
    show 10 ^ (n + 1) ≤ FP.dnum 0 g (n + 1) * 10 + (g (n + 1) - 48)
    rw [Nat.pow_succ]
    omega
theorem rung_small {X : Rat} {r : Nat} (h : FP.Near X r) : r < 2 ^ 63 := by
  have h1 : r ≤ 9218868437227405312 := h.1
  omega
theorem frombits2_run (x : Int) (w : World) : (callFunc 33 #[.int .u64 x]).run Tryz.prog w = .ok (.value (.float .f64 x.toNat)) w := by kernel_rfl

set_option maxRecDepth 100000 in
set_option maxHeartbeats 1000000 in
theorem near_nil_true {ds : ByteArray} {g : Nat → Nat} (hD : Digs ds g) (hlead : ds.size ≠ 0 → 49 ≤ g 0) (P Z : Int) (hZ : Z = P + (ds.size : Int)) (hw : wrap64 (P + (ds.size : Int)) = Z) (w : World) (X : Rat) (hX : X = (FP.dnum 0 g ds.size : Rat) * FP.p10 P)
    (h0 : ds.size = 0) : Calls Tryz.prog 19 #[.agg #[.bool true, .string ds, .int .i64 P]] w (FloatPost w X true) := by
  obtain ⟨R, hR⟩ : ∃ R, R = FloatPost w X true := ⟨_, rfl⟩
  rw [← hR]
  have HR := Aside0.mk hR
  have hd0 : ds = ByteArray.empty := ByteArray.size_eq_zero_iff.mp h0
  subst hd0
  have NR := Aside0.mk (show FP.Near X 0 by
    have : FP.dnum 0 g ByteArray.empty.size = 0 := rfl
    rw [hX, this]
    have h2 := FP.near_self (r := 0) (by decide)
    rw [FP.val_zero] at h2
    have h3 : ((0 : Nat) : Rat) * FP.p10 P = 0 := by grind
    rw [h3]; exact h2)
  have e7 : Go.bits .or .u64 0 9223372036854775808 = (9223372036854775808 : Int) := by decide +kernel
  have hf := frombits2_run
  have HX := Aside0.mk hX
  clear hR hX hZ hD hlead h0
  go_enter Tryz.func19, Tryz.ntmps19
  go_wp2_with fail
  rw [HR.out]
  exact ⟨0, NR.out, by first | rfl | (rw [FP.wordOf_false]; rfl), (Below.refl _ _).alloc (Nat.le_refl _) _⟩

set_option maxRecDepth 100000 in
set_option maxHeartbeats 1000000 in
theorem near_low_true {ds : ByteArray} {g : Nat → Nat} (hD : Digs ds g) (hlead : ds.size ≠ 0 → 49 ≤ g 0) (P Z : Int) (hZ : Z = P + (ds.size : Int)) (hw : wrap64 (P + (ds.size : Int)) = Z) (w : World) (X : Rat) (hX : X = (FP.dnum 0 g ds.size : Rat) * FP.p10 P)
    (h0 : ds.size ≠ 0) (hz : Z < -400) : Calls Tryz.prog 19 #[.agg #[.bool true, .string ds, .int .i64 P]] w (FloatPost w X true) := by
  obtain ⟨R, hR⟩ : ∃ R, R = FloatPost w X true := ⟨_, rfl⟩
  rw [← hR]
  have HR := Aside0.mk hR
  have hds : (ds = ByteArray.empty) = False := eq_false (fun e => h0 (by rw [e]; rfl))
  have hd2 : (ds.toList = ([] : List UInt8)) = False := eq_false (fun e => h0 (by rw [(toList_nil_iff_emptyBytes ds).mp e]; rfl))
  have hd4 : ds.toList.isEmpty = false := by rw [List.isEmpty_eq_false_iff]; intro e; rw [hd2] at e; exact e
  have NR := Aside0.mk (show FP.Near X 0 by
    rw [hX]
    exact FP.near_tiny (dec_low (FP.dnum_lt (j := 0) (by decide) (fun k hk => (hD.kinds k hk).2) ds.size (Nat.le_refl _)) (by omega)))
  have t1 : decide (Z < -400) = true := decide_eq_true hz
  have e7 : Go.bits .or .u64 0 9223372036854775808 = (9223372036854775808 : Int) := by decide +kernel
  have hf := frombits2_run
  have HX := Aside0.mk hX
  clear hR hX hZ hD hlead h0 hz
  go_enter Tryz.func19, Tryz.ntmps19
  go_wp2_with fail
  rw [HR.out]
  exact ⟨0, NR.out, by first | rfl | (rw [FP.wordOf_false]; rfl), (Below.refl _ _).alloc (Nat.le_refl _) _⟩

set_option maxRecDepth 100000 in
set_option maxHeartbeats 1000000 in
theorem near_high_true {ds : ByteArray} {g : Nat → Nat} (hD : Digs ds g) (hlead : ds.size ≠ 0 → 49 ≤ g 0) (P Z : Int) (hZ : Z = P + (ds.size : Int)) (hw : wrap64 (P + (ds.size : Int)) = Z) (w : World) (X : Rat) (hX : X = (FP.dnum 0 g ds.size : Rat) * FP.p10 P)
    (h0 : ds.size ≠ 0) (hz : 400 < Z) : Calls Tryz.prog 19 #[.agg #[.bool true, .string ds, .int .i64 P]] w (FloatPost w X true) := by
  obtain ⟨R, hR⟩ : ∃ R, R = FloatPost w X true := ⟨_, rfl⟩
  rw [← hR]
  have HR := Aside0.mk hR
  have hds : (ds = ByteArray.empty) = False := eq_false (fun e => h0 (by rw [e]; rfl))
  have hd2 : (ds.toList = ([] : List UInt8)) = False := eq_false (fun e => h0 (by rw [(toList_nil_iff_emptyBytes ds).mp e]; rfl))
  have hd4 : ds.toList.isEmpty = false := by rw [List.isEmpty_eq_false_iff]; intro e; rw [hd2] at e; exact e
  have NR := Aside0.mk (show FP.Near X FP.INF by
    rw [hX]
    obtain ⟨n, hn⟩ : ∃ n, ds.size = n + 1 := ⟨ds.size - 1, by omega⟩
    rw [hn]
    exact FP.near_huge (dec_high (dnum_ge (hlead h0)) (by omega)))
  have t1 : decide (Z < -400) = false := decide_eq_false (by omega)
  have t2 : decide (400 < Z) = true := decide_eq_true hz
  have e7 : Go.bits .or .u64 9218868437227405312 9223372036854775808 = (18442240474082181120 : Int) := by decide +kernel
  have hf := frombits2_run
  have HX := Aside0.mk hX
  clear hR hX hZ hD hlead h0 hz
  go_enter Tryz.func19, Tryz.ntmps19
  go_wp2_with fail
  rw [HR.out]
  exact ⟨FP.INF, NR.out, by first | rfl | (rw [FP.wordOf_false]; rfl), (Below.refl _ _).alloc (Nat.le_refl _) _⟩

set_option maxRecDepth 100000 in
set_option maxHeartbeats 1000000 in
theorem near_mid_true {ds : ByteArray} {g : Nat → Nat} (hD : Digs ds g) (hlead : ds.size ≠ 0 → 49 ≤ g 0) (P Z : Int) (hZ : Z = P + (ds.size : Int)) (hw : wrap64 (P + (ds.size : Int)) = Z) (w : World) (X : Rat) (hX : X = (FP.dnum 0 g ds.size : Rat) * FP.p10 P)
    (h0 : ds.size ≠ 0) (hz0 : -400 ≤ Z) (hz1 : Z ≤ 400) : Calls Tryz.prog 19 #[.agg #[.bool true, .string ds, .int .i64 P]] w (FloatPost w X true) := by
  obtain ⟨R, hR⟩ : ∃ R, R = FloatPost w X true := ⟨_, rfl⟩
  rw [← hR]
  have HR := Aside0.mk hR
  have hds : (ds = ByteArray.empty) = False := eq_false (fun e => h0 (by rw [e]; rfl))
  have hd2 : (ds.toList = ([] : List UInt8)) = False := eq_false (fun e => h0 (by rw [(toList_nil_iff_emptyBytes ds).mp e]; rfl))
  have hd4 : ds.toList.isEmpty = false := by rw [List.isEmpty_eq_false_iff]; intro e; rw [hd2] at e; exact e
  have CN := Aside0.mk (fun w1 => nearest_calls hD P (by have := hD.sz; omega) (by omega) true w1 X hX)
  have t1 : decide (Z < -400) = false := decide_eq_false (by omega)
  have t2 : decide (400 < Z) = false := decide_eq_false (by omega)
  have hf := frombits2_run
  have HX := Aside0.mk hX
  clear hR hX hZ hD hlead h0 hz0 hz1
  go_enter Tryz.func19, Tryz.ntmps19
  go_wp2_with (go_at_call 32; refine (CN.out _).mono ?_; rintro e w3 ⟨r, hn, rfl, hbel3⟩; have e7 := or_sign (rung_small hn); have k0 : w3.cell? ⟨w.heap.size, 0, none⟩ = some (.bool true) := (hbel3.cell (p := ⟨w.heap.size, 0, none⟩) (by simp)).trans (by simp))
  rw [HR.out]
  exact ⟨r, hn, by first | rfl | (rw [FP.wordOf_false]; rfl), (((Below.refl _ _).alloc (Nat.le_refl _) _)).trans (hbel3.mono (by simp))⟩

set_option maxRecDepth 100000 in
set_option maxHeartbeats 1000000 in
theorem near_nil_false {ds : ByteArray} {g : Nat → Nat} (hD : Digs ds g) (hlead : ds.size ≠ 0 → 49 ≤ g 0) (P Z : Int) (hZ : Z = P + (ds.size : Int)) (hw : wrap64 (P + (ds.size : Int)) = Z) (w : World) (X : Rat) (hX : X = (FP.dnum 0 g ds.size : Rat) * FP.p10 P)
    (h0 : ds.size = 0) : Calls Tryz.prog 19 #[.agg #[.bool false, .string ds, .int .i64 P]] w (FloatPost w X false) := by
  obtain ⟨R, hR⟩ : ∃ R, R = FloatPost w X false := ⟨_, rfl⟩
  rw [← hR]
  have HR := Aside0.mk hR
  have hd0 : ds = ByteArray.empty := ByteArray.size_eq_zero_iff.mp h0
  subst hd0
  have NR := Aside0.mk (show FP.Near X 0 by
    have : FP.dnum 0 g ByteArray.empty.size = 0 := rfl
    rw [hX, this]
    have h2 := FP.near_self (r := 0) (by decide)
    rw [FP.val_zero] at h2
    have h3 : ((0 : Nat) : Rat) * FP.p10 P = 0 := by grind
    rw [h3]; exact h2)
  have hf := frombits2_run
  have HX := Aside0.mk hX
  clear hR hX hZ hD hlead h0
  go_enter Tryz.func19, Tryz.ntmps19
  go_wp2_with fail
  rw [HR.out]
  exact ⟨0, NR.out, by first | rfl | (rw [FP.wordOf_false]; rfl), (Below.refl _ _).alloc (Nat.le_refl _) _⟩

set_option maxRecDepth 100000 in
set_option maxHeartbeats 1000000 in
theorem near_low_false {ds : ByteArray} {g : Nat → Nat} (hD : Digs ds g) (hlead : ds.size ≠ 0 → 49 ≤ g 0) (P Z : Int) (hZ : Z = P + (ds.size : Int)) (hw : wrap64 (P + (ds.size : Int)) = Z) (w : World) (X : Rat) (hX : X = (FP.dnum 0 g ds.size : Rat) * FP.p10 P)
    (h0 : ds.size ≠ 0) (hz : Z < -400) : Calls Tryz.prog 19 #[.agg #[.bool false, .string ds, .int .i64 P]] w (FloatPost w X false) := by
  obtain ⟨R, hR⟩ : ∃ R, R = FloatPost w X false := ⟨_, rfl⟩
  rw [← hR]
  have HR := Aside0.mk hR
  have hds : (ds = ByteArray.empty) = False := eq_false (fun e => h0 (by rw [e]; rfl))
  have hd2 : (ds.toList = ([] : List UInt8)) = False := eq_false (fun e => h0 (by rw [(toList_nil_iff_emptyBytes ds).mp e]; rfl))
  have hd4 : ds.toList.isEmpty = false := by rw [List.isEmpty_eq_false_iff]; intro e; rw [hd2] at e; exact e
  have NR := Aside0.mk (show FP.Near X 0 by
    rw [hX]
    exact FP.near_tiny (dec_low (FP.dnum_lt (j := 0) (by decide) (fun k hk => (hD.kinds k hk).2) ds.size (Nat.le_refl _)) (by omega)))
  have t1 : decide (Z < -400) = true := decide_eq_true hz
  have hf := frombits2_run
  have HX := Aside0.mk hX
  clear hR hX hZ hD hlead h0 hz
  go_enter Tryz.func19, Tryz.ntmps19
  go_wp2_with fail
  rw [HR.out]
  exact ⟨0, NR.out, by first | rfl | (rw [FP.wordOf_false]; rfl), (Below.refl _ _).alloc (Nat.le_refl _) _⟩

set_option maxRecDepth 100000 in
set_option maxHeartbeats 1000000 in
theorem near_high_false {ds : ByteArray} {g : Nat → Nat} (hD : Digs ds g) (hlead : ds.size ≠ 0 → 49 ≤ g 0) (P Z : Int) (hZ : Z = P + (ds.size : Int)) (hw : wrap64 (P + (ds.size : Int)) = Z) (w : World) (X : Rat) (hX : X = (FP.dnum 0 g ds.size : Rat) * FP.p10 P)
    (h0 : ds.size ≠ 0) (hz : 400 < Z) : Calls Tryz.prog 19 #[.agg #[.bool false, .string ds, .int .i64 P]] w (FloatPost w X false) := by
  obtain ⟨R, hR⟩ : ∃ R, R = FloatPost w X false := ⟨_, rfl⟩
  rw [← hR]
  have HR := Aside0.mk hR
  have hds : (ds = ByteArray.empty) = False := eq_false (fun e => h0 (by rw [e]; rfl))
  have hd2 : (ds.toList = ([] : List UInt8)) = False := eq_false (fun e => h0 (by rw [(toList_nil_iff_emptyBytes ds).mp e]; rfl))
  have hd4 : ds.toList.isEmpty = false := by rw [List.isEmpty_eq_false_iff]; intro e; rw [hd2] at e; exact e
  have NR := Aside0.mk (show FP.Near X FP.INF by
    rw [hX]
    obtain ⟨n, hn⟩ : ∃ n, ds.size = n + 1 := ⟨ds.size - 1, by omega⟩
    rw [hn]
    exact FP.near_huge (dec_high (dnum_ge (hlead h0)) (by omega)))
  have t1 : decide (Z < -400) = false := decide_eq_false (by omega)
  have t2 : decide (400 < Z) = true := decide_eq_true hz
  have hf := frombits2_run
  have HX := Aside0.mk hX
  clear hR hX hZ hD hlead h0 hz
  go_enter Tryz.func19, Tryz.ntmps19
  go_wp2_with fail
  rw [HR.out]
  exact ⟨FP.INF, NR.out, by first | rfl | (rw [FP.wordOf_false]; rfl), (Below.refl _ _).alloc (Nat.le_refl _) _⟩

set_option maxRecDepth 100000 in
set_option maxHeartbeats 1000000 in
theorem near_mid_false {ds : ByteArray} {g : Nat → Nat} (hD : Digs ds g) (hlead : ds.size ≠ 0 → 49 ≤ g 0) (P Z : Int) (hZ : Z = P + (ds.size : Int)) (hw : wrap64 (P + (ds.size : Int)) = Z) (w : World) (X : Rat) (hX : X = (FP.dnum 0 g ds.size : Rat) * FP.p10 P)
    (h0 : ds.size ≠ 0) (hz0 : -400 ≤ Z) (hz1 : Z ≤ 400) : Calls Tryz.prog 19 #[.agg #[.bool false, .string ds, .int .i64 P]] w (FloatPost w X false) := by
  obtain ⟨R, hR⟩ : ∃ R, R = FloatPost w X false := ⟨_, rfl⟩
  rw [← hR]
  have HR := Aside0.mk hR
  have hds : (ds = ByteArray.empty) = False := eq_false (fun e => h0 (by rw [e]; rfl))
  have hd2 : (ds.toList = ([] : List UInt8)) = False := eq_false (fun e => h0 (by rw [(toList_nil_iff_emptyBytes ds).mp e]; rfl))
  have hd4 : ds.toList.isEmpty = false := by rw [List.isEmpty_eq_false_iff]; intro e; rw [hd2] at e; exact e
  have CN := Aside0.mk (fun w1 => nearest_calls hD P (by have := hD.sz; omega) (by omega) false w1 X hX)
  have t1 : decide (Z < -400) = false := decide_eq_false (by omega)
  have t2 : decide (400 < Z) = false := decide_eq_false (by omega)
  have hf := frombits2_run
  have HX := Aside0.mk hX
  clear hR hX hZ hD hlead h0 hz0 hz1
  go_enter Tryz.func19, Tryz.ntmps19
  go_wp2_with (go_at_call 32; refine (CN.out _).mono ?_; rintro e w3 ⟨r, hn, rfl, hbel3⟩; have k0 : w3.cell? ⟨w.heap.size, 0, none⟩ = some (.bool false) := (hbel3.cell (p := ⟨w.heap.size, 0, none⟩) (by simp)).trans (by simp))
  rw [HR.out]
  exact ⟨r, hn, by first | rfl | (rw [FP.wordOf_false]; rfl), (((Below.refl _ _).alloc (Nat.le_refl _) _)).trans (hbel3.mono (by simp))⟩

theorem near_calls {ds : ByteArray} {g : Nat → Nat} (hD : Digs ds g) (hlead : ds.size ≠ 0 → 49 ≤ g 0) (P : Int) (hP : -4000000000000000 ≤ P ∧ P ≤ 4000000000000000) (neg : Bool) (w : World) :
    Calls Tryz.prog 19 #[.agg #[.bool neg, .string ds, .int .i64 P]] w (FloatPost w ((FP.dnum 0 g ds.size : Rat) * FP.p10 P) neg) := by
  have hs := hD.sz
  have hw : wrap64 (P + (ds.size : Int)) = P + (ds.size : Int) := by unfold wrap64; omega
  by_cases h0 : ds.size = 0
  · cases neg
    · exact near_nil_false hD hlead P _ rfl hw w _ rfl h0
    · exact near_nil_true hD hlead P _ rfl hw w _ rfl h0
  · by_cases h1 : P + (ds.size : Int) < -400
    · cases neg
      · exact near_low_false hD hlead P _ rfl hw w _ rfl h0 h1
      · exact near_low_true hD hlead P _ rfl hw w _ rfl h0 h1
    · by_cases h2 : 400 < P + (ds.size : Int)
      · cases neg
        · exact near_high_false hD hlead P _ rfl hw w _ rfl h0 h2
        · exact near_high_true hD hlead P _ rfl hw w _ rfl h0 h2
      · cases neg
        · exact near_mid_false hD hlead P _ rfl hw w _ rfl h0 (by omega) (by omega)
        · exact near_mid_true hD hlead P _ rfl hw w _ rfl h0 (by omega) (by omega)


end Go.Proofs.YtodbjojglibniaaGreatDoor
