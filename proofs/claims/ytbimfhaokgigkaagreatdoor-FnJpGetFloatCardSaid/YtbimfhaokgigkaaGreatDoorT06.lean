/- Walks of functions of FnJpGetFloat (A6); conditions stand ahead of each theorem. -/
import Derived.Test.YtbimfhaokgigkaaGreatDoorT05
set_option linter.unusedVariables false
set_option linter.unusedSimpArgs false
namespace Go.Proofs.YtbimfhaokgigkaaGreatDoor
open Go.RowKit Go.Proofs.YtbimfhaokgigkaaGreatDoorW.PrintWords Go.Proofs.YtbimfhaokgigkaaGreatDoorW.PrintLast
theorem neg_run (r : Nat) (hr : r < 2 ^ 63) (w : World) : (Op.unary .neg (.float .f64 (FP.wordOf false r))).run Tryz.prog w = .ok (.float .f64 (FP.wordOf true r)) w := by
 have : Op.negFloat .f64 (FP.wordOf false r) = FP.wordOf true r := FP.xor_sign false hr
 rw [← this]; rfl
structure Tens (w : World) (B O C : Nat) : Prop where
 var : w.cell? ⟨21, 0, none⟩ = some (.slice (some ⟨B, O, none⟩) 23 C)
 row : ∀ k, k < 23 → w.cell? ⟨B, O + k, none⟩ = some (.float .f64 (FP.tens[k]!))
section
variable (m exp : Int) (w : World)
theorem exact_large (s : Bool) (h : (m / 4503599627370496 != 0) = true) (c0 : w.cell? ⟨17, 0, none⟩ = some (.int .u64 52)) :
  Calls Tryz.prog 101 #[.int .u64 m, .int .i64 exp, .bool s] w fun e w' => e = .returned (.tuple #[.float .f64 0, .bool false]) ∧ w' = w := by
 go_enter Tryz.func101, Tryz.ntmps101
 go_wp2
 go_ret2
 exact ⟨rfl, rfl⟩
theorem exact_zero_true (h : (m / 4503599627370496 != 0) = false) (c0 : w.cell? ⟨17, 0, none⟩ = some (.int .u64 52)) (a : Nat) (ha : a < 2 ^ 63) (hm : floatOfInt .f64 m = FP.wordOf false a) (he : (exp == 0) = true) :
  Calls Tryz.prog 101 #[.int .u64 m, .int .i64 exp, .bool true] w fun e w' => e = .returned (.tuple #[.float .f64 (FP.wordOf true a), .bool true]) ∧ w' = w := by
 have hneg := neg_run a ha
 clear ha
 go_enter Tryz.func101, Tryz.ntmps101
 go_wp2_with fail
 go_ret2
 exact ⟨rfl, rfl⟩
theorem exact_none_true (h : (m / 4503599627370496 != 0) = false) (c0 : w.cell? ⟨17, 0, none⟩ = some (.int .u64 52)) (a : Nat) (ha : a < 2 ^ 63) (hm : floatOfInt .f64 m = FP.wordOf false a) (he : (exp == 0) = false) (e1 : exp < -22 ∨ 37 < exp) :
  Calls Tryz.prog 101 #[.int .u64 m, .int .i64 exp, .bool true] w fun e w' => e = .returned (.tuple #[.float .f64 (FP.wordOf true a), .bool false]) ∧ w' = w := by
 have hneg := neg_run a ha
 clear ha
 go_enter Tryz.func101, Tryz.ntmps101
 go_wp2_with fail
 all_goals (go_ret2; exact ⟨rfl, rfl⟩)
theorem exact_div_true (h : (m / 4503599627370496 != 0) = false) (c0 : w.cell? ⟨17, 0, none⟩ = some (.int .u64 52)) (a : Nat) (ha : a < 2 ^ 63) (hm : floatOfInt .f64 m = FP.wordOf false a) (he : (exp == 0) = false) (e1 : -22 ≤ exp) (e2 : exp < 0) (B O C r : Nat) (T : Nat) (hv : w.cell? ⟨21, 0, none⟩ = some (.slice (some ⟨B, O, none⟩) 23 C))
  (hT : w.cell? ⟨B, O + (-exp).toNat, none⟩ = some (.float .f64 T)) (hq : ∀ t w, (binOp .quo t (.float .f64 (FP.wordOf true a)) (.float .f64 T)).run Tryz.prog w = .ok (.float .f64 r) w) :
  Calls Tryz.prog 101 #[.int .u64 m, .int .i64 exp, .bool true] w fun e w' => e = .returned (.tuple #[.float .f64 r, .bool true]) ∧ w' = w := by
 have hneg := neg_run a ha
 clear ha
 go_enter Tryz.func101, Tryz.ntmps101
 go_wp2_with fail
 go_ret2
 exact ⟨rfl, rfl⟩
theorem exact_mul_small_ok_true (h : (m / 4503599627370496 != 0) = false) (c0 : w.cell? ⟨17, 0, none⟩ = some (.int .u64 52)) (a : Nat) (ha : a < 2 ^ 63) (hm : floatOfInt .f64 m = FP.wordOf false a) (he : (exp == 0) = false) (e1 : 0 < exp) (e2 : exp ≤ 22) (B O C : Nat) (T : Nat) (hv : w.cell? ⟨21, 0, none⟩ = some (.slice (some ⟨B, O, none⟩) 23 C)) (r : Nat) (hT : w.cell? ⟨B, O + exp.toNat, none⟩ = some (.float .f64 T)) (hq : ∀ t w, (binOp .mul t (.float .f64 (FP.wordOf true a)) (.float .f64 T)).run Tryz.prog w = .ok (.float .f64 r) w) (g1 : (FloatKind.f64.format.order (FP.wordOf true a) 4831355200913801216 == some .gt) = false) (g2 : (FloatKind.f64.format.order (FP.wordOf true a) 14054727237768577024 == some .lt) = false) :
  Calls Tryz.prog 101 #[.int .u64 m, .int .i64 exp, .bool true] w fun e w' => e = .returned (.tuple #[.float .f64 r, .bool true]) ∧ w' = w := by
 have hneg := neg_run a ha
 clear ha
 go_enter Tryz.func101, Tryz.ntmps101
 go_wp2_with fail
 go_ret2
 exact ⟨rfl, rfl⟩
theorem exact_mul_small_no_true (h : (m / 4503599627370496 != 0) = false) (c0 : w.cell? ⟨17, 0, none⟩ = some (.int .u64 52)) (a : Nat) (ha : a < 2 ^ 63) (hm : floatOfInt .f64 m = FP.wordOf false a) (he : (exp == 0) = false) (e1 : 0 < exp) (e2 : exp ≤ 22) (B O C : Nat) (T : Nat) (hv : w.cell? ⟨21, 0, none⟩ = some (.slice (some ⟨B, O, none⟩) 23 C)) (g2 : (FloatKind.f64.format.order (FP.wordOf true a) 14054727237768577024 == some .lt) = true) (g1 : (FloatKind.f64.format.order (FP.wordOf true a) 4831355200913801216 == some .gt) = false) :
  Calls Tryz.prog 101 #[.int .u64 m, .int .i64 exp, .bool true] w fun e w' => e = .returned (.tuple #[.float .f64 (FP.wordOf true a), .bool false]) ∧ w' = w := by
 have hneg := neg_run a ha
 clear ha
 go_enter Tryz.func101, Tryz.ntmps101
 go_wp2_with fail
 go_ret2
 exact ⟨rfl, rfl⟩
theorem exact_mul_big_ok_true (h : (m / 4503599627370496 != 0) = false) (c0 : w.cell? ⟨17, 0, none⟩ = some (.int .u64 52)) (a : Nat) (ha : a < 2 ^ 63) (hm : floatOfInt .f64 m = FP.wordOf false a) (he : (exp == 0) = false) (e1 : 22 < exp) (e2 : exp ≤ 37) (B O C : Nat) (T : Nat) (hv : w.cell? ⟨21, 0, none⟩ = some (.slice (some ⟨B, O, none⟩) 23 C)) (r1 T1 : Nat) (hT1 : w.cell? ⟨B, O + (exp - 22).toNat, none⟩ = some (.float .f64 T1)) (hq1 : ∀ t w, (binOp .mul t (.float .f64 (FP.wordOf true a)) (.float .f64 T1)).run Tryz.prog w = .ok (.float .f64 (FP.wordOf true r1)) w) (r : Nat) (hT : w.cell? ⟨B, O + 22, none⟩ = some (.float .f64 T)) (hq : ∀ t w, (binOp .mul t (.float .f64 (FP.wordOf true r1)) (.float .f64 T)).run Tryz.prog w = .ok (.float .f64 r) w) (g1 : (FloatKind.f64.format.order (FP.wordOf true r1) 4831355200913801216 == some .gt) = false) (g2 : (FloatKind.f64.format.order (FP.wordOf true r1) 14054727237768577024 == some .lt) = false) :
  Calls Tryz.prog 101 #[.int .u64 m, .int .i64 exp, .bool true] w fun e w' => e = .returned (.tuple #[.float .f64 r, .bool true]) ∧ w' = w := by
 have hneg := neg_run a ha
 clear ha
 go_enter Tryz.func101, Tryz.ntmps101
 go_wp2_with fail
 go_ret2
 exact ⟨rfl, rfl⟩
theorem exact_mul_big_no_true (h : (m / 4503599627370496 != 0) = false) (c0 : w.cell? ⟨17, 0, none⟩ = some (.int .u64 52)) (a : Nat) (ha : a < 2 ^ 63) (hm : floatOfInt .f64 m = FP.wordOf false a) (he : (exp == 0) = false) (e1 : 22 < exp) (e2 : exp ≤ 37) (B O C : Nat) (T : Nat) (hv : w.cell? ⟨21, 0, none⟩ = some (.slice (some ⟨B, O, none⟩) 23 C)) (r1 T1 : Nat) (hT1 : w.cell? ⟨B, O + (exp - 22).toNat, none⟩ = some (.float .f64 T1)) (hq1 : ∀ t w, (binOp .mul t (.float .f64 (FP.wordOf true a)) (.float .f64 T1)).run Tryz.prog w = .ok (.float .f64 (FP.wordOf true r1)) w) (g2 : (FloatKind.f64.format.order (FP.wordOf true r1) 14054727237768577024 == some .lt) = true) (g1 : (FloatKind.f64.format.order (FP.wordOf true r1) 4831355200913801216 == some .gt) = false) :
  Calls Tryz.prog 101 #[.int .u64 m, .int .i64 exp, .bool true] w fun e w' => e = .returned (.tuple #[.float .f64 (FP.wordOf true r1), .bool false]) ∧ w' = w := by
 have hneg := neg_run a ha
 clear ha
 go_enter Tryz.func101, Tryz.ntmps101
 go_wp2_with fail
 go_ret2
 exact ⟨rfl, rfl⟩
theorem exact_zero_false (h : (m / 4503599627370496 != 0) = false) (c0 : w.cell? ⟨17, 0, none⟩ = some (.int .u64 52)) (a : Nat) (ha : a < 2 ^ 63) (hm : floatOfInt .f64 m = FP.wordOf false a) (he : (exp == 0) = true) :
  Calls Tryz.prog 101 #[.int .u64 m, .int .i64 exp, .bool false] w fun e w' => e = .returned (.tuple #[.float .f64 (FP.wordOf false a), .bool true]) ∧ w' = w := by
 clear ha
 go_enter Tryz.func101, Tryz.ntmps101
 go_wp2_with fail
 go_ret2
 exact ⟨rfl, rfl⟩
theorem exact_none_false (h : (m / 4503599627370496 != 0) = false) (c0 : w.cell? ⟨17, 0, none⟩ = some (.int .u64 52)) (a : Nat) (ha : a < 2 ^ 63) (hm : floatOfInt .f64 m = FP.wordOf false a) (he : (exp == 0) = false) (e1 : exp < -22 ∨ 37 < exp) :
  Calls Tryz.prog 101 #[.int .u64 m, .int .i64 exp, .bool false] w fun e w' => e = .returned (.tuple #[.float .f64 (FP.wordOf false a), .bool false]) ∧ w' = w := by
 clear ha
 go_enter Tryz.func101, Tryz.ntmps101
 go_wp2_with fail
 all_goals (go_ret2; exact ⟨rfl, rfl⟩)
theorem exact_div_false (h : (m / 4503599627370496 != 0) = false) (c0 : w.cell? ⟨17, 0, none⟩ = some (.int .u64 52)) (a : Nat) (ha : a < 2 ^ 63) (hm : floatOfInt .f64 m = FP.wordOf false a) (he : (exp == 0) = false) (e1 : -22 ≤ exp) (e2 : exp < 0) (B O C r : Nat) (T : Nat) (hv : w.cell? ⟨21, 0, none⟩ = some (.slice (some ⟨B, O, none⟩) 23 C))
  (hT : w.cell? ⟨B, O + (-exp).toNat, none⟩ = some (.float .f64 T)) (hq : ∀ t w, (binOp .quo t (.float .f64 (FP.wordOf false a)) (.float .f64 T)).run Tryz.prog w = .ok (.float .f64 r) w) :
  Calls Tryz.prog 101 #[.int .u64 m, .int .i64 exp, .bool false] w fun e w' => e = .returned (.tuple #[.float .f64 r, .bool true]) ∧ w' = w := by
 clear ha
 go_enter Tryz.func101, Tryz.ntmps101
 go_wp2_with fail
 go_ret2
 exact ⟨rfl, rfl⟩
theorem exact_mul_small_ok_false (h : (m / 4503599627370496 != 0) = false) (c0 : w.cell? ⟨17, 0, none⟩ = some (.int .u64 52)) (a : Nat) (ha : a < 2 ^ 63) (hm : floatOfInt .f64 m = FP.wordOf false a) (he : (exp == 0) = false) (e1 : 0 < exp) (e2 : exp ≤ 22) (B O C : Nat) (T : Nat) (hv : w.cell? ⟨21, 0, none⟩ = some (.slice (some ⟨B, O, none⟩) 23 C)) (r : Nat) (hT : w.cell? ⟨B, O + exp.toNat, none⟩ = some (.float .f64 T)) (hq : ∀ t w, (binOp .mul t (.float .f64 (FP.wordOf false a)) (.float .f64 T)).run Tryz.prog w = .ok (.float .f64 r) w) (g1 : (FloatKind.f64.format.order (FP.wordOf false a) 4831355200913801216 == some .gt) = false) (g2 : (FloatKind.f64.format.order (FP.wordOf false a) 14054727237768577024 == some .lt) = false) :
  Calls Tryz.prog 101 #[.int .u64 m, .int .i64 exp, .bool false] w fun e w' => e = .returned (.tuple #[.float .f64 r, .bool true]) ∧ w' = w := by
 clear ha
 go_enter Tryz.func101, Tryz.ntmps101
 go_wp2_with fail
 go_ret2
 exact ⟨rfl, rfl⟩
theorem exact_mul_small_no_false (h : (m / 4503599627370496 != 0) = false) (c0 : w.cell? ⟨17, 0, none⟩ = some (.int .u64 52)) (a : Nat) (ha : a < 2 ^ 63) (hm : floatOfInt .f64 m = FP.wordOf false a) (he : (exp == 0) = false) (e1 : 0 < exp) (e2 : exp ≤ 22) (B O C : Nat) (T : Nat) (hv : w.cell? ⟨21, 0, none⟩ = some (.slice (some ⟨B, O, none⟩) 23 C)) (g1 : (FloatKind.f64.format.order (FP.wordOf false a) 4831355200913801216 == some .gt) = true) :
  Calls Tryz.prog 101 #[.int .u64 m, .int .i64 exp, .bool false] w fun e w' => e = .returned (.tuple #[.float .f64 (FP.wordOf false a), .bool false]) ∧ w' = w := by
 clear ha
 go_enter Tryz.func101, Tryz.ntmps101
 go_wp2_with fail
 go_ret2
 exact ⟨rfl, rfl⟩
theorem exact_mul_big_ok_false (h : (m / 4503599627370496 != 0) = false) (c0 : w.cell? ⟨17, 0, none⟩ = some (.int .u64 52)) (a : Nat) (ha : a < 2 ^ 63) (hm : floatOfInt .f64 m = FP.wordOf false a) (he : (exp == 0) = false) (e1 : 22 < exp) (e2 : exp ≤ 37) (B O C : Nat) (T : Nat) (hv : w.cell? ⟨21, 0, none⟩ = some (.slice (some ⟨B, O, none⟩) 23 C)) (r1 T1 : Nat) (hT1 : w.cell? ⟨B, O + (exp - 22).toNat, none⟩ = some (.float .f64 T1)) (hq1 : ∀ t w, (binOp .mul t (.float .f64 (FP.wordOf false a)) (.float .f64 T1)).run Tryz.prog w = .ok (.float .f64 (FP.wordOf false r1)) w) (r : Nat) (hT : w.cell? ⟨B, O + 22, none⟩ = some (.float .f64 T)) (hq : ∀ t w, (binOp .mul t (.float .f64 (FP.wordOf false r1)) (.float .f64 T)).run Tryz.prog w = .ok (.float .f64 r) w) (g1 : (FloatKind.f64.format.order (FP.wordOf false r1) 4831355200913801216 == some .gt) = false) (g2 : (FloatKind.f64.format.order (FP.wordOf false r1) 14054727237768577024 == some .lt) = false) :
  Calls Tryz.prog 101 #[.int .u64 m, .int .i64 exp, .bool false] w fun e w' => e = .returned (.tuple #[.float .f64 r, .bool true]) ∧ w' = w := by
 clear ha
 go_enter Tryz.func101, Tryz.ntmps101
 go_wp2_with fail
 go_ret2
 exact ⟨rfl, rfl⟩
theorem exact_mul_big_no_false (h : (m / 4503599627370496 != 0) = false) (c0 : w.cell? ⟨17, 0, none⟩ = some (.int .u64 52)) (a : Nat) (ha : a < 2 ^ 63) (hm : floatOfInt .f64 m = FP.wordOf false a) (he : (exp == 0) = false) (e1 : 22 < exp) (e2 : exp ≤ 37) (B O C : Nat) (T : Nat) (hv : w.cell? ⟨21, 0, none⟩ = some (.slice (some ⟨B, O, none⟩) 23 C)) (r1 T1 : Nat) (hT1 : w.cell? ⟨B, O + (exp - 22).toNat, none⟩ = some (.float .f64 T1)) (hq1 : ∀ t w, (binOp .mul t (.float .f64 (FP.wordOf false a)) (.float .f64 T1)).run Tryz.prog w = .ok (.float .f64 (FP.wordOf false r1)) w) (g1 : (FloatKind.f64.format.order (FP.wordOf false r1) 4831355200913801216 == some .gt) = true) :
  Calls Tryz.prog 101 #[.int .u64 m, .int .i64 exp, .bool false] w fun e w' => e = .returned (.tuple #[.float .f64 (FP.wordOf false r1), .bool false]) ∧ w' = w := by
 clear ha
 go_enter Tryz.func101, Tryz.ntmps101
 go_wp2_with fail
 go_ret2
 exact ⟨rfl, rfl⟩
end
def ExactPost (m : Nat) (exp : Int) (s : Bool) (e : Ending) : Prop :=
 (∃ v, e = .returned (.tuple #[.float .f64 v, .bool false])) ∨ ∃ r, FP.Near ((m : Rat) * FP.p10 exp) r ∧ e = .returned (.tuple #[.float .f64 (FP.wordOf s r), .bool true])
theorem mul_run {x y r : Nat} (h : Ieee.Format.mul Ieee.double x y = some r) (t : TypeId) (w : World) : (binOp .mul t (.float .f64 x) (.float .f64 y)).run Tryz.prog w = .ok (.float .f64 r) w :=
 run_float_arith w .mul t .f64 x y r h
theorem div_run {x y r : Nat} (h : Ieee.Format.div Ieee.double x y = some r) (t : TypeId) (w : World) : (binOp .quo t (.float .f64 x) (.float .f64 y)).run Tryz.prog w = .ok (.float .f64 r) w :=
 run_float_arith w .quo t .f64 x y r h
theorem t15 : FP.tens[15]! < FP.INF ∧ 0 < FP.tens[15]! ∧ FP.wordOf false (FP.tens[15]!) = 4831355200913801216 ∧ FP.wordOf true (FP.tens[15]!) = 14054727237768577024 := by decide +kernel
theorem exact_calls_true (m : Nat) (hm : m < 2 ^ 64) (exp : Int) (w : World) (B O C : Nat) (c0 : w.cell? ⟨17, 0, none⟩ = some (.int .u64 52)) (T : Tens w B O C) :
  Calls Tryz.prog 101 #[.int .u64 m, .int .i64 exp, .bool true] w fun e w' => ExactPost m exp true e ∧ w' = w := by
 by_cases h : m < 2 ^ 53
 case neg =>
  exact (exact_large m exp w true (by rw [bne_iff_ne]; omega) c0).mono fun e w' h => ⟨.inl ⟨0, h.1⟩, h.2⟩
 case pos =>
 have hsmall : ∀ (hx : ¬ m < 2 ^ 52), Calls Tryz.prog 101 #[.int .u64 m, .int .i64 exp, .bool true] w fun e w' => ExactPost m exp true e ∧ w' = w := fun hx =>
  (exact_large m exp w true (by rw [bne_iff_ne]; omega) c0).mono fun e w' h => ⟨.inl ⟨0, h.1⟩, h.2⟩
 by_cases h52 : m < 2 ^ 52
 case neg => exact hsmall h52
 case pos =>
 have h0 : (((m : Int) / 4503599627370496) != 0) = false := by rw [bne_eq_false_iff_eq]; omega
 obtain ⟨a, ha, hv, hfl⟩ := FP.of_nat h
 have ha63 : a < 2 ^ 63 := by unfold FP.INF at ha; omega
 obtain ⟨k1, k2, k3, k4⟩ := t15
 by_cases e0 : exp = 0
 ·refine (exact_zero_true m exp w h0 c0 a ha63 hfl (by rw [beq_iff_eq]; exact e0)).mono fun e w' h => ⟨.inr ⟨a, ?_, h.1⟩, h.2⟩
  rw [e0, FP.p10_zero, Rat.mul_one, ← hv]
  exact FP.near_self ha
 have he : (exp == 0) = false := by rw [beq_eq_false_iff_ne]; exact e0
 by_cases r1 : exp < -22 ∨ 37 < exp
 ·exact (exact_none_true m exp w h0 c0 a ha63 hfl he r1).mono fun e w' h => ⟨.inl ⟨_, h.1⟩, h.2⟩
 by_cases r2 : exp < 0
 ·obtain ⟨r, d1, d2⟩ := FP.div_tens true ha hv (show (-exp).toNat < 23 by omega)
  refine (exact_div_true m exp w h0 c0 a ha63 hfl he (by omega) r2 B O C (FP.wordOf true r) _ T.var (T.row _ (by omega)) (div_run d1)).mono fun e w' h => ⟨.inr ⟨r, ?_, h.1⟩, h.2⟩
  rw [show -((-exp).toNat : Int) = exp by omega] at d2
  exact d2
 by_cases r3 : exp ≤ 22
 ·have g1 := FP.order_gt true ha k1 k2
  have g2 := FP.order_lt true ha k1 k2
  rw [k3] at g1
  rw [k4] at g2
  by_cases c : FP.tens[15]! < a
  ·have cd := decide_eq_true c
   rw [cd] at g1 g2
   exact (exact_mul_small_no_true m exp w h0 c0 a ha63 hfl he (by omega) r3 B O C 0 T.var g2 g1).mono fun e w' h => ⟨.inl ⟨_, h.1⟩, h.2⟩
  ·have cd := decide_eq_false c
   rw [cd] at g1 g2
   obtain ⟨r, d1, d2⟩ := FP.mul_tens true ha hv (show exp.toNat < 23 by omega)
   refine (exact_mul_small_ok_true m exp w h0 c0 a ha63 hfl he (by omega) r3 B O C _ T.var (FP.wordOf true r) (T.row _ (by omega)) (mul_run d1) g1 g2).mono fun e w' h => ⟨.inr ⟨r, ?_, h.1⟩, h.2⟩
   rw [show (exp.toNat : Int) = exp by omega] at d2
   exact d2
 ·obtain ⟨q, d1, d2⟩ := FP.mul_tens true ha hv (show (exp - 22).toNat < 23 by omega)
  by_cases c : FP.tens[15]! < q
  ·have q0 := FP.near_not_inf h (show (exp - 22).toNat ≤ 22 by omega) d2
   have g1 := FP.order_gt true q0 k1 k2
   have g2 := FP.order_lt true q0 k1 k2
   rw [k3] at g1
   rw [k4] at g2
   have cd := decide_eq_true c
   rw [cd] at g1 g2
   exact (exact_mul_big_no_true m exp w h0 c0 a ha63 hfl he (by omega) (by omega) B O C 0 T.var q _ (T.row _ (by omega)) (mul_run d1) g2 g1).mono fun e w' h => ⟨.inl ⟨_, h.1⟩, h.2⟩
  ·obtain ⟨q1, q2⟩ := FP.exact_small d2 (Nat.le_of_not_lt c)
   have g1 := FP.order_gt true q1 k1 k2
   have g2 := FP.order_lt true q1 k1 k2
   rw [k3] at g1
   rw [k4] at g2
   have cd := decide_eq_false c
   rw [cd] at g1 g2
   obtain ⟨r, d3, d4⟩ := FP.mul_tens true q1 q2 (show 22 < 23 by omega)
   refine (exact_mul_big_ok_true m exp w h0 c0 a ha63 hfl he (by omega) (by omega) B O C _ T.var q _ (T.row _ (by omega)) (mul_run d1) (FP.wordOf true r) (T.row 22 (by omega)) (mul_run d3) g1 g2).mono fun e w' h => ⟨.inr ⟨r, ?_, h.1⟩, h.2⟩
   have e1 : (m : Rat) * FP.p10 exp = ((m * 10 ^ (exp - 22).toNat : Nat) : Rat) * FP.p10 ((22 : Nat) : Int) := by
    rw [Rat.natCast_mul, ← FP.p10_nat, Rat.mul_assoc, ← FP.p10_add]
    congr 2; omega
   rw [e1]
   exact d4
theorem exact_calls_false (m : Nat) (hm : m < 2 ^ 64) (exp : Int) (w : World) (B O C : Nat) (c0 : w.cell? ⟨17, 0, none⟩ = some (.int .u64 52)) (T : Tens w B O C) :
  Calls Tryz.prog 101 #[.int .u64 m, .int .i64 exp, .bool false] w fun e w' => ExactPost m exp false e ∧ w' = w := by
 by_cases h : m < 2 ^ 53
 case neg =>
  exact (exact_large m exp w false (by rw [bne_iff_ne]; omega) c0).mono fun e w' h => ⟨.inl ⟨0, h.1⟩, h.2⟩
 case pos =>
 have hsmall : ∀ (hx : ¬ m < 2 ^ 52), Calls Tryz.prog 101 #[.int .u64 m, .int .i64 exp, .bool false] w fun e w' => ExactPost m exp false e ∧ w' = w := fun hx =>
  (exact_large m exp w false (by rw [bne_iff_ne]; omega) c0).mono fun e w' h => ⟨.inl ⟨0, h.1⟩, h.2⟩
 by_cases h52 : m < 2 ^ 52
 case neg => exact hsmall h52
 case pos =>
 have h0 : (((m : Int) / 4503599627370496) != 0) = false := by rw [bne_eq_false_iff_eq]; omega
 obtain ⟨a, ha, hv, hfl⟩ := FP.of_nat h
 have ha63 : a < 2 ^ 63 := by unfold FP.INF at ha; omega
 obtain ⟨k1, k2, k3, k4⟩ := t15
 by_cases e0 : exp = 0
 ·refine (exact_zero_false m exp w h0 c0 a ha63 hfl (by rw [beq_iff_eq]; exact e0)).mono fun e w' h => ⟨.inr ⟨a, ?_, h.1⟩, h.2⟩
  rw [e0, FP.p10_zero, Rat.mul_one, ← hv]
  exact FP.near_self ha
 have he : (exp == 0) = false := by rw [beq_eq_false_iff_ne]; exact e0
 by_cases r1 : exp < -22 ∨ 37 < exp
 ·exact (exact_none_false m exp w h0 c0 a ha63 hfl he r1).mono fun e w' h => ⟨.inl ⟨_, h.1⟩, h.2⟩
 by_cases r2 : exp < 0
 ·obtain ⟨r, d1, d2⟩ := FP.div_tens false ha hv (show (-exp).toNat < 23 by omega)
  refine (exact_div_false m exp w h0 c0 a ha63 hfl he (by omega) r2 B O C (FP.wordOf false r) _ T.var (T.row _ (by omega)) (div_run d1)).mono fun e w' h => ⟨.inr ⟨r, ?_, h.1⟩, h.2⟩
  rw [show -((-exp).toNat : Int) = exp by omega] at d2
  exact d2
 by_cases r3 : exp ≤ 22
 ·have g1 := FP.order_gt false ha k1 k2
  have g2 := FP.order_lt false ha k1 k2
  rw [k3] at g1
  rw [k4] at g2
  by_cases c : FP.tens[15]! < a
  ·have cd := decide_eq_true c
   rw [cd] at g1 g2
   exact (exact_mul_small_no_false m exp w h0 c0 a ha63 hfl he (by omega) r3 B O C 0 T.var g1).mono fun e w' h => ⟨.inl ⟨_, h.1⟩, h.2⟩
  ·have cd := decide_eq_false c
   rw [cd] at g1 g2
   obtain ⟨r, d1, d2⟩ := FP.mul_tens false ha hv (show exp.toNat < 23 by omega)
   refine (exact_mul_small_ok_false m exp w h0 c0 a ha63 hfl he (by omega) r3 B O C _ T.var (FP.wordOf false r) (T.row _ (by omega)) (mul_run d1) g1 g2).mono fun e w' h => ⟨.inr ⟨r, ?_, h.1⟩, h.2⟩
   rw [show (exp.toNat : Int) = exp by omega] at d2
   exact d2
 ·obtain ⟨q, d1, d2⟩ := FP.mul_tens false ha hv (show (exp - 22).toNat < 23 by omega)
  by_cases c : FP.tens[15]! < q
  ·have q0 := FP.near_not_inf h (show (exp - 22).toNat ≤ 22 by omega) d2
   have g1 := FP.order_gt false q0 k1 k2
   have g2 := FP.order_lt false q0 k1 k2
   rw [k3] at g1
   rw [k4] at g2
   have cd := decide_eq_true c
   rw [cd] at g1 g2
   exact (exact_mul_big_no_false m exp w h0 c0 a ha63 hfl he (by omega) (by omega) B O C 0 T.var q _ (T.row _ (by omega)) (mul_run d1) g1).mono fun e w' h => ⟨.inl ⟨_, h.1⟩, h.2⟩
  ·obtain ⟨q1, q2⟩ := FP.exact_small d2 (Nat.le_of_not_lt c)
   have g1 := FP.order_gt false q1 k1 k2
   have g2 := FP.order_lt false q1 k1 k2
   rw [k3] at g1
   rw [k4] at g2
   have cd := decide_eq_false c
   rw [cd] at g1 g2
   obtain ⟨r, d3, d4⟩ := FP.mul_tens false q1 q2 (show 22 < 23 by omega)
   refine (exact_mul_big_ok_false m exp w h0 c0 a ha63 hfl he (by omega) (by omega) B O C _ T.var q _ (T.row _ (by omega)) (mul_run d1) (FP.wordOf false r) (T.row 22 (by omega)) (mul_run d3) g1 g2).mono fun e w' h => ⟨.inr ⟨r, ?_, h.1⟩, h.2⟩
   have e1 : (m : Rat) * FP.p10 exp = ((m * 10 ^ (exp - 22).toNat : Nat) : Rat) * FP.p10 ((22 : Nat) : Int) := by
    rw [Rat.natCast_mul, ← FP.p10_nat, Rat.mul_assoc, ← FP.p10_add]
    congr 2; omega
   rw [e1]
   exact d4
end Go.Proofs.YtbimfhaokgigkaaGreatDoor
