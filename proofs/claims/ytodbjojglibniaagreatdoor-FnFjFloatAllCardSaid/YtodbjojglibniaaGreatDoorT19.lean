/- Walks of functions of FnFjFloatAll (C1); conditions stand ahead of each theorem. -/
import Derived.Test.YtodbjojglibniaaGreatDoorT08
set_option linter.unusedVariables false
set_option linter.unusedSimpArgs false
namespace Go.Proofs.YtodbjojglibniaaGreatDoor
open Go.RowKit Go.Proofs.YtodbjojglibniaaGreatDoorW.PrintWords Go.Proofs.YtodbjojglibniaaGreatDoorW.PrintLast

set_option maxRecDepth 1000000 in
theorem cpl_calls (s t : ByteArray) (w : World) (hs : 1 ≤ s.size) (hs8 : s.size ≤ 1000) (ht : 1 ≤ t.size) (ht8 : t.size ≤ 1000) (h0 : 48 ≤ bt s 0) (h1 : bt s 0 ≤ 57) (hne : bt s 0 ≠ bt t 0) :
    Calls Tryz.prog 96 #[.string s, .string t] w fun e w' => e = .returned (.int .i64 0) ∧ w' = w := by
  have b0 := bt_0 s
  have c0 := bt_0 t
  have hmin : decide (0 < min (t.size : Int) (s.size : Int)) = true := decide_eq_true (by omega)
  have hminn : decide (0 < min t.size s.size) = true := decide_eq_true (by omega)
  have t65 : decide (65 ≤ bt s 0) = false := decide_eq_false (by omega)
  have tne : (bt s 0 != bt t 0) = true := by rw [bne_iff_ne]; exact hne
  have hsi : (s.size : Int) ≤ 1000 := by omega
  have hti : (t.size : Int) ≤ 1000 := by omega
  have p1 : (0 < s.size) = True := eq_true (by omega)
  have p2 : (0 < t.size) = True := eq_true (by omega)
  have e1 : (s = ByteArray.empty) = False := by
    refine eq_false (fun e => ?_)
    rw [e] at hs; exact absurd hs (by decide)
  have e2 : (t = ByteArray.empty) = False := by
    refine eq_false (fun e => ?_)
    rw [e] at ht; exact absurd ht (by decide)
  clear hne h0 h1
  go_enter Tryz.func96, Tryz.ntmps96
  go_wp2_with fail
  all_goals (refine wp_loop_rounds 1 ?_; rw [rounds_succ]; go_wp2_with fail; go_ret; exact ⟨rfl, rfl⟩)
def infTxt : ByteArray := ⟨#[105, 110, 102, 105, 110, 105, 116, 121]⟩
theorem ext_bt (s : ByteArray) (h : 1 < s.size) : bt (s.extract 1 s.size) 0 = bt s 1 := by
  have h1 : (0 : Int).toNat < (s.extract 1 s.size).size := by rw [ByteArray.size_extract]; omega
  have h2 : (1 : Int).toNat < s.size := h
  unfold bt
  rw [dif_pos h1, dif_pos h2]
  congr 2
  exact (ByteArray.getElem_extract (b := s) (start := 1) (stop := s.size) (i := 0) h1)
set_option maxRecDepth 1000000 in
theorem special_neg (s : ByteArray) (w : World) (hs : 1 < s.size) (hs8 : s.size ≤ 1000) (h45 : bt s 0 = 45) (h0 : 48 ≤ bt s 1) (h1 : bt s 1 ≤ 57) :
    Calls Tryz.prog 82 #[.string s] w fun e w' => e = .returned (.tuple #[.float .f64 0, .int .i64 0, .bool false]) ∧ w' = w := by
  have b0 := bt_0 s
  have he := ext_bt s hs
  have CPL := Aside0.mk (cpl_calls (s.extract 1 s.size) infTxt w (by rw [ByteArray.size_extract]; omega) (by rw [ByteArray.size_extract]; omega) (by decide) (by decide) (by omega) (by omega) (by rw [he, show bt infTxt 0 = 105 by decide]; omega))
  have t43 : (bt s 0 == 43) = false := by rw [h45]; decide
  have t45 : (bt s 0 == 45) = true := by rw [h45]; decide
  have c1 : ((s.size : Int) == 0) = false := by rw [beq_eq_false_iff_ne]; omega
  have hs1 : 1 < (s.size : Int) := by omega
  have hsi : (s.size : Int) ≤ 1000 := by omega
  have p1 : (0 < s.size) = True := eq_true (by omega)
  have p2 : (1 ≤ s.size) = True := eq_true (by omega)
  have p3 : (1 ≤ (s.size : Int)) = True := eq_true (by omega)
  have e1 : (s = ByteArray.empty) = False := by
    refine eq_false (fun e => ?_)
    rw [e] at hs; exact absurd hs (by decide)
  clear he h45 h0 h1
  go_enter Tryz.func82, Tryz.ntmps82
  go_wp2_with fail
  go_call CPL.out as e w1 ⟨rfl, rfl⟩
  go_wp2_with fail
  go_returns
  exact ⟨rfl, rfl⟩
set_option maxRecDepth 1000000 in
theorem special_pos (s : ByteArray) (w : World) (hs : 0 < s.size) (hs8 : s.size ≤ 1000) (h0 : 48 ≤ bt s 0) (h1 : bt s 0 ≤ 57) :
    Calls Tryz.prog 82 #[.string s] w fun e w' => e = .returned (.tuple #[.float .f64 0, .int .i64 0, .bool false]) ∧ w' = w := by
  have b0 := bt_0 s
  have t43 : (bt s 0 == 43) = false := by rw [beq_eq_false_iff_ne]; omega
  have t45 : (bt s 0 == 45) = false := by rw [beq_eq_false_iff_ne]; omega
  have t1 : (bt s 0 == 105) = false := by rw [beq_eq_false_iff_ne]; omega
  have t2 : (bt s 0 == 73) = false := by rw [beq_eq_false_iff_ne]; omega
  have t3 : (bt s 0 == 110) = false := by rw [beq_eq_false_iff_ne]; omega
  have t4 : (bt s 0 == 78) = false := by rw [beq_eq_false_iff_ne]; omega
  have c1 : ((s.size : Int) == 0) = false := by rw [beq_eq_false_iff_ne]; omega
  have hsi : (s.size : Int) ≤ 1000 := by omega
  have p1 : (0 < s.size) = True := eq_true (by omega)
  have e1 : (s = ByteArray.empty) = False := by
    refine eq_false (fun e => ?_)
    rw [e] at hs; exact absurd hs (by decide)
  clear h0 h1
  go_enter Tryz.func82, Tryz.ntmps82
  go_wp2_with fail
  go_returns
  exact ⟨rfl, rfl⟩


end Go.Proofs.YtodbjojglibniaaGreatDoor
