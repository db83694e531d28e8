/- Walks of functions of FnFjFloatAll (C9); conditions stand ahead of each theorem. -/
import Derived.Test.YtodbjojglibniaaGreatDoorT25
set_option linter.unusedVariables false
set_option linter.unusedSimpArgs false
namespace Go.Proofs.YtodbjojglibniaaGreatDoor
open Go.RowKit Go.Proofs.YtodbjojglibniaaGreatDoorW.PrintWords Go.Proofs.YtodbjojglibniaaGreatDoorW.PrintLast

section
variable {s : ByteArray} {X : Rat} {w : World} {R : Ending → World → Prop}

/-- The walk on from behind the first loop. -/
def FfRest_false (s : ByteArray) (w : World) (W : Nat) (g : Nat → Nat) (R : Ending → World → Prop) : Prop :=
  ∀ (v11 v12 v15 v16 v17 : Value) (u : Nat → Value) (Q : Exit → Act → World → Prop), (∀ a w', Q .ret a w' = bodyPost Tryz.prog Tryz.f27 R .ret a w') →
    Code.wp Tryz.prog ffT0 Q ⟨ffr2 (.string s) (.float .f64 0) .nilIface (.int .u64 ((0 + W : Nat) : Int)) (.bool false) (.int .u64 ((FP.dnum 0 g W : Nat) : Int)) (.int .u64 ((0 : Nat) : Int)) v11 v12 v15 v16 v17 u, []⟩ w
set_option maxRecDepth 1000000 in
set_option maxHeartbeats 2000000 in
theorem ff_enter_false (W : Nat) (g : Nat → Nat) (hsz : s.size ≤ 800) (hW1 : 1 ≤ W) (hfit : 0 + W ≤ s.size)  (hb : ∀ k < W, bt s ((0 + k : Nat) : Int) = (g k : Int)) (hk : ∀ k < W, 48 ≤ g k ∧ g k ≤ 57)
    (hend : 0 + W = s.size ∨ (0 + W < s.size ∧ ∃ c : Nat, bt s ((0 + W : Nat) : Int) = (c : Int) ∧ (c = 46 ∨ c = 69 ∨ c = 101))) (hS : ¬ (0 + W ≤ 18) → Slow s false X w R) (hT : 0 + W ≤ 18 → FfRest_false s w W g R) :
    Calls Tryz.prog 27 #[.string s] w R := by
  have hs8 : (s.size : Int) ≤ 800 := by omega
  have p0 : (0 < s.size) = True := eq_true (by omega)
  have e0 : (s.size == 0) = false := by rw [beq_eq_false_iff_ne]; omega
  have e0i : ((s.size : Int) == 0) = false := by rw [beq_eq_false_iff_ne]; omega
  have x0 : ∀ h : 0 < s.size, ((s[0]'h).toNat : Int) = bt s ((0 : Nat) : Int) := fun h => bt_at s ((0 : Nat) : Int) h
  have hg0 := hk 0 (by omega)
  have hbg := hb 0 (by omega)
  have hbg' : bt s ((0 : Nat) : Int) = (g 0 : Int) := hbg
  rw [hbg'] at x0
  have c46 : ((g 0 : Int) == 46) = false := by rw [beq_eq_false_iff_ne]; omega
  have c46n : (g 0 == 46) = false := by rw [beq_eq_false_iff_ne]; omega
  have c45 : ((g 0 : Int) == 45) = false := by rw [beq_eq_false_iff_ne]; omega
  have c45n : (g 0 == 45) = false := by rw [beq_eq_false_iff_ne]; omega
  clear hbg' hbg hg0
  have HB := Aside0.mk hb
  have HK := Aside0.mk hk
  have HE := Aside0.mk hend
  have S := Aside0.mk hS
  have HT := Aside0.mk hT
  have HF := Aside0.mk hfit
  have HZ := Aside0.mk hsz
  clear hb hk hend hS hT hfit hsz hW1
  go_enter Tryz.func27, Tryz.ntmps27
  go_wp2_with fail
  rename_i hK
  have HX := Aside0.mk hK
  refine ffa_loop (.int .u64 0) undef undef undef undef undef 0 W g (by omega) HZ.out HF.out HB.out HK.out HE.out S.out (fun a w' => by simp only [Exit.inBlock, Exit.then]) ?_ (by kernel_rfl) rfl
  intro h18 a ha
  rw [ha]
  simp only [Exit.inBlock, Exit.then, ↓reduceIte]
  refine HX.out _ _ ?_
  have HH := HT.out h18
  unfold FfRest_false at HH
  exact HH _ _ _ _ _ _ _ (fun a w' => by simp only [Exit.inBlock, Exit.then])
/-- The walk on from behind the first loop. -/
def FfRest_true (s : ByteArray) (w : World) (W : Nat) (g : Nat → Nat) (R : Ending → World → Prop) : Prop :=
  ∀ (v11 v12 v15 v16 v17 : Value) (u : Nat → Value) (Q : Exit → Act → World → Prop), (∀ a w', Q .ret a w' = bodyPost Tryz.prog Tryz.f27 R .ret a w') →
    Code.wp Tryz.prog ffT0 Q ⟨ffr2 (.string s) (.float .f64 0) .nilIface (.int .u64 ((1 + W : Nat) : Int)) (.bool true) (.int .u64 ((FP.dnum 0 g W : Nat) : Int)) (.int .u64 ((1 : Nat) : Int)) v11 v12 v15 v16 v17 u, []⟩ w
set_option maxRecDepth 1000000 in
set_option maxHeartbeats 2000000 in
theorem ff_enter_true (W : Nat) (g : Nat → Nat) (hsz : s.size ≤ 800) (hW1 : 1 ≤ W) (hfit : 1 + W ≤ s.size) (hb0 : bt s 0 = 45) (hb : ∀ k < W, bt s ((1 + k : Nat) : Int) = (g k : Int)) (hk : ∀ k < W, 48 ≤ g k ∧ g k ≤ 57)
    (hend : 1 + W = s.size ∨ (1 + W < s.size ∧ ∃ c : Nat, bt s ((1 + W : Nat) : Int) = (c : Int) ∧ (c = 46 ∨ c = 69 ∨ c = 101))) (hS : ¬ (1 + W ≤ 18) → Slow s true X w R) (hT : 1 + W ≤ 18 → FfRest_true s w W g R) :
    Calls Tryz.prog 27 #[.string s] w R := by
  have hs8 : (s.size : Int) ≤ 800 := by omega
  have p0 : (0 < s.size) = True := eq_true (by omega)
  have e0 : (s.size == 0) = false := by rw [beq_eq_false_iff_ne]; omega
  have e0i : ((s.size : Int) == 0) = false := by rw [beq_eq_false_iff_ne]; omega
  have x0 : ∀ h : 0 < s.size, ((s[0]'h).toNat : Int) = bt s ((0 : Nat) : Int) := fun h => bt_at s ((0 : Nat) : Int) h
  have hg0 := hk 0 (by omega)
  have hbg := hb 0 (by omega)
  have hb0' : bt s ((0 : Nat) : Int) = 45 := hb0
  rw [hb0'] at x0
  have p1i : (1 < (s.size : Int)) = True := eq_true (by omega)
  have p1 : (1 < s.size) = True := eq_true (by omega)
  have l1 : decide ((s.size : Int) ≤ 1) = false := decide_eq_false (by omega)
  have l1n : decide (s.size ≤ 1) = false := decide_eq_false (by omega)
  have x1 : ∀ h : 1 < s.size, ((s[1]'h).toNat : Int) = bt s ((1 : Nat) : Int) := fun h => bt_at s ((1 : Nat) : Int) h
  have hbg' : bt s ((1 : Nat) : Int) = (g 0 : Int) := hbg
  rw [hbg'] at x1
  have c46 : ((g 0 : Int) == 46) = false := by rw [beq_eq_false_iff_ne]; omega
  have c46n : (g 0 == 46) = false := by rw [beq_eq_false_iff_ne]; omega
  clear hb0 hb0' hbg' hbg hg0
  have HB := Aside0.mk hb
  have HK := Aside0.mk hk
  have HE := Aside0.mk hend
  have S := Aside0.mk hS
  have HT := Aside0.mk hT
  have HF := Aside0.mk hfit
  have HZ := Aside0.mk hsz
  clear hb hk hend hS hT hfit hsz hW1
  go_enter Tryz.func27, Tryz.ntmps27
  go_wp2_with fail
  rename_i hK
  have HX := Aside0.mk hK
  refine ffa_loop (.int .u64 1) undef undef undef undef undef 1 W g (by omega) HZ.out HF.out HB.out HK.out HE.out S.out (fun a w' => by simp only [Exit.inBlock, Exit.then]) ?_ (by kernel_rfl) rfl
  intro h18 a ha
  rw [ha]
  simp only [Exit.inBlock, Exit.then, ↓reduceIte]
  refine HX.out _ _ ?_
  have HH := HT.out h18
  unfold FfRest_true at HH
  exact HH _ _ _ _ _ _ _ (fun a w' => by simp only [Exit.inBlock, Exit.then])
end

end Go.Proofs.YtodbjojglibniaaGreatDoor
