/- Walks of functions of FnFjFloatAll (C3, C5); conditions stand ahead of each theorem. -/
import Derived.Test.YtodbjojglibniaaGreatDoorT20
import Derived.Test.YtodbjojglibniaaGreatDoorT21
import Derived.Test.YtodbjojglibniaaGreatDoorT10
import Derived.Test.YtodbjojglibniaaGreatDoorT03
set_option linter.unusedVariables false
set_option linter.unusedSimpArgs false
namespace Go.Proofs.YtodbjojglibniaaGreatDoor
open Go.RowKit Go.Proofs.YtodbjojglibniaaGreatDoorW.PrintWords Go.Proofs.YtodbjojglibniaaGreatDoorW.PrintLast

/-- What ParseFloat gives: the nearest float; an error if that is an infinity. -/
def PfPost (w0 : World) (neg : Bool) (X : Rat) (e : Ending) (w' : World) : Prop :=
  ∃ r, FP.Near X r ∧ ((r < FP.INF ∧ e = .returned (.tuple #[.float .f64 (FP.wordOf neg r), .nilIface])) ∨ (r = FP.INF ∧ ∃ t x, e = .returned (.tuple #[.float .f64 (FP.wordOf neg r), .iface t x]))) ∧ Below w0.heap.size w0 w'
section
variable {s : ByteArray} {neg : Bool} {m : Nat} {p : Int} {tr : Bool} {L : List Nat} {dp : Int} {n : Nat} {w : World}
theorem prefix_calls (h : NumIn s neg m p tr L dp) (hE : AEnv n w) :
    Calls Tryz.prog 69 #[.string s, .int .i64 64] w (AtofPost w s neg (FP.dval L dp)) := by
  have HA := Aside0.mk (atof_calls h hE)
  obtain ⟨R, hR⟩ : ∃ R, R = AtofPost w s neg (FP.dval L dp) := ⟨_, rfl⟩
  rw [← hR]
  have HR := Aside0.mk hR
  clear h hE hR
  go_enter Tryz.func69, Tryz.ntmps69
  go_wp2_with fail
  refine HA.out.mono ?_
  rintro e w1 ⟨r, h1, rfl, h2⟩
  generalize hr : FP.wordOf neg r = a1
  generalize he : errOf r = e1
  have H1 := Aside0.mk h1
  have H2 := Aside0.mk h2
  have H3 := Aside0.mk hr
  have H4 := Aside0.mk he
  clear h1 h2 hr he
  go_wp2_with fail
  rw [HR.out]
  exact ⟨r, H1.out, by rw [H3.out, H4.out]; rfl, H2.out⟩
theorem pfInner_calls (h : NumIn s neg m p tr L dp) (hE : AEnv n w) :
    Calls Tryz.prog 58 #[.string s, .int .i64 64] w fun e w' => ∃ r, FP.Near (FP.dval L dp) r ∧ e = .returned (.tuple #[.float .f64 (FP.wordOf neg r), errOf r]) ∧ Below w.heap.size w w' := by
  have HA := Aside0.mk (prefix_calls h hE)
  obtain ⟨R, hR⟩ : ∃ R, R = fun (e : Ending) (w' : World) => ∃ r, FP.Near (FP.dval L dp) r ∧ e = .returned (.tuple #[.float .f64 (FP.wordOf neg r), errOf r]) ∧ Below w.heap.size w w' := ⟨_, rfl⟩
  rw [← hR]
  have HR := Aside0.mk hR
  have hs8 : (s.size : Int) ≤ 800 := by have := h.sz; omega
  clear h hE hR
  go_enter Tryz.func58, Tryz.ntmps58
  go_wp2_with fail
  refine HA.out.mono ?_
  rintro e w1 ⟨r, h1, rfl, h2⟩
  generalize hr : FP.wordOf neg r = a1
  generalize he : errOf r = e1
  have H1 := Aside0.mk h1
  have H2 := Aside0.mk h2
  have H3 := Aside0.mk hr
  have H4 := Aside0.mk he
  clear h1 h2 hr he
  go_wp2_with fail
  rw [HR.out]
  exact ⟨r, H1.out, by rw [H3.out, H4.out]; rfl, H2.out⟩
theorem pf_calls (h : NumIn s neg m p tr L dp) (hE : AEnv n w) (v0 : 6 < w.heap.size) {ev : Value} (hv : w.cell? ⟨6, 0, none⟩ = some ev) (hev : ev = .nilIface ∨ ∃ te pe, ev = .iface te pe) :
    Calls Tryz.prog 42 #[.string s, .int .i64 64] w (PfPost w neg (FP.dval L dp)) := by
  have HA := Aside0.mk (pfInner_calls h hE)
  obtain ⟨R, hR⟩ : ∃ R, R = PfPost w neg (FP.dval L dp) := ⟨_, rfl⟩
  rw [← hR]
  have HR := Aside0.mk hR
  have HV := Aside0.mk hv
  have HEV := Aside0.mk hev
  have HV0 := Aside0.mk v0
  have hs8 : s.size ≤ 800 := h.sz
  clear h hE hR hv hev v0
  go_enter Tryz.func42, Tryz.ntmps42
  go_wp2_with fail
  refine HA.out.mono ?_
  rintro e w1 ⟨r, h1, rfl, h2⟩
  generalize hr : FP.wordOf neg r = a1
  have H1 := Aside0.mk h1
  have H2 := Aside0.mk h2
  have H3 := Aside0.mk hr
  have hv1 : w1.cell? ⟨6, 0, none⟩ = some ev := by rw [h2.cell (p := ⟨6, 0, none⟩) HV0.out]; exact HV.out
  have HV1 := Aside0.mk hv1
  clear h1 h2 hr hv1
  by_cases hi : r = FP.INF
  · rw [hi, errOf_inf]
    have HI := Aside0.mk hi
    clear hi
    go_wp2_with fail
    refine (Tryz.strconv_toError_range _ s _ _ ev w1 (by omega) HV1.out HEV.out).mono ?_
    rintro e w2 ⟨N, rfl, _, _, hB⟩
    have HB := Aside0.mk hB
    clear hB
    go_wp2_with fail
    rw [HR.out]
    exact ⟨r, H1.out, .inr ⟨HI.out, _, _, by rw [H3.out]; rfl⟩, H2.out.trans (HB.out.mono H2.out.size)⟩
  · have hf : r < FP.INF := by have := H1.out.1; omega
    rw [errOf_fin hf]
    have HF := Aside0.mk hf
    clear hi hf
    go_wp2_with fail
    rw [HR.out]
    exact ⟨r, H1.out, .inl ⟨HF.out, by rw [H3.out]; rfl⟩, H2.out⟩
end


end Go.Proofs.YtodbjojglibniaaGreatDoor

set_option linter.unusedVariables false
set_option linter.unusedSimpArgs false
namespace Go.Proofs.YtodbjojglibniaaGreatDoor
open Go.RowKit Go.Proofs.YtodbjojglibniaaGreatDoorW.PrintWords Go.Proofs.YtodbjojglibniaaGreatDoorW.PrintLast

/-- The tables of math.Pow10 lie. -/
structure PowEnv (w : World) : Prop where
  pos : ∀ i, i < 10 → w.cell? ⟨1, i, none⟩ = some (.float .f64 (FP.p10pos.getD i 0))
  tab : ∀ i, i < 32 → w.cell? ⟨2, i, none⟩ = some (.float .f64 (FP.p10tab.getD i 0))
  neg : ∀ i, i < 11 → w.cell? ⟨3, i, none⟩ = some (.float .f64 (FP.p10neg.getD i 0))
set_option maxRecDepth 1000000 in
theorem pow10_pos (p : Nat) (hp : p ≤ 300) (w : World) (h : PowEnv w) : Calls Tryz.prog 12 #[.int .i64 (p : Int)] w fun e w' => e = .returned (.float .f64 (FP.powF (p : Int))) ∧ Drew w w' := by
  obtain ⟨q, hq⟩ : ∃ q, q = p / 32 := ⟨_, rfl⟩
  obtain ⟨r, hr⟩ : ∃ r, r = p % 32 := ⟨_, rfl⟩
  have hm := FP.pow_pos hp
  rw [← hq, ← hr] at hm
  have c1 := h.pos q (by omega)
  have c2 := h.tab r (by omega)
  generalize FP.p10pos.getD q 0 = a at *
  generalize FP.p10tab.getD r 0 = b at *
  generalize FP.powF (p : Int) = c at *
  have hrun : ∀ t w, (binOp .mul t (.float .f64 a) (.float .f64 b)).run Tryz.prog w = .ok (.float .f64 c) w := fun t w => run_float_arith w .mul t .f64 a b c hm
  have e1 : (p : Int) / 32 = (q : Int) := by omega
  have e2 : (p : Int) % 32 = (r : Int) := by omega
  have hq10 : (q : Int) < 10 := by omega
  have hr32 : (r : Int) < 32 := by omega
  have hq10n : q < 10 := by omega
  have hr32n : r < 32 := by omega
  have hp3 : (p : Int) ≤ 300 := by omega
  have t1 : decide ((p : Int) ≤ 308) = true := decide_eq_true (by omega)
  have t1n : decide (p ≤ 308) = true := decide_eq_true (by omega)
  clear h hm hq hr
  go_enter Tryz.func12, Tryz.ntmps12
  go_wp2_with fail
  go_quiet (fail)
  go_wp2_with fail
  go_ret
  exact ⟨rfl, Drew.step _ _⟩
set_option maxRecDepth 1000000 in
theorem pow10_neg (p : Nat) (hp : p ≤ 300) (hp1 : 1 ≤ p) (w : World) (h : PowEnv w) : Calls Tryz.prog 12 #[.int .i64 (-(p : Int))] w fun e w' => e = .returned (.float .f64 (FP.powF (-(p : Int)))) ∧ Drew w w' := by
  obtain ⟨q, hq⟩ : ∃ q, q = p / 32 := ⟨_, rfl⟩
  obtain ⟨r, hr⟩ : ∃ r, r = p % 32 := ⟨_, rfl⟩
  have hm := FP.pow_neg hp hp1
  rw [← hq, ← hr] at hm
  have c1 := h.neg q (by omega)
  have c2 := h.tab r (by omega)
  generalize FP.p10neg.getD q 0 = a at *
  generalize FP.p10tab.getD r 0 = b at *
  obtain ⟨z, hz⟩ : ∃ z : Int, z = -(p : Int) := ⟨_, rfl⟩
  rw [← hz] at hm ⊢
  generalize FP.powF z = c at *
  have hrun : ∀ t w, (binOp .quo t (.float .f64 a) (.float .f64 b)).run Tryz.prog w = .ok (.float .f64 c) w := fun t w => run_float_arith w .quo t .f64 a b c hm
  have ez : -z = (p : Int) := by omega
  have e1 : (p : Int) / 32 = (q : Int) := by omega
  have e2 : (p : Int) % 32 = (r : Int) := by omega
  have hq10 : (q : Int) < 11 := by omega
  have hr32 : (r : Int) < 32 := by omega
  have hq10n : q < 11 := by omega
  have hr32n : r < 32 := by omega
  have hz0 : -300 ≤ z := by omega
  have hz1 : z < 0 := by omega
  have t1 : decide (0 ≤ z) = false := decide_eq_false (by omega)
  have t2 : decide (-323 ≤ z) = true := decide_eq_true (by omega)
  have t3 : decide (z < 0) = true := decide_eq_true (by omega)
  clear h hm hq hr hz
  go_enter Tryz.func12, Tryz.ntmps12
  go_wp2_with fail
  go_quiet (fail)
  go_wp2_with fail
  go_ret
  exact ⟨rfl, Drew.step _ _⟩
theorem pow10_calls (p : Int) (h1 : -300 ≤ p) (h2 : p ≤ 300) (w : World) (h : PowEnv w) : Calls Tryz.prog 12 #[.int .i64 p] w fun e w' => e = .returned (.float .f64 (FP.powF p)) ∧ Drew w w' := by
  by_cases c : 0 ≤ p
  · obtain ⟨n, rfl⟩ := Int.eq_ofNat_of_zero_le c
    exact pow10_pos n (by omega) w h
  · obtain ⟨n, hn⟩ := Int.eq_ofNat_of_zero_le (show 0 ≤ -p by omega)
    rw [show p = -(n : Int) by omega]
    exact pow10_neg n (by omega) (by omega) w h

theorem isInf_true (w : World) : Calls Tryz.prog 43 #[.float .f64 18442240474082181120, .int .i64 0] w fun e w' => e = .returned (.bool true) ∧ w' = w := by
  have hb : ∀ w, (callFunc 7 #[.float .f64 18442240474082181120]).run Tryz.prog w = .ok (.value (.int .u64 18442240474082181120)) w := fun w => by kernel_rfl
  have hf : ∀ w, (callFunc 33 #[.int .u64 9218868437227405312]).run Tryz.prog w = .ok (.value (.float .f64 9218868437227405312)) w := fun w => by kernel_rfl
  have eb : Go.bits .andNot .u64 18442240474082181120 9223372036854775808 = 9218868437227405312 := by decide +kernel
  have AB : ∀ w, Calls Tryz.prog 60 #[.float .f64 18442240474082181120] w fun e w' => e = .returned (.float .f64 9218868437227405312) ∧ w' = w := by
    intro w
    go_enter Tryz.func60, Tryz.ntmps60
    go_wp2_with fail
    go_ret
    exact ⟨rfl, rfl⟩
  have AB := Aside0.mk AB
  have ec : (FloatKind.f64.format.order 9218868437227405312 9218868437227405311 == some Ordering.gt) = true := by decide +kernel
  go_enter Tryz.func43, Tryz.ntmps43
  go_wp2_with fail
  go_call (AB.out _) as e w1 ⟨rfl, rfl⟩
  go_wp2_with fail
  try go_ret
  exact ⟨rfl, rfl⟩
theorem isInf_false (w : World) : Calls Tryz.prog 43 #[.float .f64 9218868437227405312, .int .i64 0] w fun e w' => e = .returned (.bool true) ∧ w' = w := by
  have hb : ∀ w, (callFunc 7 #[.float .f64 9218868437227405312]).run Tryz.prog w = .ok (.value (.int .u64 9218868437227405312)) w := fun w => by kernel_rfl
  have hf : ∀ w, (callFunc 33 #[.int .u64 9218868437227405312]).run Tryz.prog w = .ok (.value (.float .f64 9218868437227405312)) w := fun w => by kernel_rfl
  have eb : Go.bits .andNot .u64 9218868437227405312 9223372036854775808 = 9218868437227405312 := by decide +kernel
  have AB : ∀ w, Calls Tryz.prog 60 #[.float .f64 9218868437227405312] w fun e w' => e = .returned (.float .f64 9218868437227405312) ∧ w' = w := by
    intro w
    go_enter Tryz.func60, Tryz.ntmps60
    go_wp2_with fail
    go_ret
    exact ⟨rfl, rfl⟩
  have AB := Aside0.mk AB
  have ec : (FloatKind.f64.format.order 9218868437227405312 9218868437227405311 == some Ordering.gt) = true := by decide +kernel
  go_enter Tryz.func43, Tryz.ntmps43
  go_wp2_with fail
  go_call (AB.out _) as e w1 ⟨rfl, rfl⟩
  go_wp2_with fail
  try go_ret
  exact ⟨rfl, rfl⟩

end Go.Proofs.YtodbjojglibniaaGreatDoor
