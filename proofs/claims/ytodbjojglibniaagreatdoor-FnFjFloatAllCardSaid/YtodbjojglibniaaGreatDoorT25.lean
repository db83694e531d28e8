/- Walks of functions of FnFjFloatAll (C8); conditions stand ahead of each theorem. -/
import Derived.Test.YtodbjojglibniaaGreatDoorT24
set_option linter.unusedVariables false
set_option linter.unusedSimpArgs false
namespace Go.Proofs.YtodbjojglibniaaGreatDoor
open Go.RowKit Go.Proofs.YtodbjojglibniaaGreatDoorW.PrintWords Go.Proofs.YtodbjojglibniaaGreatDoorW.PrintLast

section
variable {s : ByteArray} {neg : Bool} {X : Rat} {w : World} (v11 v12 v15 v16 v17 : Value)

set_option maxRecDepth 1000000 in
set_option maxHeartbeats 2000000 in
theorem fft_dot_none_e (b D st : Nat) (hst : st < b) (hsz : s.size ≤ 800) (hb8 : b ≤ s.size) (hD : D < 10 ^ (b - st)) (h18 : b ≤ 18) (u : Nat → Value) (Q : Exit → Act → World → Prop) {R : Ending → World → Prop} (hQ : ∀ a w', Q .ret a w' = bodyPost Tryz.prog Tryz.f27 R .ret a w') (Fd : Nat) (gf : Nat → Nat) (hdot : bt s (b : Int) = 46) (hF1 : 1 ≤ Fd) (q : Nat) (hq : b + 1 + Fd = q) (hF : b + 1 + Fd ≤ s.size) (hbf : ∀ k < Fd, bt s ((b + 1 + k : Nat) : Int) = (gf k : Int)) (hkf : ∀ k < Fd, 48 ≤ gf k ∧ gf k ≤ 57) (hlet : bt s ((q : Nat) : Int) = 101) (p : Nat) (hp : q + 1 = p) (N : Nat) (ge : Nat → Nat) (hN1 : 1 ≤ N) (hN : p + N = s.size) (hbe : ∀ k < N, bt s ((p + k : Nat) : Int) = (ge k : Int)) (hke : ∀ k < N, 48 ≤ ge k ∧ ge k ≤ 57) (a0 a1 a2 a3 : Nat) (hPE : PowEnv w) (hS : ¬ (q < st + 17 ∧ FP.dnum 0 ge N ≤ 300) → Slow s neg X w R) (h0 : q < st + 17 → floatOfInt .f64 ((FP.dnum D gf Fd) : Int) = a0) (tk : Nat) (htk : q < st + 17 → w.cell? ⟨4, Fd, none⟩ = some (.float .f64 tk)) (hdiv : q < st + 17 → RunDiv a0 tk a1) (hmul : q < st + 17 → FP.dnum 0 ge N ≤ 300 → RunMul a1 (FP.powF ((FP.dnum 0 ge N : Int))) a2) (h3 : q < st + 17 → FP.dnum 0 ge N ≤ 300 → Signed neg a2 a3) (hfin : q < st + 17 → FP.dnum 0 ge N ≤ 300 → ∀ w', Drew w w' → R (.returned (.tuple #[.float .f64 a3, .nilIface])) w') :
    Code.wp Tryz.prog ffT0 Q ⟨ffr2 (.string s) (.float .f64 0) .nilIface (.int .u64 (b : Int)) (.bool neg) (.int .u64 (D : Int)) (.int .u64 (st : Int)) v11 v12 v15 v16 v17 u, []⟩ w := by
  have S := Aside0.mk hS
  have HQ := Aside0.mk hQ
  have hs8 : (s.size : Int) ≤ 800 := by omega
  have hb18 : (b : Int) ≤ 18 := by omega
  have hstb : (st : Int) < (b : Int) := by omega
  have tij : decide ((b : Int) ≤ (st : Int)) = false := decide_eq_false (by omega)
  have tijn : decide (b ≤ st) = false := decide_eq_false (by omega)
  have hD9 : (D : Int) ≤ 1000000000000000000 := by
    have : D < 10 ^ 18 := Nat.lt_of_lt_of_le hD (Nat.pow_le_pow_right (by omega) (by omega))
    omega
  have HFIN := Aside0.mk hfin
  have H3 := Aside0.mk h3
  have HPE := Aside0.mk hPE
  have HD0 := Aside0.mk hD
  clear hS hQ hD hfin h3 hPE
  have p0 : (b < s.size) = True := eq_true (by omega)
  have x0 : ∀ h : b < s.size, ((s[b]'h).toNat : Int) = bt s ((b : Nat) : Int) := fun h => bt_at s ((b : Nat) : Int) h
  rw [hdot] at x0
  have l0 : decide ((s.size : Int) ≤ (b : Int)) = false := decide_eq_false (by omega)
  have ln0 : decide (s.size ≤ b) = false := decide_eq_false (by omega)
  have l1 : decide ((s.size : Int) ≤ (b : Int) + 1) = false := decide_eq_false (by omega)
  have HBF := Aside0.mk hbf
  have HKF := Aside0.mk hkf
  have H0 := Aside0.mk h0
  have HTK := Aside0.mk htk
  have HDV := Aside0.mk hdiv
  clear hbf hkf h0 htk hdiv hdot
  have HBE := Aside0.mk hbe
  have HKE := Aside0.mk hke
  have HN := Aside0.mk hN
  have HMU := Aside0.mk hmul
  have hd0 := hbe 0 (by omega)
  have hd1 := hke 0 (by omega)
  unfold ffr2
  conv => arg 2; whnf
  go_wp2_with fail
  refine ffb_loop _ _ _ _ _ (b + 1) Fd st D gf hsz hF (by omega) hF1 (Nat.lt_of_lt_of_le HD0.out (Nat.pow_le_pow_right (by omega) (by omega))) (Nat.lt_of_lt_of_le HD0.out (Nat.pow_le_pow_right (by omega) (by omega))) HBF.out HKF.out (.inr ⟨by omega, 101, by rw [hq]; exact hlet, by decide⟩) (fun hn => S.out (fun hc => hn (by have := hc.1; omega))) ?_ ?_ (by kernel_rfl) rfl
  · intro a w'
    simp only [Exit.inBlock, Exit.then]
    exact HQ.out a w'
  intro hlt a ha
  rw [hq] at ha hlt
  rw [ha]
  clear ha
  have h0 := H0.out (by omega)
  have htk := HTK.out (by omega)
  have hdiv := HDV.out (by omega)
  have HLT := Aside0.mk hlt
  have EF : (q : Int) - ((b : Int) + 1) = (Fd : Int) := by omega
  have EN : q - (b + 1) = Fd := by omega
  have hD2 : (FP.dnum D gf Fd : Int) ≤ 1000000000000000000 := by
    have : FP.dnum D gf Fd < 10 ^ 18 := Nat.lt_of_lt_of_le (FP.dnum_lt HD0.out (fun j hj => (HKF.out j hj).2) Fd (Nat.le_refl _)) (Nat.pow_le_pow_right (by omega) (by omega))
    omega
  have hF17 : (Fd : Int) < 17 := by omega
  have hF17n : Fd < 17 := by omega
  have tk2 : decide ((q : Int) < (b : Int) + 1) = false := decide_eq_false (by omega)
  unfold RunDiv at hdiv
  have pe : (q < s.size) = True := eq_true (by omega)
  have xe : ∀ h : q < s.size, ((s[q]'h).toNat : Int) = bt s ((q : Nat) : Int) := fun h => bt_at s ((q : Nat) : Int) h
  rw [hlet] at xe
  have le : decide ((s.size : Int) ≤ ((q : Nat) : Int)) = false := decide_eq_false (by omega)
  have lne : decide (s.size ≤ q) = false := decide_eq_false (by omega)
  have m1 : decide ((s.size : Int) ≤ (p : Int)) = false := decide_eq_false (by omega)
  have m1n : decide (s.size ≤ p) = false := decide_eq_false (by omega)
  have pm1 : (p < s.size) = True := eq_true (by omega)
  have xm1 : ∀ h : p < s.size, ((s[p]'h).toNat : Int) = bt s (p : Int) := fun h => bt_at s (p : Int) h
  have hpI : (q : Int) + 1 = (p : Int) := by omega
  obtain ⟨cc, hcc⟩ : ∃ cc : Int, cc = bt s (p : Int) := ⟨_, rfl⟩
  rw [← hcc] at xm1
  have hcc2 : cc = (ge 0 : Int) := by rw [hcc]; exact hd0
  have s43 : (cc == 43) = false := by rw [beq_eq_false_iff_ne]; omega
  have s45 : (cc == 45) = false := by rw [beq_eq_false_iff_ne]; omega
  clear hcc hcc2
  clear hd0 hd1 hbe hke hmul hN
  clear hlet
  unfold ffr2
  simp only [Exit.inBlock, Exit.then, ↓reduceIte]
  clear hlt
  go_wp2_with fail
  refine ffc_loop _ _ _ _ _ _ (p) N ge hsz HN.out HBE.out HKE.out (fun hn => S.out (fun hc => hn hc.2)) ?_ ?_ (by kernel_rfl) rfl
  · intro a w'
    simp only [Exit.inBlock, Exit.then]
    exact HQ.out a w'
  intro h300 a ha
  rw [HN.out] at ha
  rw [ha]
  clear ha
  have hmul := HMU.out HLT.out h300
  unfold RunMul at hmul
  have h300i : (FP.dnum 0 ge N : Int) ≤ 300 := by omega
  have PW := fun w2 hw2 => pow10_calls ((FP.dnum 0 ge N : Int)) (by omega) (by omega) w2 hw2
  have PW := Aside0.mk (PW w HPE.out)
  have HFIN2 := Aside0.mk (HFIN.out HLT.out h300)
  have HS3 := H3.out HLT.out h300
  have tle : decide (s.size ≤ (p)) = false := decide_eq_false (by have := HN.out; omega)
  have tlei : decide ((s.size : Int) ≤ (p : Int)) = false := decide_eq_false (by have := HN.out; omega)
  have tend : decide ((s.size : Int) ≤ (s.size : Int)) = true := decide_eq_true (by omega)
  have tendn : decide (s.size ≤ s.size) = true := decide_eq_true (by omega)
  unfold ffr2
  simp only [Exit.inBlock, Exit.then, ↓reduceIte]
  go_wp2_with fail
  refine PW.out.mono ?_
  rintro e w2 ⟨rfl, hd⟩
  have HDR := Aside0.mk hd
  clear hd
  cases neg with
  | true =>
    have hn : RunNeg a2 a3 := HS3
    unfold RunNeg at hn
    clear HS3
    go_wp2_with fail
    rw [HQ.out]
    go_returns
    exact HFIN2.out _ HDR.out
  | false =>
    have hn : a3 = a2 := HS3
    subst hn
    clear HS3
    go_wp2_with fail
    rw [HQ.out]
    go_returns
    exact HFIN2.out _ HDR.out

set_option maxRecDepth 1000000 in
set_option maxHeartbeats 2000000 in
theorem fft_dot_none_E (b D st : Nat) (hst : st < b) (hsz : s.size ≤ 800) (hb8 : b ≤ s.size) (hD : D < 10 ^ (b - st)) (h18 : b ≤ 18) (u : Nat → Value) (Q : Exit → Act → World → Prop) {R : Ending → World → Prop} (hQ : ∀ a w', Q .ret a w' = bodyPost Tryz.prog Tryz.f27 R .ret a w') (Fd : Nat) (gf : Nat → Nat) (hdot : bt s (b : Int) = 46) (hF1 : 1 ≤ Fd) (q : Nat) (hq : b + 1 + Fd = q) (hF : b + 1 + Fd ≤ s.size) (hbf : ∀ k < Fd, bt s ((b + 1 + k : Nat) : Int) = (gf k : Int)) (hkf : ∀ k < Fd, 48 ≤ gf k ∧ gf k ≤ 57) (hlet : bt s ((q : Nat) : Int) = 69) (p : Nat) (hp : q + 1 = p) (N : Nat) (ge : Nat → Nat) (hN1 : 1 ≤ N) (hN : p + N = s.size) (hbe : ∀ k < N, bt s ((p + k : Nat) : Int) = (ge k : Int)) (hke : ∀ k < N, 48 ≤ ge k ∧ ge k ≤ 57) (a0 a1 a2 a3 : Nat) (hPE : PowEnv w) (hS : ¬ (q < st + 17 ∧ FP.dnum 0 ge N ≤ 300) → Slow s neg X w R) (h0 : q < st + 17 → floatOfInt .f64 ((FP.dnum D gf Fd) : Int) = a0) (tk : Nat) (htk : q < st + 17 → w.cell? ⟨4, Fd, none⟩ = some (.float .f64 tk)) (hdiv : q < st + 17 → RunDiv a0 tk a1) (hmul : q < st + 17 → FP.dnum 0 ge N ≤ 300 → RunMul a1 (FP.powF ((FP.dnum 0 ge N : Int))) a2) (h3 : q < st + 17 → FP.dnum 0 ge N ≤ 300 → Signed neg a2 a3) (hfin : q < st + 17 → FP.dnum 0 ge N ≤ 300 → ∀ w', Drew w w' → R (.returned (.tuple #[.float .f64 a3, .nilIface])) w') :
    Code.wp Tryz.prog ffT0 Q ⟨ffr2 (.string s) (.float .f64 0) .nilIface (.int .u64 (b : Int)) (.bool neg) (.int .u64 (D : Int)) (.int .u64 (st : Int)) v11 v12 v15 v16 v17 u, []⟩ w := by
  have S := Aside0.mk hS
  have HQ := Aside0.mk hQ
  have hs8 : (s.size : Int) ≤ 800 := by omega
  have hb18 : (b : Int) ≤ 18 := by omega
  have hstb : (st : Int) < (b : Int) := by omega
  have tij : decide ((b : Int) ≤ (st : Int)) = false := decide_eq_false (by omega)
  have tijn : decide (b ≤ st) = false := decide_eq_false (by omega)
  have hD9 : (D : Int) ≤ 1000000000000000000 := by
    have : D < 10 ^ 18 := Nat.lt_of_lt_of_le hD (Nat.pow_le_pow_right (by omega) (by omega))
    omega
  have HFIN := Aside0.mk hfin
  have H3 := Aside0.mk h3
  have HPE := Aside0.mk hPE
  have HD0 := Aside0.mk hD
  clear hS hQ hD hfin h3 hPE
  have p0 : (b < s.size) = True := eq_true (by omega)
  have x0 : ∀ h : b < s.size, ((s[b]'h).toNat : Int) = bt s ((b : Nat) : Int) := fun h => bt_at s ((b : Nat) : Int) h
  rw [hdot] at x0
  have l0 : decide ((s.size : Int) ≤ (b : Int)) = false := decide_eq_false (by omega)
  have ln0 : decide (s.size ≤ b) = false := decide_eq_false (by omega)
  have l1 : decide ((s.size : Int) ≤ (b : Int) + 1) = false := decide_eq_false (by omega)
  have HBF := Aside0.mk hbf
  have HKF := Aside0.mk hkf
  have H0 := Aside0.mk h0
  have HTK := Aside0.mk htk
  have HDV := Aside0.mk hdiv
  clear hbf hkf h0 htk hdiv hdot
  have HBE := Aside0.mk hbe
  have HKE := Aside0.mk hke
  have HN := Aside0.mk hN
  have HMU := Aside0.mk hmul
  have hd0 := hbe 0 (by omega)
  have hd1 := hke 0 (by omega)
  unfold ffr2
  conv => arg 2; whnf
  go_wp2_with fail
  refine ffb_loop _ _ _ _ _ (b + 1) Fd st D gf hsz hF (by omega) hF1 (Nat.lt_of_lt_of_le HD0.out (Nat.pow_le_pow_right (by omega) (by omega))) (Nat.lt_of_lt_of_le HD0.out (Nat.pow_le_pow_right (by omega) (by omega))) HBF.out HKF.out (.inr ⟨by omega, 69, by rw [hq]; exact hlet, by decide⟩) (fun hn => S.out (fun hc => hn (by have := hc.1; omega))) ?_ ?_ (by kernel_rfl) rfl
  · intro a w'
    simp only [Exit.inBlock, Exit.then]
    exact HQ.out a w'
  intro hlt a ha
  rw [hq] at ha hlt
  rw [ha]
  clear ha
  have h0 := H0.out (by omega)
  have htk := HTK.out (by omega)
  have hdiv := HDV.out (by omega)
  have HLT := Aside0.mk hlt
  have EF : (q : Int) - ((b : Int) + 1) = (Fd : Int) := by omega
  have EN : q - (b + 1) = Fd := by omega
  have hD2 : (FP.dnum D gf Fd : Int) ≤ 1000000000000000000 := by
    have : FP.dnum D gf Fd < 10 ^ 18 := Nat.lt_of_lt_of_le (FP.dnum_lt HD0.out (fun j hj => (HKF.out j hj).2) Fd (Nat.le_refl _)) (Nat.pow_le_pow_right (by omega) (by omega))
    omega
  have hF17 : (Fd : Int) < 17 := by omega
  have hF17n : Fd < 17 := by omega
  have tk2 : decide ((q : Int) < (b : Int) + 1) = false := decide_eq_false (by omega)
  unfold RunDiv at hdiv
  have pe : (q < s.size) = True := eq_true (by omega)
  have xe : ∀ h : q < s.size, ((s[q]'h).toNat : Int) = bt s ((q : Nat) : Int) := fun h => bt_at s ((q : Nat) : Int) h
  rw [hlet] at xe
  have le : decide ((s.size : Int) ≤ ((q : Nat) : Int)) = false := decide_eq_false (by omega)
  have lne : decide (s.size ≤ q) = false := decide_eq_false (by omega)
  have m1 : decide ((s.size : Int) ≤ (p : Int)) = false := decide_eq_false (by omega)
  have m1n : decide (s.size ≤ p) = false := decide_eq_false (by omega)
  have pm1 : (p < s.size) = True := eq_true (by omega)
  have xm1 : ∀ h : p < s.size, ((s[p]'h).toNat : Int) = bt s (p : Int) := fun h => bt_at s (p : Int) h
  have hpI : (q : Int) + 1 = (p : Int) := by omega
  obtain ⟨cc, hcc⟩ : ∃ cc : Int, cc = bt s (p : Int) := ⟨_, rfl⟩
  rw [← hcc] at xm1
  have hcc2 : cc = (ge 0 : Int) := by rw [hcc]; exact hd0
  have s43 : (cc == 43) = false := by rw [beq_eq_false_iff_ne]; omega
  have s45 : (cc == 45) = false := by rw [beq_eq_false_iff_ne]; omega
  clear hcc hcc2
  clear hd0 hd1 hbe hke hmul hN
  clear hlet
  unfold ffr2
  simp only [Exit.inBlock, Exit.then, ↓reduceIte]
  clear hlt
  go_wp2_with fail
  refine ffc_loop _ _ _ _ _ _ (p) N ge hsz HN.out HBE.out HKE.out (fun hn => S.out (fun hc => hn hc.2)) ?_ ?_ (by kernel_rfl) rfl
  · intro a w'
    simp only [Exit.inBlock, Exit.then]
    exact HQ.out a w'
  intro h300 a ha
  rw [HN.out] at ha
  rw [ha]
  clear ha
  have hmul := HMU.out HLT.out h300
  unfold RunMul at hmul
  have h300i : (FP.dnum 0 ge N : Int) ≤ 300 := by omega
  have PW := fun w2 hw2 => pow10_calls ((FP.dnum 0 ge N : Int)) (by omega) (by omega) w2 hw2
  have PW := Aside0.mk (PW w HPE.out)
  have HFIN2 := Aside0.mk (HFIN.out HLT.out h300)
  have HS3 := H3.out HLT.out h300
  have tle : decide (s.size ≤ (p)) = false := decide_eq_false (by have := HN.out; omega)
  have tlei : decide ((s.size : Int) ≤ (p : Int)) = false := decide_eq_false (by have := HN.out; omega)
  have tend : decide ((s.size : Int) ≤ (s.size : Int)) = true := decide_eq_true (by omega)
  have tendn : decide (s.size ≤ s.size) = true := decide_eq_true (by omega)
  unfold ffr2
  simp only [Exit.inBlock, Exit.then, ↓reduceIte]
  go_wp2_with fail
  refine PW.out.mono ?_
  rintro e w2 ⟨rfl, hd⟩
  have HDR := Aside0.mk hd
  clear hd
  cases neg with
  | true =>
    have hn : RunNeg a2 a3 := HS3
    unfold RunNeg at hn
    clear HS3
    go_wp2_with fail
    rw [HQ.out]
    go_returns
    exact HFIN2.out _ HDR.out
  | false =>
    have hn : a3 = a2 := HS3
    subst hn
    clear HS3
    go_wp2_with fail
    rw [HQ.out]
    go_returns
    exact HFIN2.out _ HDR.out

set_option maxRecDepth 1000000 in
set_option maxHeartbeats 2000000 in
theorem fft_dot_plus_e (b D st : Nat) (hst : st < b) (hsz : s.size ≤ 800) (hb8 : b ≤ s.size) (hD : D < 10 ^ (b - st)) (h18 : b ≤ 18) (u : Nat → Value) (Q : Exit → Act → World → Prop) {R : Ending → World → Prop} (hQ : ∀ a w', Q .ret a w' = bodyPost Tryz.prog Tryz.f27 R .ret a w') (Fd : Nat) (gf : Nat → Nat) (hdot : bt s (b : Int) = 46) (hF1 : 1 ≤ Fd) (q : Nat) (hq : b + 1 + Fd = q) (hF : b + 1 + Fd ≤ s.size) (hbf : ∀ k < Fd, bt s ((b + 1 + k : Nat) : Int) = (gf k : Int)) (hkf : ∀ k < Fd, 48 ≤ gf k ∧ gf k ≤ 57) (hlet : bt s ((q : Nat) : Int) = 101) (p : Nat) (hp : q + 1 = p) (hsg : bt s ((p : Nat) : Int) = 43) (r : Nat) (hr : p + 1 = r) (N : Nat) (ge : Nat → Nat) (hN1 : 1 ≤ N) (hN : r + N = s.size) (hbe : ∀ k < N, bt s ((r + k : Nat) : Int) = (ge k : Int)) (hke : ∀ k < N, 48 ≤ ge k ∧ ge k ≤ 57) (a0 a1 a2 a3 : Nat) (hPE : PowEnv w) (hS : ¬ (q < st + 17 ∧ FP.dnum 0 ge N ≤ 300) → Slow s neg X w R) (h0 : q < st + 17 → floatOfInt .f64 ((FP.dnum D gf Fd) : Int) = a0) (tk : Nat) (htk : q < st + 17 → w.cell? ⟨4, Fd, none⟩ = some (.float .f64 tk)) (hdiv : q < st + 17 → RunDiv a0 tk a1) (hmul : q < st + 17 → FP.dnum 0 ge N ≤ 300 → RunMul a1 (FP.powF ((FP.dnum 0 ge N : Int))) a2) (h3 : q < st + 17 → FP.dnum 0 ge N ≤ 300 → Signed neg a2 a3) (hfin : q < st + 17 → FP.dnum 0 ge N ≤ 300 → ∀ w', Drew w w' → R (.returned (.tuple #[.float .f64 a3, .nilIface])) w') :
    Code.wp Tryz.prog ffT0 Q ⟨ffr2 (.string s) (.float .f64 0) .nilIface (.int .u64 (b : Int)) (.bool neg) (.int .u64 (D : Int)) (.int .u64 (st : Int)) v11 v12 v15 v16 v17 u, []⟩ w := by
  have S := Aside0.mk hS
  have HQ := Aside0.mk hQ
  have hs8 : (s.size : Int) ≤ 800 := by omega
  have hb18 : (b : Int) ≤ 18 := by omega
  have hstb : (st : Int) < (b : Int) := by omega
  have tij : decide ((b : Int) ≤ (st : Int)) = false := decide_eq_false (by omega)
  have tijn : decide (b ≤ st) = false := decide_eq_false (by omega)
  have hD9 : (D : Int) ≤ 1000000000000000000 := by
    have : D < 10 ^ 18 := Nat.lt_of_lt_of_le hD (Nat.pow_le_pow_right (by omega) (by omega))
    omega
  have HFIN := Aside0.mk hfin
  have H3 := Aside0.mk h3
  have HPE := Aside0.mk hPE
  have HD0 := Aside0.mk hD
  clear hS hQ hD hfin h3 hPE
  have p0 : (b < s.size) = True := eq_true (by omega)
  have x0 : ∀ h : b < s.size, ((s[b]'h).toNat : Int) = bt s ((b : Nat) : Int) := fun h => bt_at s ((b : Nat) : Int) h
  rw [hdot] at x0
  have l0 : decide ((s.size : Int) ≤ (b : Int)) = false := decide_eq_false (by omega)
  have ln0 : decide (s.size ≤ b) = false := decide_eq_false (by omega)
  have l1 : decide ((s.size : Int) ≤ (b : Int) + 1) = false := decide_eq_false (by omega)
  have HBF := Aside0.mk hbf
  have HKF := Aside0.mk hkf
  have H0 := Aside0.mk h0
  have HTK := Aside0.mk htk
  have HDV := Aside0.mk hdiv
  clear hbf hkf h0 htk hdiv hdot
  have HBE := Aside0.mk hbe
  have HKE := Aside0.mk hke
  have HN := Aside0.mk hN
  have HMU := Aside0.mk hmul
  have hd0 := hbe 0 (by omega)
  have hd1 := hke 0 (by omega)
  unfold ffr2
  conv => arg 2; whnf
  go_wp2_with fail
  refine ffb_loop _ _ _ _ _ (b + 1) Fd st D gf hsz hF (by omega) hF1 (Nat.lt_of_lt_of_le HD0.out (Nat.pow_le_pow_right (by omega) (by omega))) (Nat.lt_of_lt_of_le HD0.out (Nat.pow_le_pow_right (by omega) (by omega))) HBF.out HKF.out (.inr ⟨by omega, 101, by rw [hq]; exact hlet, by decide⟩) (fun hn => S.out (fun hc => hn (by have := hc.1; omega))) ?_ ?_ (by kernel_rfl) rfl
  · intro a w'
    simp only [Exit.inBlock, Exit.then]
    exact HQ.out a w'
  intro hlt a ha
  rw [hq] at ha hlt
  rw [ha]
  clear ha
  have h0 := H0.out (by omega)
  have htk := HTK.out (by omega)
  have hdiv := HDV.out (by omega)
  have HLT := Aside0.mk hlt
  have EF : (q : Int) - ((b : Int) + 1) = (Fd : Int) := by omega
  have EN : q - (b + 1) = Fd := by omega
  have hD2 : (FP.dnum D gf Fd : Int) ≤ 1000000000000000000 := by
    have : FP.dnum D gf Fd < 10 ^ 18 := Nat.lt_of_lt_of_le (FP.dnum_lt HD0.out (fun j hj => (HKF.out j hj).2) Fd (Nat.le_refl _)) (Nat.pow_le_pow_right (by omega) (by omega))
    omega
  have hF17 : (Fd : Int) < 17 := by omega
  have hF17n : Fd < 17 := by omega
  have tk2 : decide ((q : Int) < (b : Int) + 1) = false := decide_eq_false (by omega)
  unfold RunDiv at hdiv
  have pe : (q < s.size) = True := eq_true (by omega)
  have xe : ∀ h : q < s.size, ((s[q]'h).toNat : Int) = bt s ((q : Nat) : Int) := fun h => bt_at s ((q : Nat) : Int) h
  rw [hlet] at xe
  have le : decide ((s.size : Int) ≤ ((q : Nat) : Int)) = false := decide_eq_false (by omega)
  have lne : decide (s.size ≤ q) = false := decide_eq_false (by omega)
  have m1 : decide ((s.size : Int) ≤ (p : Int)) = false := decide_eq_false (by omega)
  have m1n : decide (s.size ≤ p) = false := decide_eq_false (by omega)
  have pm1 : (p < s.size) = True := eq_true (by omega)
  have xm1 : ∀ h : p < s.size, ((s[p]'h).toNat : Int) = bt s (p : Int) := fun h => bt_at s (p : Int) h
  have hpI : (q : Int) + 1 = (p : Int) := by omega
  rw [hsg] at xm1
  have hrI : (p : Int) + 1 = (r : Int) := by omega
  have m2 : decide ((s.size : Int) ≤ (r : Int)) = false := decide_eq_false (by omega)
  have m2n : decide (s.size ≤ r) = false := decide_eq_false (by omega)
  clear hd0 hd1 hbe hke hmul hN hsg
  clear hlet
  unfold ffr2
  simp only [Exit.inBlock, Exit.then, ↓reduceIte]
  clear hlt
  go_wp2_with fail
  refine ffc_loop _ _ _ _ _ _ (r) N ge hsz HN.out HBE.out HKE.out (fun hn => S.out (fun hc => hn hc.2)) ?_ ?_ (by kernel_rfl) rfl
  · intro a w'
    simp only [Exit.inBlock, Exit.then]
    exact HQ.out a w'
  intro h300 a ha
  rw [HN.out] at ha
  rw [ha]
  clear ha
  have hmul := HMU.out HLT.out h300
  unfold RunMul at hmul
  have h300i : (FP.dnum 0 ge N : Int) ≤ 300 := by omega
  have PW := fun w2 hw2 => pow10_calls ((FP.dnum 0 ge N : Int)) (by omega) (by omega) w2 hw2
  have PW := Aside0.mk (PW w HPE.out)
  have HFIN2 := Aside0.mk (HFIN.out HLT.out h300)
  have HS3 := H3.out HLT.out h300
  have tle : decide (s.size ≤ (r)) = false := decide_eq_false (by have := HN.out; omega)
  have tlei : decide ((s.size : Int) ≤ (r : Int)) = false := decide_eq_false (by have := HN.out; omega)
  have tend : decide ((s.size : Int) ≤ (s.size : Int)) = true := decide_eq_true (by omega)
  have tendn : decide (s.size ≤ s.size) = true := decide_eq_true (by omega)
  unfold ffr2
  simp only [Exit.inBlock, Exit.then, ↓reduceIte]
  go_wp2_with fail
  refine PW.out.mono ?_
  rintro e w2 ⟨rfl, hd⟩
  have HDR := Aside0.mk hd
  clear hd
  cases neg with
  | true =>
    have hn : RunNeg a2 a3 := HS3
    unfold RunNeg at hn
    clear HS3
    go_wp2_with fail
    rw [HQ.out]
    go_returns
    exact HFIN2.out _ HDR.out
  | false =>
    have hn : a3 = a2 := HS3
    subst hn
    clear HS3
    go_wp2_with fail
    rw [HQ.out]
    go_returns
    exact HFIN2.out _ HDR.out

set_option maxRecDepth 1000000 in
set_option maxHeartbeats 2000000 in
theorem fft_dot_plus_E (b D st : Nat) (hst : st < b) (hsz : s.size ≤ 800) (hb8 : b ≤ s.size) (hD : D < 10 ^ (b - st)) (h18 : b ≤ 18) (u : Nat → Value) (Q : Exit → Act → World → Prop) {R : Ending → World → Prop} (hQ : ∀ a w', Q .ret a w' = bodyPost Tryz.prog Tryz.f27 R .ret a w') (Fd : Nat) (gf : Nat → Nat) (hdot : bt s (b : Int) = 46) (hF1 : 1 ≤ Fd) (q : Nat) (hq : b + 1 + Fd = q) (hF : b + 1 + Fd ≤ s.size) (hbf : ∀ k < Fd, bt s ((b + 1 + k : Nat) : Int) = (gf k : Int)) (hkf : ∀ k < Fd, 48 ≤ gf k ∧ gf k ≤ 57) (hlet : bt s ((q : Nat) : Int) = 69) (p : Nat) (hp : q + 1 = p) (hsg : bt s ((p : Nat) : Int) = 43) (r : Nat) (hr : p + 1 = r) (N : Nat) (ge : Nat → Nat) (hN1 : 1 ≤ N) (hN : r + N = s.size) (hbe : ∀ k < N, bt s ((r + k : Nat) : Int) = (ge k : Int)) (hke : ∀ k < N, 48 ≤ ge k ∧ ge k ≤ 57) (a0 a1 a2 a3 : Nat) (hPE : PowEnv w) (hS : ¬ (q < st + 17 ∧ FP.dnum 0 ge N ≤ 300) → Slow s neg X w R) (h0 : q < st + 17 → floatOfInt .f64 ((FP.dnum D gf Fd) : Int) = a0) (tk : Nat) (htk : q < st + 17 → w.cell? ⟨4, Fd, none⟩ = some (.float .f64 tk)) (hdiv : q < st + 17 → RunDiv a0 tk a1) (hmul : q < st + 17 → FP.dnum 0 ge N ≤ 300 → RunMul a1 (FP.powF ((FP.dnum 0 ge N : Int))) a2) (h3 : q < st + 17 → FP.dnum 0 ge N ≤ 300 → Signed neg a2 a3) (hfin : q < st + 17 → FP.dnum 0 ge N ≤ 300 → ∀ w', Drew w w' → R (.returned (.tuple #[.float .f64 a3, .nilIface])) w') :
    Code.wp Tryz.prog ffT0 Q ⟨ffr2 (.string s) (.float .f64 0) .nilIface (.int .u64 (b : Int)) (.bool neg) (.int .u64 (D : Int)) (.int .u64 (st : Int)) v11 v12 v15 v16 v17 u, []⟩ w := by
  have S := Aside0.mk hS
  have HQ := Aside0.mk hQ
  have hs8 : (s.size : Int) ≤ 800 := by omega
  have hb18 : (b : Int) ≤ 18 := by omega
  have hstb : (st : Int) < (b : Int) := by omega
  have tij : decide ((b : Int) ≤ (st : Int)) = false := decide_eq_false (by omega)
  have tijn : decide (b ≤ st) = false := decide_eq_false (by omega)
  have hD9 : (D : Int) ≤ 1000000000000000000 := by
    have : D < 10 ^ 18 := Nat.lt_of_lt_of_le hD (Nat.pow_le_pow_right (by omega) (by omega))
    omega
  have HFIN := Aside0.mk hfin
  have H3 := Aside0.mk h3
  have HPE := Aside0.mk hPE
  have HD0 := Aside0.mk hD
  clear hS hQ hD hfin h3 hPE
  have p0 : (b < s.size) = True := eq_true (by omega)
  have x0 : ∀ h : b < s.size, ((s[b]'h).toNat : Int) = bt s ((b : Nat) : Int) := fun h => bt_at s ((b : Nat) : Int) h
  rw [hdot] at x0
  have l0 : decide ((s.size : Int) ≤ (b : Int)) = false := decide_eq_false (by omega)
  have ln0 : decide (s.size ≤ b) = false := decide_eq_false (by omega)
  have l1 : decide ((s.size : Int) ≤ (b : Int) + 1) = false := decide_eq_false (by omega)
  have HBF := Aside0.mk hbf
  have HKF := Aside0.mk hkf
  have H0 := Aside0.mk h0
  have HTK := Aside0.mk htk
  have HDV := Aside0.mk hdiv
  clear hbf hkf h0 htk hdiv hdot
  have HBE := Aside0.mk hbe
  have HKE := Aside0.mk hke
  have HN := Aside0.mk hN
  have HMU := Aside0.mk hmul
  have hd0 := hbe 0 (by omega)
  have hd1 := hke 0 (by omega)
  unfold ffr2
  conv => arg 2; whnf
  go_wp2_with fail
  refine ffb_loop _ _ _ _ _ (b + 1) Fd st D gf hsz hF (by omega) hF1 (Nat.lt_of_lt_of_le HD0.out (Nat.pow_le_pow_right (by omega) (by omega))) (Nat.lt_of_lt_of_le HD0.out (Nat.pow_le_pow_right (by omega) (by omega))) HBF.out HKF.out (.inr ⟨by omega, 69, by rw [hq]; exact hlet, by decide⟩) (fun hn => S.out (fun hc => hn (by have := hc.1; omega))) ?_ ?_ (by kernel_rfl) rfl
  · intro a w'
    simp only [Exit.inBlock, Exit.then]
    exact HQ.out a w'
  intro hlt a ha
  rw [hq] at ha hlt
  rw [ha]
  clear ha
  have h0 := H0.out (by omega)
  have htk := HTK.out (by omega)
  have hdiv := HDV.out (by omega)
  have HLT := Aside0.mk hlt
  have EF : (q : Int) - ((b : Int) + 1) = (Fd : Int) := by omega
  have EN : q - (b + 1) = Fd := by omega
  have hD2 : (FP.dnum D gf Fd : Int) ≤ 1000000000000000000 := by
    have : FP.dnum D gf Fd < 10 ^ 18 := Nat.lt_of_lt_of_le (FP.dnum_lt HD0.out (fun j hj => (HKF.out j hj).2) Fd (Nat.le_refl _)) (Nat.pow_le_pow_right (by omega) (by omega))
    omega
  have hF17 : (Fd : Int) < 17 := by omega
  have hF17n : Fd < 17 := by omega
  have tk2 : decide ((q : Int) < (b : Int) + 1) = false := decide_eq_false (by omega)
  unfold RunDiv at hdiv
  have pe : (q < s.size) = True := eq_true (by omega)
  have xe : ∀ h : q < s.size, ((s[q]'h).toNat : Int) = bt s ((q : Nat) : Int) := fun h => bt_at s ((q : Nat) : Int) h
  rw [hlet] at xe
  have le : decide ((s.size : Int) ≤ ((q : Nat) : Int)) = false := decide_eq_false (by omega)
  have lne : decide (s.size ≤ q) = false := decide_eq_false (by omega)
  have m1 : decide ((s.size : Int) ≤ (p : Int)) = false := decide_eq_false (by omega)
  have m1n : decide (s.size ≤ p) = false := decide_eq_false (by omega)
  have pm1 : (p < s.size) = True := eq_true (by omega)
  have xm1 : ∀ h : p < s.size, ((s[p]'h).toNat : Int) = bt s (p : Int) := fun h => bt_at s (p : Int) h
  have hpI : (q : Int) + 1 = (p : Int) := by omega
  rw [hsg] at xm1
  have hrI : (p : Int) + 1 = (r : Int) := by omega
  have m2 : decide ((s.size : Int) ≤ (r : Int)) = false := decide_eq_false (by omega)
  have m2n : decide (s.size ≤ r) = false := decide_eq_false (by omega)
  clear hd0 hd1 hbe hke hmul hN hsg
  clear hlet
  unfold ffr2
  simp only [Exit.inBlock, Exit.then, ↓reduceIte]
  clear hlt
  go_wp2_with fail
  refine ffc_loop _ _ _ _ _ _ (r) N ge hsz HN.out HBE.out HKE.out (fun hn => S.out (fun hc => hn hc.2)) ?_ ?_ (by kernel_rfl) rfl
  · intro a w'
    simp only [Exit.inBlock, Exit.then]
    exact HQ.out a w'
  intro h300 a ha
  rw [HN.out] at ha
  rw [ha]
  clear ha
  have hmul := HMU.out HLT.out h300
  unfold RunMul at hmul
  have h300i : (FP.dnum 0 ge N : Int) ≤ 300 := by omega
  have PW := fun w2 hw2 => pow10_calls ((FP.dnum 0 ge N : Int)) (by omega) (by omega) w2 hw2
  have PW := Aside0.mk (PW w HPE.out)
  have HFIN2 := Aside0.mk (HFIN.out HLT.out h300)
  have HS3 := H3.out HLT.out h300
  have tle : decide (s.size ≤ (r)) = false := decide_eq_false (by have := HN.out; omega)
  have tlei : decide ((s.size : Int) ≤ (r : Int)) = false := decide_eq_false (by have := HN.out; omega)
  have tend : decide ((s.size : Int) ≤ (s.size : Int)) = true := decide_eq_true (by omega)
  have tendn : decide (s.size ≤ s.size) = true := decide_eq_true (by omega)
  unfold ffr2
  simp only [Exit.inBlock, Exit.then, ↓reduceIte]
  go_wp2_with fail
  refine PW.out.mono ?_
  rintro e w2 ⟨rfl, hd⟩
  have HDR := Aside0.mk hd
  clear hd
  cases neg with
  | true =>
    have hn : RunNeg a2 a3 := HS3
    unfold RunNeg at hn
    clear HS3
    go_wp2_with fail
    rw [HQ.out]
    go_returns
    exact HFIN2.out _ HDR.out
  | false =>
    have hn : a3 = a2 := HS3
    subst hn
    clear HS3
    go_wp2_with fail
    rw [HQ.out]
    go_returns
    exact HFIN2.out _ HDR.out

set_option maxRecDepth 1000000 in
set_option maxHeartbeats 2000000 in
theorem fft_dot_minus_e (b D st : Nat) (hst : st < b) (hsz : s.size ≤ 800) (hb8 : b ≤ s.size) (hD : D < 10 ^ (b - st)) (h18 : b ≤ 18) (u : Nat → Value) (Q : Exit → Act → World → Prop) {R : Ending → World → Prop} (hQ : ∀ a w', Q .ret a w' = bodyPost Tryz.prog Tryz.f27 R .ret a w') (Fd : Nat) (gf : Nat → Nat) (hdot : bt s (b : Int) = 46) (hF1 : 1 ≤ Fd) (q : Nat) (hq : b + 1 + Fd = q) (hF : b + 1 + Fd ≤ s.size) (hbf : ∀ k < Fd, bt s ((b + 1 + k : Nat) : Int) = (gf k : Int)) (hkf : ∀ k < Fd, 48 ≤ gf k ∧ gf k ≤ 57) (hlet : bt s ((q : Nat) : Int) = 101) (p : Nat) (hp : q + 1 = p) (hsg : bt s ((p : Nat) : Int) = 45) (r : Nat) (hr : p + 1 = r) (N : Nat) (ge : Nat → Nat) (hN1 : 1 ≤ N) (hN : r + N = s.size) (hbe : ∀ k < N, bt s ((r + k : Nat) : Int) = (ge k : Int)) (hke : ∀ k < N, 48 ≤ ge k ∧ ge k ≤ 57) (a0 a1 a2 a3 : Nat) (hPE : PowEnv w) (hS : ¬ (q < st + 17 ∧ FP.dnum 0 ge N ≤ 300) → Slow s neg X w R) (h0 : q < st + 17 → floatOfInt .f64 ((FP.dnum D gf Fd) : Int) = a0) (tk : Nat) (htk : q < st + 17 → w.cell? ⟨4, Fd, none⟩ = some (.float .f64 tk)) (hdiv : q < st + 17 → RunDiv a0 tk a1) (hmul : q < st + 17 → FP.dnum 0 ge N ≤ 300 → RunMul a1 (FP.powF (-(FP.dnum 0 ge N : Int))) a2) (h3 : q < st + 17 → FP.dnum 0 ge N ≤ 300 → Signed neg a2 a3) (hfin : q < st + 17 → FP.dnum 0 ge N ≤ 300 → ∀ w', Drew w w' → R (.returned (.tuple #[.float .f64 a3, .nilIface])) w') :
    Code.wp Tryz.prog ffT0 Q ⟨ffr2 (.string s) (.float .f64 0) .nilIface (.int .u64 (b : Int)) (.bool neg) (.int .u64 (D : Int)) (.int .u64 (st : Int)) v11 v12 v15 v16 v17 u, []⟩ w := by
  have S := Aside0.mk hS
  have HQ := Aside0.mk hQ
  have hs8 : (s.size : Int) ≤ 800 := by omega
  have hb18 : (b : Int) ≤ 18 := by omega
  have hstb : (st : Int) < (b : Int) := by omega
  have tij : decide ((b : Int) ≤ (st : Int)) = false := decide_eq_false (by omega)
  have tijn : decide (b ≤ st) = false := decide_eq_false (by omega)
  have hD9 : (D : Int) ≤ 1000000000000000000 := by
    have : D < 10 ^ 18 := Nat.lt_of_lt_of_le hD (Nat.pow_le_pow_right (by omega) (by omega))
    omega
  have HFIN := Aside0.mk hfin
  have H3 := Aside0.mk h3
  have HPE := Aside0.mk hPE
  have HD0 := Aside0.mk hD
  clear hS hQ hD hfin h3 hPE
  have p0 : (b < s.size) = True := eq_true (by omega)
  have x0 : ∀ h : b < s.size, ((s[b]'h).toNat : Int) = bt s ((b : Nat) : Int) := fun h => bt_at s ((b : Nat) : Int) h
  rw [hdot] at x0
  have l0 : decide ((s.size : Int) ≤ (b : Int)) = false := decide_eq_false (by omega)
  have ln0 : decide (s.size ≤ b) = false := decide_eq_false (by omega)
  have l1 : decide ((s.size : Int) ≤ (b : Int) + 1) = false := decide_eq_false (by omega)
  have HBF := Aside0.mk hbf
  have HKF := Aside0.mk hkf
  have H0 := Aside0.mk h0
  have HTK := Aside0.mk htk
  have HDV := Aside0.mk hdiv
  clear hbf hkf h0 htk hdiv hdot
  have HBE := Aside0.mk hbe
  have HKE := Aside0.mk hke
  have HN := Aside0.mk hN
  have HMU := Aside0.mk hmul
  have hd0 := hbe 0 (by omega)
  have hd1 := hke 0 (by omega)
  unfold ffr2
  conv => arg 2; whnf
  go_wp2_with fail
  refine ffb_loop _ _ _ _ _ (b + 1) Fd st D gf hsz hF (by omega) hF1 (Nat.lt_of_lt_of_le HD0.out (Nat.pow_le_pow_right (by omega) (by omega))) (Nat.lt_of_lt_of_le HD0.out (Nat.pow_le_pow_right (by omega) (by omega))) HBF.out HKF.out (.inr ⟨by omega, 101, by rw [hq]; exact hlet, by decide⟩) (fun hn => S.out (fun hc => hn (by have := hc.1; omega))) ?_ ?_ (by kernel_rfl) rfl
  · intro a w'
    simp only [Exit.inBlock, Exit.then]
    exact HQ.out a w'
  intro hlt a ha
  rw [hq] at ha hlt
  rw [ha]
  clear ha
  have h0 := H0.out (by omega)
  have htk := HTK.out (by omega)
  have hdiv := HDV.out (by omega)
  have HLT := Aside0.mk hlt
  have EF : (q : Int) - ((b : Int) + 1) = (Fd : Int) := by omega
  have EN : q - (b + 1) = Fd := by omega
  have hD2 : (FP.dnum D gf Fd : Int) ≤ 1000000000000000000 := by
    have : FP.dnum D gf Fd < 10 ^ 18 := Nat.lt_of_lt_of_le (FP.dnum_lt HD0.out (fun j hj => (HKF.out j hj).2) Fd (Nat.le_refl _)) (Nat.pow_le_pow_right (by omega) (by omega))
    omega
  have hF17 : (Fd : Int) < 17 := by omega
  have hF17n : Fd < 17 := by omega
  have tk2 : decide ((q : Int) < (b : Int) + 1) = false := decide_eq_false (by omega)
  unfold RunDiv at hdiv
  have pe : (q < s.size) = True := eq_true (by omega)
  have xe : ∀ h : q < s.size, ((s[q]'h).toNat : Int) = bt s ((q : Nat) : Int) := fun h => bt_at s ((q : Nat) : Int) h
  rw [hlet] at xe
  have le : decide ((s.size : Int) ≤ ((q : Nat) : Int)) = false := decide_eq_false (by omega)
  have lne : decide (s.size ≤ q) = false := decide_eq_false (by omega)
  have m1 : decide ((s.size : Int) ≤ (p : Int)) = false := decide_eq_false (by omega)
  have m1n : decide (s.size ≤ p) = false := decide_eq_false (by omega)
  have pm1 : (p < s.size) = True := eq_true (by omega)
  have xm1 : ∀ h : p < s.size, ((s[p]'h).toNat : Int) = bt s (p : Int) := fun h => bt_at s (p : Int) h
  have hpI : (q : Int) + 1 = (p : Int) := by omega
  rw [hsg] at xm1
  have hrI : (p : Int) + 1 = (r : Int) := by omega
  have m2 : decide ((s.size : Int) ≤ (r : Int)) = false := decide_eq_false (by omega)
  have m2n : decide (s.size ≤ r) = false := decide_eq_false (by omega)
  clear hd0 hd1 hbe hke hmul hN hsg
  clear hlet
  unfold ffr2
  simp only [Exit.inBlock, Exit.then, ↓reduceIte]
  clear hlt
  go_wp2_with fail
  refine ffc_loop _ _ _ _ _ _ (r) N ge hsz HN.out HBE.out HKE.out (fun hn => S.out (fun hc => hn hc.2)) ?_ ?_ (by kernel_rfl) rfl
  · intro a w'
    simp only [Exit.inBlock, Exit.then]
    exact HQ.out a w'
  intro h300 a ha
  rw [HN.out] at ha
  rw [ha]
  clear ha
  have hmul := HMU.out HLT.out h300
  unfold RunMul at hmul
  have h300i : (FP.dnum 0 ge N : Int) ≤ 300 := by omega
  have PW := fun w2 hw2 => pow10_calls (-(FP.dnum 0 ge N : Int)) (by omega) (by omega) w2 hw2
  have PW := Aside0.mk (PW w HPE.out)
  have HFIN2 := Aside0.mk (HFIN.out HLT.out h300)
  have HS3 := H3.out HLT.out h300
  have tle : decide (s.size ≤ (r)) = false := decide_eq_false (by have := HN.out; omega)
  have tlei : decide ((s.size : Int) ≤ (r : Int)) = false := decide_eq_false (by have := HN.out; omega)
  have tend : decide ((s.size : Int) ≤ (s.size : Int)) = true := decide_eq_true (by omega)
  have tendn : decide (s.size ≤ s.size) = true := decide_eq_true (by omega)
  unfold ffr2
  simp only [Exit.inBlock, Exit.then, ↓reduceIte]
  go_wp2_with fail
  refine PW.out.mono ?_
  rintro e w2 ⟨rfl, hd⟩
  have HDR := Aside0.mk hd
  clear hd
  cases neg with
  | true =>
    have hn : RunNeg a2 a3 := HS3
    unfold RunNeg at hn
    clear HS3
    go_wp2_with fail
    rw [HQ.out]
    go_returns
    exact HFIN2.out _ HDR.out
  | false =>
    have hn : a3 = a2 := HS3
    subst hn
    clear HS3
    go_wp2_with fail
    rw [HQ.out]
    go_returns
    exact HFIN2.out _ HDR.out

set_option maxRecDepth 1000000 in
set_option maxHeartbeats 2000000 in
theorem fft_dot_minus_E (b D st : Nat) (hst : st < b) (hsz : s.size ≤ 800) (hb8 : b ≤ s.size) (hD : D < 10 ^ (b - st)) (h18 : b ≤ 18) (u : Nat → Value) (Q : Exit → Act → World → Prop) {R : Ending → World → Prop} (hQ : ∀ a w', Q .ret a w' = bodyPost Tryz.prog Tryz.f27 R .ret a w') (Fd : Nat) (gf : Nat → Nat) (hdot : bt s (b : Int) = 46) (hF1 : 1 ≤ Fd) (q : Nat) (hq : b + 1 + Fd = q) (hF : b + 1 + Fd ≤ s.size) (hbf : ∀ k < Fd, bt s ((b + 1 + k : Nat) : Int) = (gf k : Int)) (hkf : ∀ k < Fd, 48 ≤ gf k ∧ gf k ≤ 57) (hlet : bt s ((q : Nat) : Int) = 69) (p : Nat) (hp : q + 1 = p) (hsg : bt s ((p : Nat) : Int) = 45) (r : Nat) (hr : p + 1 = r) (N : Nat) (ge : Nat → Nat) (hN1 : 1 ≤ N) (hN : r + N = s.size) (hbe : ∀ k < N, bt s ((r + k : Nat) : Int) = (ge k : Int)) (hke : ∀ k < N, 48 ≤ ge k ∧ ge k ≤ 57) (a0 a1 a2 a3 : Nat) (hPE : PowEnv w) (hS : ¬ (q < st + 17 ∧ FP.dnum 0 ge N ≤ 300) → Slow s neg X w R) (h0 : q < st + 17 → floatOfInt .f64 ((FP.dnum D gf Fd) : Int) = a0) (tk : Nat) (htk : q < st + 17 → w.cell? ⟨4, Fd, none⟩ = some (.float .f64 tk)) (hdiv : q < st + 17 → RunDiv a0 tk a1) (hmul : q < st + 17 → FP.dnum 0 ge N ≤ 300 → RunMul a1 (FP.powF (-(FP.dnum 0 ge N : Int))) a2) (h3 : q < st + 17 → FP.dnum 0 ge N ≤ 300 → Signed neg a2 a3) (hfin : q < st + 17 → FP.dnum 0 ge N ≤ 300 → ∀ w', Drew w w' → R (.returned (.tuple #[.float .f64 a3, .nilIface])) w') :
    Code.wp Tryz.prog ffT0 Q ⟨ffr2 (.string s) (.float .f64 0) .nilIface (.int .u64 (b : Int)) (.bool neg) (.int .u64 (D : Int)) (.int .u64 (st : Int)) v11 v12 v15 v16 v17 u, []⟩ w := by
  have S := Aside0.mk hS
  have HQ := Aside0.mk hQ
  have hs8 : (s.size : Int) ≤ 800 := by omega
  have hb18 : (b : Int) ≤ 18 := by omega
  have hstb : (st : Int) < (b : Int) := by omega
  have tij : decide ((b : Int) ≤ (st : Int)) = false := decide_eq_false (by omega)
  have tijn : decide (b ≤ st) = false := decide_eq_false (by omega)
  have hD9 : (D : Int) ≤ 1000000000000000000 := by
    have : D < 10 ^ 18 := Nat.lt_of_lt_of_le hD (Nat.pow_le_pow_right (by omega) (by omega))
    omega
  have HFIN := Aside0.mk hfin
  have H3 := Aside0.mk h3
  have HPE := Aside0.mk hPE
  have HD0 := Aside0.mk hD
  clear hS hQ hD hfin h3 hPE
  have p0 : (b < s.size) = True := eq_true (by omega)
  have x0 : ∀ h : b < s.size, ((s[b]'h).toNat : Int) = bt s ((b : Nat) : Int) := fun h => bt_at s ((b : Nat) : Int) h
  rw [hdot] at x0
  have l0 : decide ((s.size : Int) ≤ (b : Int)) = false := decide_eq_false (by omega)
  have ln0 : decide (s.size ≤ b) = false := decide_eq_false (by omega)
  have l1 : decide ((s.size : Int) ≤ (b : Int) + 1) = false := decide_eq_false (by omega)
  have HBF := Aside0.mk hbf
  have HKF := Aside0.mk hkf
  have H0 := Aside0.mk h0
  have HTK := Aside0.mk htk
  have HDV := Aside0.mk hdiv
  clear hbf hkf h0 htk hdiv hdot
  have HBE := Aside0.mk hbe
  have HKE := Aside0.mk hke
  have HN := Aside0.mk hN
  have HMU := Aside0.mk hmul
  have hd0 := hbe 0 (by omega)
  have hd1 := hke 0 (by omega)
  unfold ffr2
  conv => arg 2; whnf
  go_wp2_with fail
  refine ffb_loop _ _ _ _ _ (b + 1) Fd st D gf hsz hF (by omega) hF1 (Nat.lt_of_lt_of_le HD0.out (Nat.pow_le_pow_right (by omega) (by omega))) (Nat.lt_of_lt_of_le HD0.out (Nat.pow_le_pow_right (by omega) (by omega))) HBF.out HKF.out (.inr ⟨by omega, 69, by rw [hq]; exact hlet, by decide⟩) (fun hn => S.out (fun hc => hn (by have := hc.1; omega))) ?_ ?_ (by kernel_rfl) rfl
  · intro a w'
    simp only [Exit.inBlock, Exit.then]
    exact HQ.out a w'
  intro hlt a ha
  rw [hq] at ha hlt
  rw [ha]
  clear ha
  have h0 := H0.out (by omega)
  have htk := HTK.out (by omega)
  have hdiv := HDV.out (by omega)
  have HLT := Aside0.mk hlt
  have EF : (q : Int) - ((b : Int) + 1) = (Fd : Int) := by omega
  have EN : q - (b + 1) = Fd := by omega
  have hD2 : (FP.dnum D gf Fd : Int) ≤ 1000000000000000000 := by
    have : FP.dnum D gf Fd < 10 ^ 18 := Nat.lt_of_lt_of_le (FP.dnum_lt HD0.out (fun j hj => (HKF.out j hj).2) Fd (Nat.le_refl _)) (Nat.pow_le_pow_right (by omega) (by omega))
    omega
  have hF17 : (Fd : Int) < 17 := by omega
  have hF17n : Fd < 17 := by omega
  have tk2 : decide ((q : Int) < (b : Int) + 1) = false := decide_eq_false (by omega)
  unfold RunDiv at hdiv
  have pe : (q < s.size) = True := eq_true (by omega)
  have xe : ∀ h : q < s.size, ((s[q]'h).toNat : Int) = bt s ((q : Nat) : Int) := fun h => bt_at s ((q : Nat) : Int) h
  rw [hlet] at xe
  have le : decide ((s.size : Int) ≤ ((q : Nat) : Int)) = false := decide_eq_false (by omega)
  have lne : decide (s.size ≤ q) = false := decide_eq_false (by omega)
  have m1 : decide ((s.size : Int) ≤ (p : Int)) = false := decide_eq_false (by omega)
  have m1n : decide (s.size ≤ p) = false := decide_eq_false (by omega)
  have pm1 : (p < s.size) = True := eq_true (by omega)
  have xm1 : ∀ h : p < s.size, ((s[p]'h).toNat : Int) = bt s (p : Int) := fun h => bt_at s (p : Int) h
  have hpI : (q : Int) + 1 = (p : Int) := by omega
  rw [hsg] at xm1
  have hrI : (p : Int) + 1 = (r : Int) := by omega
  have m2 : decide ((s.size : Int) ≤ (r : Int)) = false := decide_eq_false (by omega)
  have m2n : decide (s.size ≤ r) = false := decide_eq_false (by omega)
  clear hd0 hd1 hbe hke hmul hN hsg
  clear hlet
  unfold ffr2
  simp only [Exit.inBlock, Exit.then, ↓reduceIte]
  clear hlt
  go_wp2_with fail
  refine ffc_loop _ _ _ _ _ _ (r) N ge hsz HN.out HBE.out HKE.out (fun hn => S.out (fun hc => hn hc.2)) ?_ ?_ (by kernel_rfl) rfl
  · intro a w'
    simp only [Exit.inBlock, Exit.then]
    exact HQ.out a w'
  intro h300 a ha
  rw [HN.out] at ha
  rw [ha]
  clear ha
  have hmul := HMU.out HLT.out h300
  unfold RunMul at hmul
  have h300i : (FP.dnum 0 ge N : Int) ≤ 300 := by omega
  have PW := fun w2 hw2 => pow10_calls (-(FP.dnum 0 ge N : Int)) (by omega) (by omega) w2 hw2
  have PW := Aside0.mk (PW w HPE.out)
  have HFIN2 := Aside0.mk (HFIN.out HLT.out h300)
  have HS3 := H3.out HLT.out h300
  have tle : decide (s.size ≤ (r)) = false := decide_eq_false (by have := HN.out; omega)
  have tlei : decide ((s.size : Int) ≤ (r : Int)) = false := decide_eq_false (by have := HN.out; omega)
  have tend : decide ((s.size : Int) ≤ (s.size : Int)) = true := decide_eq_true (by omega)
  have tendn : decide (s.size ≤ s.size) = true := decide_eq_true (by omega)
  unfold ffr2
  simp only [Exit.inBlock, Exit.then, ↓reduceIte]
  go_wp2_with fail
  refine PW.out.mono ?_
  rintro e w2 ⟨rfl, hd⟩
  have HDR := Aside0.mk hd
  clear hd
  cases neg with
  | true =>
    have hn : RunNeg a2 a3 := HS3
    unfold RunNeg at hn
    clear HS3
    go_wp2_with fail
    rw [HQ.out]
    go_returns
    exact HFIN2.out _ HDR.out
  | false =>
    have hn : a3 = a2 := HS3
    subst hn
    clear HS3
    go_wp2_with fail
    rw [HQ.out]
    go_returns
    exact HFIN2.out _ HDR.out

end

end Go.Proofs.YtodbjojglibniaaGreatDoor
