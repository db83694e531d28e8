/- Walks of functions of FnJpGetFloat (B13); conditions stand ahead of each theorem. -/
import Derived.Test.YtbimfhaokgigkaaGreatDoorT14
set_option linter.unusedVariables false
set_option linter.unusedSimpArgs false
set_option maxRecDepth 1000000
set_option maxHeartbeats 1000000
namespace Go.Proofs.YtbimfhaokgigkaaGreatDoor
open Go.RowKit Go.Proofs.YtbimfhaokgigkaaGreatDoorW.PrintWords Go.Proofs.YtbimfhaokgigkaaGreatDoorW.PrintLast
def behind2 (n : Nat) : Code → Option Code
 | .seq (.block m c) b => if m = n then some b else behind2 n b
 | .seq _ b => behind2 n b
 | _ => none
noncomputable def fbT2 : Code := (behind2 2 fbC).getD .skip
def G0 (w0 : World) (g : Nat) (X : Rat) (neg : Bool) (Q : Exit → Act → World → Prop) : Prop :=
 ∀ (a : Act) (w' : World) (m e : Nat) (x : Int), m < 2 ^ 53 → e < 2 ^ 11 → x = (e : Int) - 1023 → FP.Near X (FP.rung e m) → FP.rung e m ≠ FP.INF → w'.cell? ⟨g, 802, none⟩ = some (.bool neg) → Only g w0 w' → a = ⟨ffr (.pointer (some ⟨g, 0, none⟩)) (.pointer (some ⟨17, 0, none⟩)) (.int .u64 0) (.bool false) (.int .i64 x) (.int .u64 (m : Int)) (fun n => a.tmps.getD n undef), []⟩ → Q (.goto 0) a w'
def G1 (w0 : World) (g : Nat) (X : Rat) (neg : Bool) (Q : Exit → Act → World → Prop) : Prop :=
 ∀ (a : Act) (w' : World) (p6 p7 : Int), FP.Near X FP.INF → w'.cell? ⟨g, 802, none⟩ = some (.bool neg) → Only g w0 w' → a = ⟨ffr (.pointer (some ⟨g, 0, none⟩)) (.pointer (some ⟨17, 0, none⟩)) (.int .u64 0) (.bool false) (.int .i64 p6) (.int .u64 p7) (fun n => a.tmps.getD n undef), []⟩ → Q (.goto 1) a w'
theorem DecL.cneg {w : World} {g : Nat} {s : List Nat × Int × Bool} {neg : Bool} (h : DecL w g s neg) : w.cell? ⟨g, 802, none⟩ = some (.bool neg) := by
 obtain ⟨d, h1, _⟩ := h
 exact h1.cneg
theorem ri_v {w : World} {g : Nat} {X : Rat} {E : Int} {s : List Nat × Int × Bool} {neg : Bool} (h : DecV w g X E (52 - max E (-1022)) s neg) (hV : FP.DV X E (52 - max E (-1022)) s.1 s.2.1 s.2.2) (hE : E ≤ 1200) :
  Calls Tryz.prog 123 #[.pointer (some ⟨g, 0, none⟩)] w fun e w' => e = .returned (.int .u64 (FP.rnd s.1 s.2.1 s.2.2 : Int)) ∧ w' = w := by
 obtain ⟨⟨d, m1, m2⟩, v⟩ := h
 have hE0 := v.El
 have b1 := FP.ten_two v.below
 have b2 := v.bounds (by omega) (by omega)
 have b3 := (hV.rung hE).1
 exact ri_calls m1 m2 v.digs v.len (by omega) (by omega) (by omega)
theorem and_bit52 {m : Nat} (hm : m < 2 ^ 53) : (Go.bits .and .u64 (m : Int) 4503599627370496 == 0) = decide (m < 2 ^ 52) := by
 rw [show (4503599627370496 : Int) = ((2 ^ 52 : Nat) : Int) by decide, and64 (by omega) (by omega), and_bit, Bool.eq_iff_iff, beq_iff_eq, decide_eq_true_iff]
 omega
theorem fbt_B_norm {w : World} {g n : Nat} {X : Rat} {E : Int} {s : List Nat × Int × Bool} {neg : Bool} (hE : FEnv n w) (hg : n ≤ g) (hD : DecV w g X E (-(E + 1)) s neg) (hE2 : -1022 ≤ E) (hE3 : E < 1024) (hm0 : 2 ^ 52 ≤ (FP.rnd (FP.shlD 53 s).1 (FP.shlD 53 s).2.1 (FP.shlD 53 s).2.2)) (hm : (FP.rnd (FP.shlD 53 s).1 (FP.shlD 53 s).2.1 (FP.shlD 53 s).2.2) < 2 ^ 53) (u : Nat → Value) (Q : Exit → Act → World → Prop) (h0 : G0 w g X neg Q) (h1 : G1 w g X neg Q) :
  Code.wp Tryz.prog fbT2 Q ⟨ffr (.pointer (some ⟨g, 0, none⟩)) (.pointer (some ⟨17, 0, none⟩)) (.int .u64 0) (.bool false) (.int .i64 (E + 1)) (.int .u64 0) u, []⟩ w := by
 have hE0 := hD.val.El
 have c0 := hE.mant
 have c1 := hE.expb
 have c2 := hE.bias
 have HT := az (show -(E + 1) = -(E + 1) from rfl)
 have HM := az (show max E (-1022) = E by omega)
 have HX0 := az h0
 have HX1 := az h1
 obtain ⟨Rm, hRm⟩ : ∃ Rm, Rm = (FP.rnd (FP.shlD 53 s).1 (FP.shlD 53 s).2.1 (FP.shlD 53 s).2.2) := ⟨_, rfl⟩
 rw [← hRm] at hm hm0
 have HRm := az hRm
 clear hRm h0 h1
 have t1 : decide (E < -1022) = false := dF
 unfold ffr
 conv => arg 2; whnf
 go_wp2_with fail
 have V1 := az hD
 have O1 := az (Only.refl g w)
 have hc1 := hE
 have c0' := hc1.mant
 have c1' := hc1.expb
 have c2' := hc1.bias
 have t2 : decide (1024 ≤ E) = false := dF
 have t2b : decide (2047 ≤ E + 1023) = false := dF
 have HC1 := az hc1
 clear hc1
 go_wp2_with fail
 go_quiet (fail)
 go_wp2_with fail
 have V1' := V1.out
 have e53 : ((Rm : Int) == 9007199254740992) = false := bF
 have e52 : (Go.bits .and .u64 (Rm : Int) 4503599627370496 == 0) = false := by rw [and_bit52 hm]; exact decide_eq_false (by omega)
 have HM0 := az hm
 have HM1 := az hm0
 refine (shift_left (V1'.drewN nq) (HC1.out.drewN nq) hg (by omega) (by omega) 53 (by omega) (by omega) (by unfold FP.Range; omega)).mono ?_
 rintro e w2 ⟨rfl, b1, b2⟩
 have V2 : DecV w2 g X E (52 - max E (-1022)) (FP.shlD 53 s) neg := by
  have := b1
  rw [show -(E + 1) + ((53 : Nat) : Int) = 52 - max E (-1022) by rw [HM.out]; omega] at this
  exact this
 have V2v : FP.DV X E (52 - max E (-1022)) (FP.shlD 53 s).1 (FP.shlD 53 s).2.1 (FP.shlD 53 s).2.2 := by
  have := V1'.val.shl 53 (by unfold FP.Range; omega)
  rw [show -(E + 1) + ((53 : Nat) : Int) = 52 - max E (-1022) by rw [HM.out]; omega] at this
  exact this
 have RI := az (ri_v V2 V2v (by omega))
 have hc2 := (HC1.out.drewN nq).only b2 hg
 have O2 := az ((O1.out.drewN nq).trans b2)
 have d0 := hc2.mant
 have d1 := hc2.expb
 have d2 := hc2.bias
 have cneg := V2.mem.cneg
 have RG := (V2v.rung (by omega)).2.2 (by omega)
 rw [← HRm.out] at RG
 have RG := az RG
 have HR2 := RI.out
 rw [← HRm.out] at HR2
 have HR2 := az HR2
 clear b1 b2 V2 V2v hc2 RI c0 c1 c2 c0' c1' c2'
 go_wp2_with fail
 refine HR2.out.mono ?_
 rintro e w3 ⟨rfl, rfl⟩
 go_wp2_with fail
 go_step3
 simp only [Exit.then, Exit.inBlock]
 have RG := RG.out
 have F := RG.2.1 HM0.out HM1.out
 rw [HM.out] at F
 skip
 exact HX0.out _ (w3) Rm (E + 1023).toNat E HM0.out (by omega) (by omega) F.1 F.2 cneg (O2.out) rfl
theorem fbt_B_den {w : World} {g n : Nat} {X : Rat} {E : Int} {s : List Nat × Int × Bool} {neg : Bool} (hE : FEnv n w) (hg : n ≤ g) (hD : DecV w g X E (-(E + 1)) s neg) (hE2 : -1022 ≤ E) (hE3 : E < 1024) (hm : (FP.rnd (FP.shlD 53 s).1 (FP.shlD 53 s).2.1 (FP.shlD 53 s).2.2) < 2 ^ 52) (u : Nat → Value) (Q : Exit → Act → World → Prop) (h0 : G0 w g X neg Q) (h1 : G1 w g X neg Q) :
  Code.wp Tryz.prog fbT2 Q ⟨ffr (.pointer (some ⟨g, 0, none⟩)) (.pointer (some ⟨17, 0, none⟩)) (.int .u64 0) (.bool false) (.int .i64 (E + 1)) (.int .u64 0) u, []⟩ w := by
 have hE0 := hD.val.El
 have c0 := hE.mant
 have c1 := hE.expb
 have c2 := hE.bias
 have HT := az (show -(E + 1) = -(E + 1) from rfl)
 have HM := az (show max E (-1022) = E by omega)
 have HX0 := az h0
 have HX1 := az h1
 obtain ⟨Rm, hRm⟩ : ∃ Rm, Rm = (FP.rnd (FP.shlD 53 s).1 (FP.shlD 53 s).2.1 (FP.shlD 53 s).2.2) := ⟨_, rfl⟩
 rw [← hRm] at hm
 have HRm := az hRm
 clear hRm h0 h1
 have t1 : decide (E < -1022) = false := dF
 unfold ffr
 conv => arg 2; whnf
 go_wp2_with fail
 have V1 := az hD
 have O1 := az (Only.refl g w)
 have hc1 := hE
 have c0' := hc1.mant
 have c1' := hc1.expb
 have c2' := hc1.bias
 have t2 : decide (1024 ≤ E) = false := dF
 have t2b : decide (2047 ≤ E + 1023) = false := dF
 have HC1 := az hc1
 clear hc1
 go_wp2_with fail
 go_quiet (fail)
 go_wp2_with fail
 have V1' := V1.out
 have e53 : ((Rm : Int) == 9007199254740992) = false := bF
 have e52 : (Go.bits .and .u64 (Rm : Int) 4503599627370496 == 0) = true := by rw [and_bit52 (by omega)]; exact decide_eq_true (by omega)
 have HM0 := az hm
 refine (shift_left (V1'.drewN nq) (HC1.out.drewN nq) hg (by omega) (by omega) 53 (by omega) (by omega) (by unfold FP.Range; omega)).mono ?_
 rintro e w2 ⟨rfl, b1, b2⟩
 have V2 : DecV w2 g X E (52 - max E (-1022)) (FP.shlD 53 s) neg := by
  have := b1
  rw [show -(E + 1) + ((53 : Nat) : Int) = 52 - max E (-1022) by rw [HM.out]; omega] at this
  exact this
 have V2v : FP.DV X E (52 - max E (-1022)) (FP.shlD 53 s).1 (FP.shlD 53 s).2.1 (FP.shlD 53 s).2.2 := by
  have := V1'.val.shl 53 (by unfold FP.Range; omega)
  rw [show -(E + 1) + ((53 : Nat) : Int) = 52 - max E (-1022) by rw [HM.out]; omega] at this
  exact this
 have RI := az (ri_v V2 V2v (by omega))
 have hc2 := (HC1.out.drewN nq).only b2 hg
 have O2 := az ((O1.out.drewN nq).trans b2)
 have d0 := hc2.mant
 have d1 := hc2.expb
 have d2 := hc2.bias
 have cneg := V2.mem.cneg
 have RG := (V2v.rung (by omega)).2.2 (by omega)
 rw [← HRm.out] at RG
 have RG := az RG
 have HR2 := RI.out
 rw [← HRm.out] at HR2
 have HR2 := az HR2
 clear b1 b2 V2 V2v hc2 RI c0 c1 c2 c0' c1' c2'
 go_wp2_with fail
 refine HR2.out.mono ?_
 rintro e w3 ⟨rfl, rfl⟩
 go_wp2_with fail
 go_step3
 simp only [Exit.then, Exit.inBlock]
 have RG := RG.out
 have F := RG.2.2 HM0.out
 skip
 skip
 exact HX0.out _ (w3) Rm 0 (-1023) (Nat.lt_trans HM0.out (by decide)) (by decide) (by decide) F.1 F.2 cneg (O2.out) rfl
theorem fbt_B_turn {w : World} {g n : Nat} {X : Rat} {E : Int} {s : List Nat × Int × Bool} {neg : Bool} (hE : FEnv n w) (hg : n ≤ g) (hD : DecV w g X E (-(E + 1)) s neg) (hE2 : -1022 ≤ E) (hE3 : E < 1024) (hm : (FP.rnd (FP.shlD 53 s).1 (FP.shlD 53 s).2.1 (FP.shlD 53 s).2.2) = 2 ^ 53) (hov : max E (-1022) + 1 + 1023 < 2047) (u : Nat → Value) (Q : Exit → Act → World → Prop) (h0 : G0 w g X neg Q) (h1 : G1 w g X neg Q) :
  Code.wp Tryz.prog fbT2 Q ⟨ffr (.pointer (some ⟨g, 0, none⟩)) (.pointer (some ⟨17, 0, none⟩)) (.int .u64 0) (.bool false) (.int .i64 (E + 1)) (.int .u64 0) u, []⟩ w := by
 have hE0 := hD.val.El
 have c0 := hE.mant
 have c1 := hE.expb
 have c2 := hE.bias
 have HT := az (show -(E + 1) = -(E + 1) from rfl)
 have HM := az (show max E (-1022) = E by omega)
 have HX0 := az h0
 have HX1 := az h1
 obtain ⟨Rm, hRm⟩ : ∃ Rm, Rm = (FP.rnd (FP.shlD 53 s).1 (FP.shlD 53 s).2.1 (FP.shlD 53 s).2.2) := ⟨_, rfl⟩
 rw [← hRm] at hm
 have HRm := az hRm
 clear hRm h0 h1
 have t1 : decide (E < -1022) = false := dF
 unfold ffr
 conv => arg 2; whnf
 go_wp2_with fail
 have V1 := az hD
 have O1 := az (Only.refl g w)
 have hc1 := hE
 have c0' := hc1.mant
 have c1' := hc1.expb
 have c2' := hc1.bias
 have t2 : decide (1024 ≤ E) = false := dF
 have t2b : decide (2047 ≤ E + 1023) = false := dF
 have HC1 := az hc1
 clear hc1
 go_wp2_with fail
 go_quiet (fail)
 go_wp2_with fail
 have V1' := V1.out
 have e53 : ((Rm : Int) == 9007199254740992) = true := bT
 have e52 : (Go.bits .and .u64 4503599627370496 4503599627370496 == 0) = false := by decide +kernel
 have t3 : decide (1024 ≤ E + 1) = false := dF
 have t3b : decide (2047 ≤ E + 1 + 1023) = false := dF
 have HM0 := az hm
 refine (shift_left (V1'.drewN nq) (HC1.out.drewN nq) hg (by omega) (by omega) 53 (by omega) (by omega) (by unfold FP.Range; omega)).mono ?_
 rintro e w2 ⟨rfl, b1, b2⟩
 have V2 : DecV w2 g X E (52 - max E (-1022)) (FP.shlD 53 s) neg := by
  have := b1
  rw [show -(E + 1) + ((53 : Nat) : Int) = 52 - max E (-1022) by rw [HM.out]; omega] at this
  exact this
 have V2v : FP.DV X E (52 - max E (-1022)) (FP.shlD 53 s).1 (FP.shlD 53 s).2.1 (FP.shlD 53 s).2.2 := by
  have := V1'.val.shl 53 (by unfold FP.Range; omega)
  rw [show -(E + 1) + ((53 : Nat) : Int) = 52 - max E (-1022) by rw [HM.out]; omega] at this
  exact this
 have RI := az (ri_v V2 V2v (by omega))
 have hc2 := (HC1.out.drewN nq).only b2 hg
 have O2 := az ((O1.out.drewN nq).trans b2)
 have d0 := hc2.mant
 have d1 := hc2.expb
 have d2 := hc2.bias
 have cneg := V2.mem.cneg
 have RG := (V2v.rung (by omega)).2.2 (by omega)
 rw [← HRm.out] at RG
 have RG := az RG
 have HR2 := RI.out
 rw [← HRm.out] at HR2
 have HR2 := az HR2
 clear b1 b2 V2 V2v hc2 RI c0 c1 c2 c0' c1' c2'
 go_wp2_with fail
 refine HR2.out.mono ?_
 rintro e w3 ⟨rfl, rfl⟩
 go_wp2_with fail
 go_quiet (fail)
 go_wp2_with fail
 go_step3
 simp only [Exit.then, Exit.inBlock]
 have RG := RG.out
 have F := (RG.1 HM0.out).1 hov
 rw [HM.out] at F
 skip
 exact HX0.out _ (w3.drewN _) (2 ^ 52) (E + 1 + 1023).toNat (E + 1) (by omega) (by omega) (by omega) F.1 F.2 cneg (O2.out.drewN _) rfl
theorem fbt_B_top {w : World} {g n : Nat} {X : Rat} {E : Int} {s : List Nat × Int × Bool} {neg : Bool} (hE : FEnv n w) (hg : n ≤ g) (hD : DecV w g X E (-(E + 1)) s neg) (hE2 : -1022 ≤ E) (hE3 : E < 1024) (hm : (FP.rnd (FP.shlD 53 s).1 (FP.shlD 53 s).2.1 (FP.shlD 53 s).2.2) = 2 ^ 53) (hov : 2047 ≤ max E (-1022) + 1 + 1023) (u : Nat → Value) (Q : Exit → Act → World → Prop) (h0 : G0 w g X neg Q) (h1 : G1 w g X neg Q) :
  Code.wp Tryz.prog fbT2 Q ⟨ffr (.pointer (some ⟨g, 0, none⟩)) (.pointer (some ⟨17, 0, none⟩)) (.int .u64 0) (.bool false) (.int .i64 (E + 1)) (.int .u64 0) u, []⟩ w := by
 have hE0 := hD.val.El
 have c0 := hE.mant
 have c1 := hE.expb
 have c2 := hE.bias
 have HT := az (show -(E + 1) = -(E + 1) from rfl)
 have HM := az (show max E (-1022) = E by omega)
 have HX0 := az h0
 have HX1 := az h1
 obtain ⟨Rm, hRm⟩ : ∃ Rm, Rm = (FP.rnd (FP.shlD 53 s).1 (FP.shlD 53 s).2.1 (FP.shlD 53 s).2.2) := ⟨_, rfl⟩
 rw [← hRm] at hm
 have HRm := az hRm
 clear hRm h0 h1
 have t1 : decide (E < -1022) = false := dF
 unfold ffr
 conv => arg 2; whnf
 go_wp2_with fail
 have V1 := az hD
 have O1 := az (Only.refl g w)
 have hc1 := hE
 have c0' := hc1.mant
 have c1' := hc1.expb
 have c2' := hc1.bias
 have t2 : decide (1024 ≤ E) = false := dF
 have t2b : decide (2047 ≤ E + 1023) = false := dF
 have HC1 := az hc1
 clear hc1
 go_wp2_with fail
 go_quiet (fail)
 go_wp2_with fail
 have V1' := V1.out
 have e53 : ((Rm : Int) == 9007199254740992) = true := bT
 have t3 : decide (1024 ≤ E + 1) = true := dT
 have t3b : decide (2047 ≤ E + 1 + 1023) = true := dT
 have HM0 := az hm
 refine (shift_left (V1'.drewN nq) (HC1.out.drewN nq) hg (by omega) (by omega) 53 (by omega) (by omega) (by unfold FP.Range; omega)).mono ?_
 rintro e w2 ⟨rfl, b1, b2⟩
 have V2 : DecV w2 g X E (52 - max E (-1022)) (FP.shlD 53 s) neg := by
  have := b1
  rw [show -(E + 1) + ((53 : Nat) : Int) = 52 - max E (-1022) by rw [HM.out]; omega] at this
  exact this
 have V2v : FP.DV X E (52 - max E (-1022)) (FP.shlD 53 s).1 (FP.shlD 53 s).2.1 (FP.shlD 53 s).2.2 := by
  have := V1'.val.shl 53 (by unfold FP.Range; omega)
  rw [show -(E + 1) + ((53 : Nat) : Int) = 52 - max E (-1022) by rw [HM.out]; omega] at this
  exact this
 have RI := az (ri_v V2 V2v (by omega))
 have hc2 := (HC1.out.drewN nq).only b2 hg
 have O2 := az ((O1.out.drewN nq).trans b2)
 have d0 := hc2.mant
 have d1 := hc2.expb
 have d2 := hc2.bias
 have cneg := V2.mem.cneg
 have RG := (V2v.rung (by omega)).2.2 (by omega)
 rw [← HRm.out] at RG
 have RG := az RG
 have HR2 := RI.out
 rw [← HRm.out] at HR2
 have HR2 := az HR2
 clear b1 b2 V2 V2v hc2 RI c0 c1 c2 c0' c1' c2'
 go_wp2_with fail
 refine HR2.out.mono ?_
 rintro e w3 ⟨rfl, rfl⟩
 go_wp2_with fail
 go_quiet (fail)
 go_wp2_with fail
 go_step3
 simp only [Exit.then, Exit.inBlock]
 have RG := RG.out
 have F := (RG.1 HM0.out).2 hov
 exact HX1.out _ (w3.drewN _) _ _ F cneg (O2.out.drewN _) rfl
theorem fbt_A_norm {w : World} {g n : Nat} {X : Rat} {E : Int} {s : List Nat × Int × Bool} {neg : Bool} (hE : FEnv n w) (hg : n ≤ g) (hD : DecV w g X E (-(E + 1)) s neg) (k : Nat) (hk1 : 1 ≤ k) (hk : k ≤ 60) (hEk : E = -1022 - (k : Int)) (hm0 : 2 ^ 52 ≤ (FP.rnd (FP.shlD 53 (FP.shrD k s)).1 (FP.shlD 53 (FP.shrD k s)).2.1 (FP.shlD 53 (FP.shrD k s)).2.2)) (hm : (FP.rnd (FP.shlD 53 (FP.shrD k s)).1 (FP.shlD 53 (FP.shrD k s)).2.1 (FP.shlD 53 (FP.shrD k s)).2.2) < 2 ^ 53) (u : Nat → Value) (Q : Exit → Act → World → Prop) (h0 : G0 w g X neg Q) (h1 : G1 w g X neg Q) :
  Code.wp Tryz.prog fbT2 Q ⟨ffr (.pointer (some ⟨g, 0, none⟩)) (.pointer (some ⟨17, 0, none⟩)) (.int .u64 0) (.bool false) (.int .i64 (E + 1)) (.int .u64 0) u, []⟩ w := by
 have hE0 := hD.val.El
 have c0 := hE.mant
 have c1 := hE.expb
 have c2 := hE.bias
 have SH := az (shift_right hD (by omega) (by omega) k hk1 hk (by unfold FP.Range; omega))
 have HT := az (show -(E + 1) - (k : Int) = -((-1022 : Int) + 1) by omega)
 have HM := az (show max E (-1022) = -1022 by omega)
 have hk8 : (k : Int) ≤ 78 := by omega
 have HX0 := az h0
 have HX1 := az h1
 obtain ⟨Rm, hRm⟩ : ∃ Rm, Rm = (FP.rnd (FP.shlD 53 (FP.shrD k s)).1 (FP.shlD 53 (FP.shrD k s)).2.1 (FP.shlD 53 (FP.shrD k s)).2.2) := ⟨_, rfl⟩
 rw [← hRm] at hm hm0
 have HRm := az hRm
 clear hRm h0 h1
 subst hEk
 have t1 : decide (-1022 - (k : Int) < -1022) = true := dT
 have t1b : decide (0 < (k : Int)) = true := dT
 have t1n : decide (0 < k) = true := dT
 have EK : -1022 - (-1022 - (k : Int)) = (k : Int) := by omega
 have EX : -1022 - (k : Int) + (k : Int) = -1022 := by omega
 unfold ffr
 conv => arg 2; whnf
 go_wp2_with fail
 refine SH.out.mono ?_
 rintro e w1 ⟨rfl, a1, a2⟩
 have V1 := az a1
 have O1 := az a2
 have hc1 := hE.only a2 hg
 clear a1 a2
 have c0' := hc1.mant
 have c1' := hc1.expb
 have c2' := hc1.bias
 have t2 : decide (1024 ≤ (-1022 : Int)) = false := dF
 have t2b : decide (2047 ≤ (-1022 : Int) + 1023) = false := dF
 have HC1 := az hc1
 clear hc1
 go_wp2_with fail
 go_quiet (fail)
 go_wp2_with fail
 have V1' : DecV w1 g X (-1022 - (k : Int)) (-((-1022 : Int) + 1)) (FP.shrD k s) neg := by
  have := V1.out
  rw [HT.out] at this
  exact this
 have e53 : ((Rm : Int) == 9007199254740992) = false := bF
 have e52 : (Go.bits .and .u64 (Rm : Int) 4503599627370496 == 0) = false := by rw [and_bit52 hm]; exact decide_eq_false (by omega)
 have HM0 := az hm
 have HM1 := az hm0
 refine (shift_left (V1'.drewN nq) (HC1.out.drewN nq) hg (by omega) (by omega) 53 (by omega) (by omega) (by unfold FP.Range; omega)).mono ?_
 rintro e w2 ⟨rfl, b1, b2⟩
 have V2 : DecV w2 g X (-1022 - (k : Int)) (52 - max (-1022 - (k : Int)) (-1022)) (FP.shlD 53 (FP.shrD k s)) neg := by
  have := b1
  rw [show -((-1022) + 1) + ((53 : Nat) : Int) = 52 - max (-1022 - (k : Int)) (-1022) by rw [HM.out]; omega] at this
  exact this
 have V2v : FP.DV X (-1022 - (k : Int)) (52 - max (-1022 - (k : Int)) (-1022)) (FP.shlD 53 (FP.shrD k s)).1 (FP.shlD 53 (FP.shrD k s)).2.1 (FP.shlD 53 (FP.shrD k s)).2.2 := by
  have := V1'.val.shl 53 (by unfold FP.Range; omega)
  rw [show -((-1022) + 1) + ((53 : Nat) : Int) = 52 - max (-1022 - (k : Int)) (-1022) by rw [HM.out]; omega] at this
  exact this
 have RI := az (ri_v V2 V2v (by omega))
 have hc2 := (HC1.out.drewN nq).only b2 hg
 have O2 := az ((O1.out.drewN nq).trans b2)
 have d0 := hc2.mant
 have d1 := hc2.expb
 have d2 := hc2.bias
 have cneg := V2.mem.cneg
 have RG := (V2v.rung (by omega)).2.2 (by omega)
 rw [← HRm.out] at RG
 have RG := az RG
 have HR2 := RI.out
 rw [← HRm.out] at HR2
 have HR2 := az HR2
 clear b1 b2 V2 V2v hc2 RI c0 c1 c2 c0' c1' c2'
 go_wp2_with fail
 refine HR2.out.mono ?_
 rintro e w3 ⟨rfl, rfl⟩
 go_wp2_with fail
 go_step3
 simp only [Exit.then, Exit.inBlock]
 have RG := RG.out
 have F := RG.2.1 HM0.out HM1.out
 rw [HM.out] at F
 rw [show ((-1022 : Int) + 1023).toNat = 1 from rfl] at F
 exact HX0.out _ (w3) Rm 1 (-1022) HM0.out (by decide) (by decide) F.1 F.2 cneg (O2.out) rfl
theorem fbt_A_den {w : World} {g n : Nat} {X : Rat} {E : Int} {s : List Nat × Int × Bool} {neg : Bool} (hE : FEnv n w) (hg : n ≤ g) (hD : DecV w g X E (-(E + 1)) s neg) (k : Nat) (hk1 : 1 ≤ k) (hk : k ≤ 60) (hEk : E = -1022 - (k : Int)) (hm : (FP.rnd (FP.shlD 53 (FP.shrD k s)).1 (FP.shlD 53 (FP.shrD k s)).2.1 (FP.shlD 53 (FP.shrD k s)).2.2) < 2 ^ 52) (u : Nat → Value) (Q : Exit → Act → World → Prop) (h0 : G0 w g X neg Q) (h1 : G1 w g X neg Q) :
  Code.wp Tryz.prog fbT2 Q ⟨ffr (.pointer (some ⟨g, 0, none⟩)) (.pointer (some ⟨17, 0, none⟩)) (.int .u64 0) (.bool false) (.int .i64 (E + 1)) (.int .u64 0) u, []⟩ w := by
 have hE0 := hD.val.El
 have c0 := hE.mant
 have c1 := hE.expb
 have c2 := hE.bias
 have SH := az (shift_right hD (by omega) (by omega) k hk1 hk (by unfold FP.Range; omega))
 have HT := az (show -(E + 1) - (k : Int) = -((-1022 : Int) + 1) by omega)
 have HM := az (show max E (-1022) = -1022 by omega)
 have hk8 : (k : Int) ≤ 78 := by omega
 have HX0 := az h0
 have HX1 := az h1
 obtain ⟨Rm, hRm⟩ : ∃ Rm, Rm = (FP.rnd (FP.shlD 53 (FP.shrD k s)).1 (FP.shlD 53 (FP.shrD k s)).2.1 (FP.shlD 53 (FP.shrD k s)).2.2) := ⟨_, rfl⟩
 rw [← hRm] at hm
 have HRm := az hRm
 clear hRm h0 h1
 subst hEk
 have t1 : decide (-1022 - (k : Int) < -1022) = true := dT
 have t1b : decide (0 < (k : Int)) = true := dT
 have t1n : decide (0 < k) = true := dT
 have EK : -1022 - (-1022 - (k : Int)) = (k : Int) := by omega
 have EX : -1022 - (k : Int) + (k : Int) = -1022 := by omega
 unfold ffr
 conv => arg 2; whnf
 go_wp2_with fail
 refine SH.out.mono ?_
 rintro e w1 ⟨rfl, a1, a2⟩
 have V1 := az a1
 have O1 := az a2
 have hc1 := hE.only a2 hg
 clear a1 a2
 have c0' := hc1.mant
 have c1' := hc1.expb
 have c2' := hc1.bias
 have t2 : decide (1024 ≤ (-1022 : Int)) = false := dF
 have t2b : decide (2047 ≤ (-1022 : Int) + 1023) = false := dF
 have HC1 := az hc1
 clear hc1
 go_wp2_with fail
 go_quiet (fail)
 go_wp2_with fail
 have V1' : DecV w1 g X (-1022 - (k : Int)) (-((-1022 : Int) + 1)) (FP.shrD k s) neg := by
  have := V1.out
  rw [HT.out] at this
  exact this
 have e53 : ((Rm : Int) == 9007199254740992) = false := bF
 have e52 : (Go.bits .and .u64 (Rm : Int) 4503599627370496 == 0) = true := by rw [and_bit52 (by omega)]; exact decide_eq_true (by omega)
 have HM0 := az hm
 refine (shift_left (V1'.drewN nq) (HC1.out.drewN nq) hg (by omega) (by omega) 53 (by omega) (by omega) (by unfold FP.Range; omega)).mono ?_
 rintro e w2 ⟨rfl, b1, b2⟩
 have V2 : DecV w2 g X (-1022 - (k : Int)) (52 - max (-1022 - (k : Int)) (-1022)) (FP.shlD 53 (FP.shrD k s)) neg := by
  have := b1
  rw [show -((-1022) + 1) + ((53 : Nat) : Int) = 52 - max (-1022 - (k : Int)) (-1022) by rw [HM.out]; omega] at this
  exact this
 have V2v : FP.DV X (-1022 - (k : Int)) (52 - max (-1022 - (k : Int)) (-1022)) (FP.shlD 53 (FP.shrD k s)).1 (FP.shlD 53 (FP.shrD k s)).2.1 (FP.shlD 53 (FP.shrD k s)).2.2 := by
  have := V1'.val.shl 53 (by unfold FP.Range; omega)
  rw [show -((-1022) + 1) + ((53 : Nat) : Int) = 52 - max (-1022 - (k : Int)) (-1022) by rw [HM.out]; omega] at this
  exact this
 have RI := az (ri_v V2 V2v (by omega))
 have hc2 := (HC1.out.drewN nq).only b2 hg
 have O2 := az ((O1.out.drewN nq).trans b2)
 have d0 := hc2.mant
 have d1 := hc2.expb
 have d2 := hc2.bias
 have cneg := V2.mem.cneg
 have RG := (V2v.rung (by omega)).2.2 (by omega)
 rw [← HRm.out] at RG
 have RG := az RG
 have HR2 := RI.out
 rw [← HRm.out] at HR2
 have HR2 := az HR2
 clear b1 b2 V2 V2v hc2 RI c0 c1 c2 c0' c1' c2'
 go_wp2_with fail
 refine HR2.out.mono ?_
 rintro e w3 ⟨rfl, rfl⟩
 go_wp2_with fail
 go_step3
 simp only [Exit.then, Exit.inBlock]
 have RG := RG.out
 have F := RG.2.2 HM0.out
 skip
 skip
 exact HX0.out _ (w3) Rm 0 (-1023) (Nat.lt_trans HM0.out (by decide)) (by decide) (by decide) F.1 F.2 cneg (O2.out) rfl
theorem fbt_A_turn {w : World} {g n : Nat} {X : Rat} {E : Int} {s : List Nat × Int × Bool} {neg : Bool} (hE : FEnv n w) (hg : n ≤ g) (hD : DecV w g X E (-(E + 1)) s neg) (k : Nat) (hk1 : 1 ≤ k) (hk : k ≤ 60) (hEk : E = -1022 - (k : Int)) (hm : (FP.rnd (FP.shlD 53 (FP.shrD k s)).1 (FP.shlD 53 (FP.shrD k s)).2.1 (FP.shlD 53 (FP.shrD k s)).2.2) = 2 ^ 53) (hov : max E (-1022) + 1 + 1023 < 2047) (u : Nat → Value) (Q : Exit → Act → World → Prop) (h0 : G0 w g X neg Q) (h1 : G1 w g X neg Q) :
  Code.wp Tryz.prog fbT2 Q ⟨ffr (.pointer (some ⟨g, 0, none⟩)) (.pointer (some ⟨17, 0, none⟩)) (.int .u64 0) (.bool false) (.int .i64 (E + 1)) (.int .u64 0) u, []⟩ w := by
 have hE0 := hD.val.El
 have c0 := hE.mant
 have c1 := hE.expb
 have c2 := hE.bias
 have SH := az (shift_right hD (by omega) (by omega) k hk1 hk (by unfold FP.Range; omega))
 have HT := az (show -(E + 1) - (k : Int) = -((-1022 : Int) + 1) by omega)
 have HM := az (show max E (-1022) = -1022 by omega)
 have hk8 : (k : Int) ≤ 78 := by omega
 have HX0 := az h0
 have HX1 := az h1
 obtain ⟨Rm, hRm⟩ : ∃ Rm, Rm = (FP.rnd (FP.shlD 53 (FP.shrD k s)).1 (FP.shlD 53 (FP.shrD k s)).2.1 (FP.shlD 53 (FP.shrD k s)).2.2) := ⟨_, rfl⟩
 rw [← hRm] at hm
 have HRm := az hRm
 clear hRm h0 h1
 subst hEk
 have t1 : decide (-1022 - (k : Int) < -1022) = true := dT
 have t1b : decide (0 < (k : Int)) = true := dT
 have t1n : decide (0 < k) = true := dT
 have EK : -1022 - (-1022 - (k : Int)) = (k : Int) := by omega
 have EX : -1022 - (k : Int) + (k : Int) = -1022 := by omega
 unfold ffr
 conv => arg 2; whnf
 go_wp2_with fail
 refine SH.out.mono ?_
 rintro e w1 ⟨rfl, a1, a2⟩
 have V1 := az a1
 have O1 := az a2
 have hc1 := hE.only a2 hg
 clear a1 a2
 have c0' := hc1.mant
 have c1' := hc1.expb
 have c2' := hc1.bias
 have t2 : decide (1024 ≤ (-1022 : Int)) = false := dF
 have t2b : decide (2047 ≤ (-1022 : Int) + 1023) = false := dF
 have HC1 := az hc1
 clear hc1
 go_wp2_with fail
 go_quiet (fail)
 go_wp2_with fail
 have V1' : DecV w1 g X (-1022 - (k : Int)) (-((-1022 : Int) + 1)) (FP.shrD k s) neg := by
  have := V1.out
  rw [HT.out] at this
  exact this
 have e53 : ((Rm : Int) == 9007199254740992) = true := bT
 have e52 : (Go.bits .and .u64 4503599627370496 4503599627370496 == 0) = false := by decide +kernel
 have t3 : decide (1024 ≤ (-1022 : Int) + 1) = false := dF
 have t3b : decide (2047 ≤ (-1022 : Int) + 1 + 1023) = false := dF
 have HM0 := az hm
 refine (shift_left (V1'.drewN nq) (HC1.out.drewN nq) hg (by omega) (by omega) 53 (by omega) (by omega) (by unfold FP.Range; omega)).mono ?_
 rintro e w2 ⟨rfl, b1, b2⟩
 have V2 : DecV w2 g X (-1022 - (k : Int)) (52 - max (-1022 - (k : Int)) (-1022)) (FP.shlD 53 (FP.shrD k s)) neg := by
  have := b1
  rw [show -((-1022) + 1) + ((53 : Nat) : Int) = 52 - max (-1022 - (k : Int)) (-1022) by rw [HM.out]; omega] at this
  exact this
 have V2v : FP.DV X (-1022 - (k : Int)) (52 - max (-1022 - (k : Int)) (-1022)) (FP.shlD 53 (FP.shrD k s)).1 (FP.shlD 53 (FP.shrD k s)).2.1 (FP.shlD 53 (FP.shrD k s)).2.2 := by
  have := V1'.val.shl 53 (by unfold FP.Range; omega)
  rw [show -((-1022) + 1) + ((53 : Nat) : Int) = 52 - max (-1022 - (k : Int)) (-1022) by rw [HM.out]; omega] at this
  exact this
 have RI := az (ri_v V2 V2v (by omega))
 have hc2 := (HC1.out.drewN nq).only b2 hg
 have O2 := az ((O1.out.drewN nq).trans b2)
 have d0 := hc2.mant
 have d1 := hc2.expb
 have d2 := hc2.bias
 have cneg := V2.mem.cneg
 have RG := (V2v.rung (by omega)).2.2 (by omega)
 rw [← HRm.out] at RG
 have RG := az RG
 have HR2 := RI.out
 rw [← HRm.out] at HR2
 have HR2 := az HR2
 clear b1 b2 V2 V2v hc2 RI c0 c1 c2 c0' c1' c2'
 go_wp2_with fail
 refine HR2.out.mono ?_
 rintro e w3 ⟨rfl, rfl⟩
 go_wp2_with fail
 go_quiet (fail)
 go_wp2_with fail
 go_step3
 simp only [Exit.then, Exit.inBlock]
 have RG := RG.out
 have F := (RG.1 HM0.out).1 hov
 rw [HM.out] at F
 rw [show ((-1022 : Int) + 1 + 1023).toNat = 2 from rfl] at F
 exact HX0.out _ (w3.drewN _) (2 ^ 52) 2 (-1021) (by decide) (by decide) (by decide) F.1 F.2 cneg (O2.out.drewN _) rfl
theorem fbt_A2_norm {w : World} {g n : Nat} {X : Rat} {E : Int} {s : List Nat × Int × Bool} {neg : Bool} (hE : FEnv n w) (hg : n ≤ g) (hD : DecV w g X E (-(E + 1)) s neg) (k : Nat) (hk1 : 60 < k) (hk : k ≤ 78) (hEk : E = -1022 - (k : Int)) (hm0 : 2 ^ 52 ≤ (FP.rnd (FP.shlD 53 (FP.shrD (k - 60) (FP.shrD 60 s))).1 (FP.shlD 53 (FP.shrD (k - 60) (FP.shrD 60 s))).2.1 (FP.shlD 53 (FP.shrD (k - 60) (FP.shrD 60 s))).2.2)) (hm : (FP.rnd (FP.shlD 53 (FP.shrD (k - 60) (FP.shrD 60 s))).1 (FP.shlD 53 (FP.shrD (k - 60) (FP.shrD 60 s))).2.1 (FP.shlD 53 (FP.shrD (k - 60) (FP.shrD 60 s))).2.2) < 2 ^ 53) (u : Nat → Value) (Q : Exit → Act → World → Prop) (h0 : G0 w g X neg Q) (h1 : G1 w g X neg Q) :
  Code.wp Tryz.prog fbT2 Q ⟨ffr (.pointer (some ⟨g, 0, none⟩)) (.pointer (some ⟨17, 0, none⟩)) (.int .u64 0) (.bool false) (.int .i64 (E + 1)) (.int .u64 0) u, []⟩ w := by
 have hE0 := hD.val.El
 have c0 := hE.mant
 have c1 := hE.expb
 have c2 := hE.bias
 have SH := az (shift_right2 hD (by omega) (by omega) k hk1 (by omega) (by unfold FP.Range; omega) (by unfold FP.Range; omega))
 have HT := az (show -(E + 1) - (k : Int) = -((-1022 : Int) + 1) by omega)
 have HM := az (show max E (-1022) = -1022 by omega)
 have hk8 : (k : Int) ≤ 78 := by omega
 have HX0 := az h0
 have HX1 := az h1
 obtain ⟨Rm, hRm⟩ : ∃ Rm, Rm = (FP.rnd (FP.shlD 53 (FP.shrD (k - 60) (FP.shrD 60 s))).1 (FP.shlD 53 (FP.shrD (k - 60) (FP.shrD 60 s))).2.1 (FP.shlD 53 (FP.shrD (k - 60) (FP.shrD 60 s))).2.2) := ⟨_, rfl⟩
 rw [← hRm] at hm hm0
 have HRm := az hRm
 clear hRm h0 h1
 subst hEk
 have t1 : decide (-1022 - (k : Int) < -1022) = true := dT
 have t1b : decide (0 < (k : Int)) = true := dT
 have t1n : decide (0 < k) = true := dT
 have EK : -1022 - (-1022 - (k : Int)) = (k : Int) := by omega
 have EX : -1022 - (k : Int) + (k : Int) = -1022 := by omega
 unfold ffr
 conv => arg 2; whnf
 go_wp2_with fail
 refine SH.out.mono ?_
 rintro e w1 ⟨rfl, a1, a2⟩
 have V1 := az a1
 have O1 := az a2
 have hc1 := hE.only a2 hg
 clear a1 a2
 have c0' := hc1.mant
 have c1' := hc1.expb
 have c2' := hc1.bias
 have t2 : decide (1024 ≤ (-1022 : Int)) = false := dF
 have t2b : decide (2047 ≤ (-1022 : Int) + 1023) = false := dF
 have HC1 := az hc1
 clear hc1
 go_wp2_with fail
 go_quiet (fail)
 go_wp2_with fail
 have V1' : DecV w1 g X (-1022 - (k : Int)) (-((-1022 : Int) + 1)) (FP.shrD (k - 60) (FP.shrD 60 s)) neg := by
  have := V1.out
  rw [HT.out] at this
  exact this
 have e53 : ((Rm : Int) == 9007199254740992) = false := bF
 have e52 : (Go.bits .and .u64 (Rm : Int) 4503599627370496 == 0) = false := by rw [and_bit52 hm]; exact decide_eq_false (by omega)
 have HM0 := az hm
 have HM1 := az hm0
 refine (shift_left (V1'.drewN nq) (HC1.out.drewN nq) hg (by omega) (by omega) 53 (by omega) (by omega) (by unfold FP.Range; omega)).mono ?_
 rintro e w2 ⟨rfl, b1, b2⟩
 have V2 : DecV w2 g X (-1022 - (k : Int)) (52 - max (-1022 - (k : Int)) (-1022)) (FP.shlD 53 (FP.shrD (k - 60) (FP.shrD 60 s))) neg := by
  have := b1
  rw [show -((-1022) + 1) + ((53 : Nat) : Int) = 52 - max (-1022 - (k : Int)) (-1022) by rw [HM.out]; omega] at this
  exact this
 have V2v : FP.DV X (-1022 - (k : Int)) (52 - max (-1022 - (k : Int)) (-1022)) (FP.shlD 53 (FP.shrD (k - 60) (FP.shrD 60 s))).1 (FP.shlD 53 (FP.shrD (k - 60) (FP.shrD 60 s))).2.1 (FP.shlD 53 (FP.shrD (k - 60) (FP.shrD 60 s))).2.2 := by
  have := V1'.val.shl 53 (by unfold FP.Range; omega)
  rw [show -((-1022) + 1) + ((53 : Nat) : Int) = 52 - max (-1022 - (k : Int)) (-1022) by rw [HM.out]; omega] at this
  exact this
 have RI := az (ri_v V2 V2v (by omega))
 have hc2 := (HC1.out.drewN nq).only b2 hg
 have O2 := az ((O1.out.drewN nq).trans b2)
 have d0 := hc2.mant
 have d1 := hc2.expb
 have d2 := hc2.bias
 have cneg := V2.mem.cneg
 have RG := (V2v.rung (by omega)).2.2 (by omega)
 rw [← HRm.out] at RG
 have RG := az RG
 have HR2 := RI.out
 rw [← HRm.out] at HR2
 have HR2 := az HR2
 clear b1 b2 V2 V2v hc2 RI c0 c1 c2 c0' c1' c2'
 go_wp2_with fail
 refine HR2.out.mono ?_
 rintro e w3 ⟨rfl, rfl⟩
 go_wp2_with fail
 go_step3
 simp only [Exit.then, Exit.inBlock]
 have RG := RG.out
 have F := RG.2.1 HM0.out HM1.out
 rw [HM.out] at F
 rw [show ((-1022 : Int) + 1023).toNat = 1 from rfl] at F
 exact HX0.out _ (w3) Rm 1 (-1022) HM0.out (by decide) (by decide) F.1 F.2 cneg (O2.out) rfl
theorem fbt_A2_den {w : World} {g n : Nat} {X : Rat} {E : Int} {s : List Nat × Int × Bool} {neg : Bool} (hE : FEnv n w) (hg : n ≤ g) (hD : DecV w g X E (-(E + 1)) s neg) (k : Nat) (hk1 : 60 < k) (hk : k ≤ 78) (hEk : E = -1022 - (k : Int)) (hm : (FP.rnd (FP.shlD 53 (FP.shrD (k - 60) (FP.shrD 60 s))).1 (FP.shlD 53 (FP.shrD (k - 60) (FP.shrD 60 s))).2.1 (FP.shlD 53 (FP.shrD (k - 60) (FP.shrD 60 s))).2.2) < 2 ^ 52) (u : Nat → Value) (Q : Exit → Act → World → Prop) (h0 : G0 w g X neg Q) (h1 : G1 w g X neg Q) :
  Code.wp Tryz.prog fbT2 Q ⟨ffr (.pointer (some ⟨g, 0, none⟩)) (.pointer (some ⟨17, 0, none⟩)) (.int .u64 0) (.bool false) (.int .i64 (E + 1)) (.int .u64 0) u, []⟩ w := by
 have hE0 := hD.val.El
 have c0 := hE.mant
 have c1 := hE.expb
 have c2 := hE.bias
 have SH := az (shift_right2 hD (by omega) (by omega) k hk1 (by omega) (by unfold FP.Range; omega) (by unfold FP.Range; omega))
 have HT := az (show -(E + 1) - (k : Int) = -((-1022 : Int) + 1) by omega)
 have HM := az (show max E (-1022) = -1022 by omega)
 have hk8 : (k : Int) ≤ 78 := by omega
 have HX0 := az h0
 have HX1 := az h1
 obtain ⟨Rm, hRm⟩ : ∃ Rm, Rm = (FP.rnd (FP.shlD 53 (FP.shrD (k - 60) (FP.shrD 60 s))).1 (FP.shlD 53 (FP.shrD (k - 60) (FP.shrD 60 s))).2.1 (FP.shlD 53 (FP.shrD (k - 60) (FP.shrD 60 s))).2.2) := ⟨_, rfl⟩
 rw [← hRm] at hm
 have HRm := az hRm
 clear hRm h0 h1
 subst hEk
 have t1 : decide (-1022 - (k : Int) < -1022) = true := dT
 have t1b : decide (0 < (k : Int)) = true := dT
 have t1n : decide (0 < k) = true := dT
 have EK : -1022 - (-1022 - (k : Int)) = (k : Int) := by omega
 have EX : -1022 - (k : Int) + (k : Int) = -1022 := by omega
 unfold ffr
 conv => arg 2; whnf
 go_wp2_with fail
 refine SH.out.mono ?_
 rintro e w1 ⟨rfl, a1, a2⟩
 have V1 := az a1
 have O1 := az a2
 have hc1 := hE.only a2 hg
 clear a1 a2
 have c0' := hc1.mant
 have c1' := hc1.expb
 have c2' := hc1.bias
 have t2 : decide (1024 ≤ (-1022 : Int)) = false := dF
 have t2b : decide (2047 ≤ (-1022 : Int) + 1023) = false := dF
 have HC1 := az hc1
 clear hc1
 go_wp2_with fail
 go_quiet (fail)
 go_wp2_with fail
 have V1' : DecV w1 g X (-1022 - (k : Int)) (-((-1022 : Int) + 1)) (FP.shrD (k - 60) (FP.shrD 60 s)) neg := by
  have := V1.out
  rw [HT.out] at this
  exact this
 have e53 : ((Rm : Int) == 9007199254740992) = false := bF
 have e52 : (Go.bits .and .u64 (Rm : Int) 4503599627370496 == 0) = true := by rw [and_bit52 (by omega)]; exact decide_eq_true (by omega)
 have HM0 := az hm
 refine (shift_left (V1'.drewN nq) (HC1.out.drewN nq) hg (by omega) (by omega) 53 (by omega) (by omega) (by unfold FP.Range; omega)).mono ?_
 rintro e w2 ⟨rfl, b1, b2⟩
 have V2 : DecV w2 g X (-1022 - (k : Int)) (52 - max (-1022 - (k : Int)) (-1022)) (FP.shlD 53 (FP.shrD (k - 60) (FP.shrD 60 s))) neg := by
  have := b1
  rw [show -((-1022) + 1) + ((53 : Nat) : Int) = 52 - max (-1022 - (k : Int)) (-1022) by rw [HM.out]; omega] at this
  exact this
 have V2v : FP.DV X (-1022 - (k : Int)) (52 - max (-1022 - (k : Int)) (-1022)) (FP.shlD 53 (FP.shrD (k - 60) (FP.shrD 60 s))).1 (FP.shlD 53 (FP.shrD (k - 60) (FP.shrD 60 s))).2.1 (FP.shlD 53 (FP.shrD (k - 60) (FP.shrD 60 s))).2.2 := by
  have := V1'.val.shl 53 (by unfold FP.Range; omega)
  rw [show -((-1022) + 1) + ((53 : Nat) : Int) = 52 - max (-1022 - (k : Int)) (-1022) by rw [HM.out]; omega] at this
  exact this
 have RI := az (ri_v V2 V2v (by omega))
 have hc2 := (HC1.out.drewN nq).only b2 hg
 have O2 := az ((O1.out.drewN nq).trans b2)
 have d0 := hc2.mant
 have d1 := hc2.expb
 have d2 := hc2.bias
 have cneg := V2.mem.cneg
 have RG := (V2v.rung (by omega)).2.2 (by omega)
 rw [← HRm.out] at RG
 have RG := az RG
 have HR2 := RI.out
 rw [← HRm.out] at HR2
 have HR2 := az HR2
 clear b1 b2 V2 V2v hc2 RI c0 c1 c2 c0' c1' c2'
 go_wp2_with fail
 refine HR2.out.mono ?_
 rintro e w3 ⟨rfl, rfl⟩
 go_wp2_with fail
 go_step3
 simp only [Exit.then, Exit.inBlock]
 have RG := RG.out
 have F := RG.2.2 HM0.out
 skip
 skip
 exact HX0.out _ (w3) Rm 0 (-1023) (Nat.lt_trans HM0.out (by decide)) (by decide) (by decide) F.1 F.2 cneg (O2.out) rfl
theorem fbt_A2_turn {w : World} {g n : Nat} {X : Rat} {E : Int} {s : List Nat × Int × Bool} {neg : Bool} (hE : FEnv n w) (hg : n ≤ g) (hD : DecV w g X E (-(E + 1)) s neg) (k : Nat) (hk1 : 60 < k) (hk : k ≤ 78) (hEk : E = -1022 - (k : Int)) (hm : (FP.rnd (FP.shlD 53 (FP.shrD (k - 60) (FP.shrD 60 s))).1 (FP.shlD 53 (FP.shrD (k - 60) (FP.shrD 60 s))).2.1 (FP.shlD 53 (FP.shrD (k - 60) (FP.shrD 60 s))).2.2) = 2 ^ 53) (hov : max E (-1022) + 1 + 1023 < 2047) (u : Nat → Value) (Q : Exit → Act → World → Prop) (h0 : G0 w g X neg Q) (h1 : G1 w g X neg Q) :
  Code.wp Tryz.prog fbT2 Q ⟨ffr (.pointer (some ⟨g, 0, none⟩)) (.pointer (some ⟨17, 0, none⟩)) (.int .u64 0) (.bool false) (.int .i64 (E + 1)) (.int .u64 0) u, []⟩ w := by
 have hE0 := hD.val.El
 have c0 := hE.mant
 have c1 := hE.expb
 have c2 := hE.bias
 have SH := az (shift_right2 hD (by omega) (by omega) k hk1 (by omega) (by unfold FP.Range; omega) (by unfold FP.Range; omega))
 have HT := az (show -(E + 1) - (k : Int) = -((-1022 : Int) + 1) by omega)
 have HM := az (show max E (-1022) = -1022 by omega)
 have hk8 : (k : Int) ≤ 78 := by omega
 have HX0 := az h0
 have HX1 := az h1
 obtain ⟨Rm, hRm⟩ : ∃ Rm, Rm = (FP.rnd (FP.shlD 53 (FP.shrD (k - 60) (FP.shrD 60 s))).1 (FP.shlD 53 (FP.shrD (k - 60) (FP.shrD 60 s))).2.1 (FP.shlD 53 (FP.shrD (k - 60) (FP.shrD 60 s))).2.2) := ⟨_, rfl⟩
 rw [← hRm] at hm
 have HRm := az hRm
 clear hRm h0 h1
 subst hEk
 have t1 : decide (-1022 - (k : Int) < -1022) = true := dT
 have t1b : decide (0 < (k : Int)) = true := dT
 have t1n : decide (0 < k) = true := dT
 have EK : -1022 - (-1022 - (k : Int)) = (k : Int) := by omega
 have EX : -1022 - (k : Int) + (k : Int) = -1022 := by omega
 unfold ffr
 conv => arg 2; whnf
 go_wp2_with fail
 refine SH.out.mono ?_
 rintro e w1 ⟨rfl, a1, a2⟩
 have V1 := az a1
 have O1 := az a2
 have hc1 := hE.only a2 hg
 clear a1 a2
 have c0' := hc1.mant
 have c1' := hc1.expb
 have c2' := hc1.bias
 have t2 : decide (1024 ≤ (-1022 : Int)) = false := dF
 have t2b : decide (2047 ≤ (-1022 : Int) + 1023) = false := dF
 have HC1 := az hc1
 clear hc1
 go_wp2_with fail
 go_quiet (fail)
 go_wp2_with fail
 have V1' : DecV w1 g X (-1022 - (k : Int)) (-((-1022 : Int) + 1)) (FP.shrD (k - 60) (FP.shrD 60 s)) neg := by
  have := V1.out
  rw [HT.out] at this
  exact this
 have e53 : ((Rm : Int) == 9007199254740992) = true := bT
 have e52 : (Go.bits .and .u64 4503599627370496 4503599627370496 == 0) = false := by decide +kernel
 have t3 : decide (1024 ≤ (-1022 : Int) + 1) = false := dF
 have t3b : decide (2047 ≤ (-1022 : Int) + 1 + 1023) = false := dF
 have HM0 := az hm
 refine (shift_left (V1'.drewN nq) (HC1.out.drewN nq) hg (by omega) (by omega) 53 (by omega) (by omega) (by unfold FP.Range; omega)).mono ?_
 rintro e w2 ⟨rfl, b1, b2⟩
 have V2 : DecV w2 g X (-1022 - (k : Int)) (52 - max (-1022 - (k : Int)) (-1022)) (FP.shlD 53 (FP.shrD (k - 60) (FP.shrD 60 s))) neg := by
  have := b1
  rw [show -((-1022) + 1) + ((53 : Nat) : Int) = 52 - max (-1022 - (k : Int)) (-1022) by rw [HM.out]; omega] at this
  exact this
 have V2v : FP.DV X (-1022 - (k : Int)) (52 - max (-1022 - (k : Int)) (-1022)) (FP.shlD 53 (FP.shrD (k - 60) (FP.shrD 60 s))).1 (FP.shlD 53 (FP.shrD (k - 60) (FP.shrD 60 s))).2.1 (FP.shlD 53 (FP.shrD (k - 60) (FP.shrD 60 s))).2.2 := by
  have := V1'.val.shl 53 (by unfold FP.Range; omega)
  rw [show -((-1022) + 1) + ((53 : Nat) : Int) = 52 - max (-1022 - (k : Int)) (-1022) by rw [HM.out]; omega] at this
  exact this
 have RI := az (ri_v V2 V2v (by omega))
 have hc2 := (HC1.out.drewN nq).only b2 hg
 have O2 := az ((O1.out.drewN nq).trans b2)
 have d0 := hc2.mant
 have d1 := hc2.expb
 have d2 := hc2.bias
 have cneg := V2.mem.cneg
 have RG := (V2v.rung (by omega)).2.2 (by omega)
 rw [← HRm.out] at RG
 have RG := az RG
 have HR2 := RI.out
 rw [← HRm.out] at HR2
 have HR2 := az HR2
 clear b1 b2 V2 V2v hc2 RI c0 c1 c2 c0' c1' c2'
 go_wp2_with fail
 refine HR2.out.mono ?_
 rintro e w3 ⟨rfl, rfl⟩
 go_wp2_with fail
 go_quiet (fail)
 go_wp2_with fail
 go_step3
 simp only [Exit.then, Exit.inBlock]
 have RG := RG.out
 have F := (RG.1 HM0.out).1 hov
 rw [HM.out] at F
 rw [show ((-1022 : Int) + 1 + 1023).toNat = 2 from rfl] at F
 exact HX0.out _ (w3.drewN _) (2 ^ 52) 2 (-1021) (by decide) (by decide) (by decide) F.1 F.2 cneg (O2.out.drewN _) rfl
theorem fbt_C {w : World} {g n : Nat} {X : Rat} {E : Int} {s : List Nat × Int × Bool} {neg : Bool} (hE : FEnv n w) (hD : DecV w g X E (-(E + 1)) s neg) (hE2 : 1024 ≤ E) (hE3 : E ≤ 1200) (u : Nat → Value) (Q : Exit → Act → World → Prop) (h1 : G1 w g X neg Q) :
  Code.wp Tryz.prog fbT2 Q ⟨ffr (.pointer (some ⟨g, 0, none⟩)) (.pointer (some ⟨17, 0, none⟩)) (.int .u64 0) (.bool false) (.int .i64 (E + 1)) (.int .u64 0) u, []⟩ w := by
 have c0 := hE.mant
 have c1 := hE.expb
 have c2 := hE.bias
 have cneg := hD.mem.cneg
 have HN := az (FP.near_over hD.val.lo hE2)
 have HX1 := az h1
 clear hD h1 hE
 have t1 : decide (E < -1022) = false := dF
 have t2 : decide (1024 ≤ E) = true := dT
 have t2b : decide (2047 ≤ E + 1023) = true := dT
 unfold ffr
 conv => arg 2; whnf
 go_wp2_with fail
 go_quiet (fail)
 go_wp2_with fail
 go_step3
 simp only [Exit.then, Exit.inBlock]
 exact HX1.out _ (w.drewN _) _ _ HN.out cneg ((Only.refl g w).drewN _) rfl
theorem fbt_all {w : World} {g n : Nat} {X : Rat} {E : Int} {s : List Nat × Int × Bool} {neg : Bool} (hE : FEnv n w) (hg : n ≤ g) (hD : DecV w g X E (-(E + 1)) s neg) (hE3 : E ≤ 1200) (u : Nat → Value) (Q : Exit → Act → World → Prop) (h0 : G0 w g X neg Q) (h1 : G1 w g X neg Q) :
  Code.wp Tryz.prog fbT2 Q ⟨ffr (.pointer (some ⟨g, 0, none⟩)) (.pointer (some ⟨17, 0, none⟩)) (.int .u64 0) (.bool false) (.int .i64 (E + 1)) (.int .u64 0) u, []⟩ w := by
 have hE0 := hD.val.El
 by_cases cC : 1024 ≤ E
 ·exact fbt_C hE hD cC hE3 u Q h1
 by_cases cB : -1022 ≤ E
 ·have hm : FP.rnd (FP.shlD 53 s).1 (FP.shlD 53 s).2.1 (FP.shlD 53 s).2.2 ≤ 2 ^ 53 := by
   have v := hD.val.shl 53 (by unfold FP.Range; omega)
   rw [show -(E + 1) + ((53 : Nat) : Int) = 52 - max E (-1022) by omega] at v
   exact (v.rung (by omega)).1
  by_cases c1 : FP.rnd (FP.shlD 53 s).1 (FP.shlD 53 s).2.1 (FP.shlD 53 s).2.2 = 2 ^ 53
  ·by_cases c2 : 2047 ≤ max E (-1022) + 1 + 1023
   ·exact fbt_B_top hE hg hD cB (by omega) c1 c2 u Q h0 h1
   ·exact fbt_B_turn hE hg hD cB (by omega) c1 (by omega) u Q h0 h1
  ·by_cases c2 : 2 ^ 52 ≤ FP.rnd (FP.shlD 53 s).1 (FP.shlD 53 s).2.1 (FP.shlD 53 s).2.2
   ·exact fbt_B_norm hE hg hD cB (by omega) c2 (by omega) u Q h0 h1
   ·exact fbt_B_den hE hg hD cB (by omega) (by omega) u Q h0 h1
 ·obtain ⟨k, hk⟩ : ∃ k : Nat, E = -1022 - (k : Int) := ⟨(-1022 - E).toNat, by omega⟩
  by_cases ck : k ≤ 60
  ·have hm : FP.rnd (FP.shlD 53 (FP.shrD k s)).1 (FP.shlD 53 (FP.shrD k s)).2.1 (FP.shlD 53 (FP.shrD k s)).2.2 ≤ 2 ^ 53 := by
    have v := (hD.val.shr k (by unfold FP.Range; omega)).weak.shl 53 (by unfold FP.Range; omega)
    rw [show -(E + 1) - (k : Int) + ((53 : Nat) : Int) = 52 - max E (-1022) by omega] at v
    exact (v.rung (by omega)).1
   by_cases c1 : FP.rnd (FP.shlD 53 (FP.shrD k s)).1 (FP.shlD 53 (FP.shrD k s)).2.1 (FP.shlD 53 (FP.shrD k s)).2.2 = 2 ^ 53
   ·exact fbt_A_turn hE hg hD k (by omega) ck hk c1 (by omega) u Q h0 h1
   ·by_cases c2 : 2 ^ 52 ≤ FP.rnd (FP.shlD 53 (FP.shrD k s)).1 (FP.shlD 53 (FP.shrD k s)).2.1 (FP.shlD 53 (FP.shrD k s)).2.2
    ·exact fbt_A_norm hE hg hD k (by omega) ck hk c2 (by omega) u Q h0 h1
    ·exact fbt_A_den hE hg hD k (by omega) ck hk (by omega) u Q h0 h1
  ·have hm : FP.rnd (FP.shlD 53 (FP.shrD (k - 60) (FP.shrD 60 s))).1 (FP.shlD 53 (FP.shrD (k - 60) (FP.shrD 60 s))).2.1 (FP.shlD 53 (FP.shrD (k - 60) (FP.shrD 60 s))).2.2 ≤ 2 ^ 53 := by
    have v := ((hD.val.shr 60 (by unfold FP.Range; omega)).weak.shr (k - 60) (by unfold FP.Range; omega)).weak.shl 53 (by unfold FP.Range; omega)
    rw [show -(E + 1) - ((60 : Nat) : Int) - ((k - 60 : Nat) : Int) + ((53 : Nat) : Int) = 52 - max E (-1022) by omega] at v
    exact (v.rung (by omega)).1
   by_cases c1 : FP.rnd (FP.shlD 53 (FP.shrD (k - 60) (FP.shrD 60 s))).1 (FP.shlD 53 (FP.shrD (k - 60) (FP.shrD 60 s))).2.1 (FP.shlD 53 (FP.shrD (k - 60) (FP.shrD 60 s))).2.2 = 2 ^ 53
   ·exact fbt_A2_turn hE hg hD k (by omega) (by omega) hk c1 (by omega) u Q h0 h1
   ·by_cases c2 : 2 ^ 52 ≤ FP.rnd (FP.shlD 53 (FP.shrD (k - 60) (FP.shrD 60 s))).1 (FP.shlD 53 (FP.shrD (k - 60) (FP.shrD 60 s))).2.1 (FP.shlD 53 (FP.shrD (k - 60) (FP.shrD 60 s))).2.2
    ·exact fbt_A2_norm hE hg hD k (by omega) (by omega) hk c2 (by omega) u Q h0 h1
    ·exact fbt_A2_den hE hg hD k (by omega) (by omega) hk (by omega) u Q h0 h1
end Go.Proofs.YtbimfhaokgigkaaGreatDoor
