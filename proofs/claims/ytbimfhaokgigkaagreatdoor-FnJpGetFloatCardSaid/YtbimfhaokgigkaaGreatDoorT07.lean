/- Walks of functions of FnJpGetFloat (A7); conditions stand ahead of each theorem. -/
import Derived.Test.YtbimfhaokgigkaaGreatDoorT06
import Derived.WalkMore
set_option linter.unusedVariables false
set_option linter.unusedSimpArgs false
set_option maxRecDepth 1000000
namespace Go.Proofs.YtbimfhaokgigkaaGreatDoor
open Go.RowKit Go.Proofs.YtbimfhaokgigkaaGreatDoorW.PrintWords Go.Proofs.YtbimfhaokgigkaaGreatDoorW.PrintLast
theorem lower_calls (x : Int) (w : World) : Calls Tryz.prog 112 #[.int .u8 x] w fun e w' => e = .returned (.int .u8 (Go.bits .or .u8 x 32)) ∧ w' = w := by
 go_enter Tryz.func112, Tryz.ntmps112
 go_wp2
 go_ret
 exact ⟨rfl, rfl⟩
def loopsOf : Code → List Code
 | .loop c => [c]
 | .seq a b => loopsOf a ++ loopsOf b
 | .block _ c => loopsOf c
 | .scope c => loopsOf c
 | .cond _ a b => loopsOf a ++ loopsOf b
 | _ => []
noncomputable def loopOf (f : Func) (n : Nat) : Code := (((f.body.map loopsOf).getD [])[n]?).getD .skip
noncomputable def readBody1 : Code := loopOf Tryz.f91 0
def rfr (s : Value) (v2 v3 v4 v5 v6 v7 v8 v9 v10 v11 v12 v13 v14 v15 v16 v17 v19 v20 : Value) (u : Nat → Value) : Array Value := #[s, u 1, v2, v3, v4, v5, v6, v7, v8, v9, v10, v11, v12, v13, v14, v15, v16, v17, u 18, v19, v20, u 21, u 22, u 23, u 24, u 25, u 26, u 27, u 28, u 29, u 30, u 31, u 32, u 33, u 34, u 35, u 36, u 37, u 38, u 39, u 40, u 41, u 42, u 43, u 44, u 45, u 46, u 47, u 48, u 49, u 50, u 51, u 52, u 53, u 54, u 55, u 56, u 57, u 58, u 59, u 60, u 61, u 62, u 63, u 64, u 65, u 66, u 67, u 68, u 69, u 70, u 71, u 72, u 73, u 74, u 75, u 76, u 77, u 78, u 79, u 80, u 81, u 82, u 83, u 84, u 85, u 86, u 87, u 88, u 89, u 90, u 91, u 92, u 93, u 94, u 95, u 96, u 97, u 98, u 99, u 100, u 101, u 102, u 103, u 104, u 105, u 106, u 107, u 108, u 109, u 110, u 111, u 112, u 113, u 114, u 115, u 116, u 117, u 118, u 119, u 120, u 121, u 122, u 123, u 124, u 125, u 126, u 127, u 128, u 129, u 130, u 131, u 132, u 133, u 134, u 135, u 136, u 137, u 138, u 139, u 140, u 141, u 142, u 143, u 144, u 145, u 146, u 147, u 148, u 149, u 150, u 151, u 152, u 153, u 154, u 155, u 156, u 157, u 158, u 159, u 160, u 161, u 162, u 163, u 164, u 165, u 166, u 167, u 168, u 169, u 170, u 171, u 172, u 173, u 174, u 175, u 176, u 177, u 178, u 179, u 180, u 181, u 182, u 183, u 184, u 185, u 186, u 187, u 188, u 189, u 190, u 191, u 192, u 193, u 194, u 195, u 196, u 197, u 198, u 199, u 200, u 201, u 202, u 203, u 204, u 205, u 206, u 207, u 208, u 209, u 210, u 211, u 212, u 213, u 214, u 215, u 216, u 217, u 218, u 219, u 220, u 221, u 222, u 223, u 224, u 225, u 226, u 227, u 228, u 229, u 230, u 231, u 232, u 233, u 234, u 235, u 236, u 237, u 238, u 239, u 240, u 241, u 242, u 243, u 244, u 245, u 246, u 247, u 248, u 249, u 250, u 251, u 252]
section
variable (s : ByteArray) (wc : World) (neg : Bool) (st : Int) (M : Nat) (g : Nat → Nat)
def rAt (j : Nat) (x19 x20 : Value) (u : Nat → Value) : Act :=
 ⟨rfr (.string s) (.int .u64 ((FP.rst g j).mant : Int)) (.int .i64 0) (.bool neg) (.bool (FP.rst g j).tr) (.bool false) (.int .i64 (st + j)) (.bool false) (.bool false) (.int .u64 10) (.int .i64 19) (.int .u8 101)
  (.bool (FP.rst g j).dotted) (.bool (FP.rst g j).seen) (.int .i64 ((FP.rst g j).nd : Int)) (.int .i64 ((FP.rst g j).nm : Int)) (.int .i64 (FP.rst g j).dp) x19 x20 u, []⟩
def rMu (a : Act) (w : World) : Nat := (st + M - intOf (a.tmps.getD 7 undef)).toNat
def RInv (a : Act) (w : World) : Prop := ∃ x19 x20 u j, j ≤ M ∧ a = rAt s neg st g j x19 x20 u ∧ w = wc
theorem rMu_at (j : Nat) (x19 x20 : Value) (u : Nat → Value) (w : World) : rMu st M (rAt s neg st g j x19 x20 u) w = M - j := by
 show (st + M - (st + j)).toNat = M - j
 omega
theorem rnext {a : Act} {w : World} {j : Nat} {x19 x20 : Value} {u : Nat → Value} (hj : j < M) (h : a = rAt s neg st g (j + 1) (a.tmps.getD 19 undef) (a.tmps.getD 20 undef) (fun n => a.tmps.getD n undef)) (hw : w = wc) :
  RInv s wc neg st M g a w ∧ rMu st M a w < rMu st M (rAt s neg st g j x19 x20 u) wc := by
 refine ⟨⟨_, _, _, j + 1, hj, h, hw⟩, ?_⟩
 rw [h, rMu_at, rMu_at]
 omega
theorem rround_dot (hM : st + M ≤ (s.size : Int)) (hsz : (s.size : Int) ≤ 800) (hst0 : 0 ≤ st) (hst1 : st ≤ 1) (hg : ∀ j < M, bt s (st + j) = (g j : Int)) (hgd : ∀ j < M, g j = 46 ∨ (48 ≤ g j ∧ g j ≤ 57))
  (hdot : ∀ j < M, g j = 46 → (FP.rst g j).dotted = false) (j : Nat) (hjM : j < M) (x19 x20 : Value) (u : Nat → Value) (Q : Exit → Act → World → Prop) (h : g j = 46) :
  Code.wp Tryz.prog readBody1 (Exit.then (fun a' w' => RInv s wc neg st M g a' w' ∧ rMu st M a' w' < rMu st M (rAt s neg st g j x19 x20 u) wc) Q) (rAt s neg st g j x19 x20 u) wc := by
 have hok := FP.rst_ok hgd j (Nat.le_of_lt hjM)
 have b1 := hok.nd
 have b2 := az hok.nm
 have b3 := hok.mant_lt
 have b4 := hok.lo
 have b5 := hok.hi
 have hb := hg j hjM
 have hd := hgd j hjM
 have hdt := hdot j hjM
 have hr : FP.rst g (j + 1) = { FP.rst g j with dotted := true, dp := ((FP.rst g j).nd : Int) } := by
  show FP.rstep (g j) (FP.rst g j) = _
  unfold FP.rstep
  rw [if_pos h]
 have p5 : (0 ≤ st + (j : Int)) = True := eT
 have q5 : (st + (j : Int) < (s.size : Int)) = True := eT
 have hx5 := bt_at s (st + j)
 rw [hb] at hx5
 have u95 : (((g j : Nat) : Int) == 95) = false := bF
 have t46 : (((g j : Nat) : Int) == 46) = true := bT
 have hdt := hdt h
 have hi : st + ((j + 1 : Nat) : Int) = st + (j : Int) + 1 := by omega
 have hb9 : (FP.rst g j).nm ≤ 19 := by rw [hok.nm]; omega
 have HR := az hr
 have HI := az hi
 have HM := az hjM
 have hj800 : (j : Int) ≤ 800 := by omega
 clear hr hi hM hg hgd hdot hb hd hok
 generalize hI : (fun a' w' => RInv s wc neg st M g a' w' ∧ rMu st M a' w' < rMu st M (rAt s neg st g j x19 x20 u) wc) = I
 unfold rAt rfr
 conv => arg 2; whnf
 go_wp2_with fail
 subst hI
 refine rnext s wc neg st M g HM.out ?_ rfl
 unfold rAt
 rw [HR.out, HI.out]
 rfl
theorem rround_zero (hM : st + M ≤ (s.size : Int)) (hsz : (s.size : Int) ≤ 800) (hst0 : 0 ≤ st) (hst1 : st ≤ 1) (hg : ∀ j < M, bt s (st + j) = (g j : Int)) (hgd : ∀ j < M, g j = 46 ∨ (48 ≤ g j ∧ g j ≤ 57))
  (hdot : ∀ j < M, g j = 46 → (FP.rst g j).dotted = false) (j : Nat) (hjM : j < M) (x19 x20 : Value) (u : Nat → Value) (Q : Exit → Act → World → Prop) (h : g j = 48) (hn : (FP.rst g j).nd = 0) :
  Code.wp Tryz.prog readBody1 (Exit.then (fun a' w' => RInv s wc neg st M g a' w' ∧ rMu st M a' w' < rMu st M (rAt s neg st g j x19 x20 u) wc) Q) (rAt s neg st g j x19 x20 u) wc := by
 have hok := FP.rst_ok hgd j (Nat.le_of_lt hjM)
 have b1 := hok.nd
 have b2 := az hok.nm
 have b3 := hok.mant_lt
 have b4 := hok.lo
 have b5 := hok.hi
 have hb := hg j hjM
 have hd := hgd j hjM
 have hdt := hdot j hjM
 have hr : FP.rst g (j + 1) = { FP.rst g j with nd := 0, seen := true, dp := (FP.rst g j).dp - 1 } := by
  show FP.rstep (g j) (FP.rst g j) = _
  unfold FP.rstep
  rw [if_neg (by omega), if_pos ⟨h, hn⟩, hn]
 have p5 : (0 ≤ st + (j : Int)) = True := eT
 have q5 : (st + (j : Int) < (s.size : Int)) = True := eT
 have hx5 := bt_at s (st + j)
 rw [hb] at hx5
 have u95 : (((g j : Nat) : Int) == 95) = false := bF
 have t46 : (((g j : Nat) : Int) == 46) = false := bF
 have t48 : decide (48 ≤ ((g j : Nat) : Int)) = true := dT
 have t57 : decide (((g j : Nat) : Int) ≤ 57) = true := dT
 have e48 : (((g j : Nat) : Int) == 48) = true := bT
 have en : (((FP.rst g j).nd : Int) == 0) = true := bT
 have hi : st + ((j + 1 : Nat) : Int) = st + (j : Int) + 1 := by omega
 have hb9 : (FP.rst g j).nm ≤ 19 := by rw [hok.nm]; omega
 have HR := az hr
 have HI := az hi
 have HM := az hjM
 have hj800 : (j : Int) ≤ 800 := by omega
 clear hr hi hM hg hgd hdot hb hd hok
 generalize hI : (fun a' w' => RInv s wc neg st M g a' w' ∧ rMu st M a' w' < rMu st M (rAt s neg st g j x19 x20 u) wc) = I
 unfold rAt rfr
 conv => arg 2; whnf
 go_wp2_with fail
 subst hI
 refine rnext s wc neg st M g HM.out ?_ rfl
 unfold rAt
 rw [HR.out, HI.out]
 rfl
theorem rround_taken0 (hM : st + M ≤ (s.size : Int)) (hsz : (s.size : Int) ≤ 800) (hst0 : 0 ≤ st) (hst1 : st ≤ 1) (hg : ∀ j < M, bt s (st + j) = (g j : Int)) (hgd : ∀ j < M, g j = 46 ∨ (48 ≤ g j ∧ g j ≤ 57))
  (hdot : ∀ j < M, g j = 46 → (FP.rst g j).dotted = false) (j : Nat) (hjM : j < M) (x19 x20 : Value) (u : Nat → Value) (Q : Exit → Act → World → Prop) (h0 : g j = 48) (hn : (FP.rst g j).nd ≠ 0) (h : 48 ≤ g j) (h9 : (FP.rst g j).nm < 19) :
  Code.wp Tryz.prog readBody1 (Exit.then (fun a' w' => RInv s wc neg st M g a' w' ∧ rMu st M a' w' < rMu st M (rAt s neg st g j x19 x20 u) wc) Q) (rAt s neg st g j x19 x20 u) wc := by
 have hok := FP.rst_ok hgd j (Nat.le_of_lt hjM)
 have b1 := hok.nd
 have b2 := az hok.nm
 have b3 := hok.mant_lt
 have b4 := hok.lo
 have b5 := hok.hi
 have hb := hg j hjM
 have hd := hgd j hjM
 have hdt := hdot j hjM
 have hr : FP.rst g (j + 1) = { FP.rst g j with seen := true, nd := (FP.rst g j).nd + 1, mant := (FP.rst g j).mant * 10, nm := (FP.rst g j).nm + 1 } := by
  show FP.rstep (g j) (FP.rst g j) = _
  unfold FP.rstep
  rw [if_neg (by omega), if_neg (by omega), if_pos h9]; simp [h0]
 have p5 : (0 ≤ st + (j : Int)) = True := eT
 have q5 : (st + (j : Int) < (s.size : Int)) = True := eT
 have hx5 := bt_at s (st + j)
 rw [hb] at hx5
 have u95 : (((g j : Nat) : Int) == 95) = false := bF
 have t46 : (((g j : Nat) : Int) == 46) = false := bF
 have t48 : decide (48 ≤ ((g j : Nat) : Int)) = true := dT
 have t57 : decide (((g j : Nat) : Int) ≤ 57) = true := dT
 have e48 : (((g j : Nat) : Int) == 48) = true := bT
 have en : (((FP.rst g j).nd : Int) == 0) = false := bF
 have ne48 : (((g j : Nat) : Int) != 48) = false := by rw [bne_eq_false_iff_eq]; omega
 have tnm : decide (((FP.rst g j).nm : Int) < 19) = true := dT
 have WZ := az (show ((FP.rst g j).mant : Int) * 10 + (((g j : Nat) : Int) - 48) % 256 = (((FP.rst g j).mant * 10 + (g j - 48) : Nat) : Int) by omega)
 have h18 : (((FP.rst g j).mant : Nat) : Int) < 10 ^ 18 := by
  have := hok.mant
  have h18 : (FP.rst g j).mant < 10 ^ 18 := Nat.lt_of_lt_of_le this (Nat.pow_le_pow_right (by decide) (by omega))
  omega
 have hi : st + ((j + 1 : Nat) : Int) = st + (j : Int) + 1 := by omega
 have hb9 : (FP.rst g j).nm ≤ 19 := by rw [hok.nm]; omega
 have HR := az hr
 have HI := az hi
 have HM := az hjM
 have hj800 : (j : Int) ≤ 800 := by omega
 clear hr hi hM hg hgd hdot hb hd hok
 generalize hI : (fun a' w' => RInv s wc neg st M g a' w' ∧ rMu st M a' w' < rMu st M (rAt s neg st g j x19 x20 u) wc) = I
 unfold rAt rfr
 conv => arg 2; whnf
 go_wp2_with fail
 subst hI
 refine rnext s wc neg st M g HM.out ?_ rfl
 unfold rAt
 rw [HR.out, HI.out]
 rfl
theorem rround_dropn0 (hM : st + M ≤ (s.size : Int)) (hsz : (s.size : Int) ≤ 800) (hst0 : 0 ≤ st) (hst1 : st ≤ 1) (hg : ∀ j < M, bt s (st + j) = (g j : Int)) (hgd : ∀ j < M, g j = 46 ∨ (48 ≤ g j ∧ g j ≤ 57))
  (hdot : ∀ j < M, g j = 46 → (FP.rst g j).dotted = false) (j : Nat) (hjM : j < M) (x19 x20 : Value) (u : Nat → Value) (Q : Exit → Act → World → Prop) (h0 : g j = 48) (hn : (FP.rst g j).nd ≠ 0) (h : 48 ≤ g j) (h9 : ¬ (FP.rst g j).nm < 19) :
  Code.wp Tryz.prog readBody1 (Exit.then (fun a' w' => RInv s wc neg st M g a' w' ∧ rMu st M a' w' < rMu st M (rAt s neg st g j x19 x20 u) wc) Q) (rAt s neg st g j x19 x20 u) wc := by
 have hok := FP.rst_ok hgd j (Nat.le_of_lt hjM)
 have b1 := hok.nd
 have b2 := az hok.nm
 have b3 := hok.mant_lt
 have b4 := hok.lo
 have b5 := hok.hi
 have hb := hg j hjM
 have hd := hgd j hjM
 have hdt := hdot j hjM
 have hr : FP.rst g (j + 1) = { FP.rst g j with seen := true, nd := (FP.rst g j).nd + 1, tr := (FP.rst g j).tr } := by
  show FP.rstep (g j) (FP.rst g j) = _
  unfold FP.rstep
  rw [if_neg (by omega), if_neg (by omega), if_neg h9]; simp [h0]
 have p5 : (0 ≤ st + (j : Int)) = True := eT
 have q5 : (st + (j : Int) < (s.size : Int)) = True := eT
 have hx5 := bt_at s (st + j)
 rw [hb] at hx5
 have u95 : (((g j : Nat) : Int) == 95) = false := bF
 have t46 : (((g j : Nat) : Int) == 46) = false := bF
 have t48 : decide (48 ≤ ((g j : Nat) : Int)) = true := dT
 have t57 : decide (((g j : Nat) : Int) ≤ 57) = true := dT
 have e48 : (((g j : Nat) : Int) == 48) = true := bT
 have en : (((FP.rst g j).nd : Int) == 0) = false := bF
 have ne48 : (((g j : Nat) : Int) != 48) = false := by rw [bne_eq_false_iff_eq]; omega
 have tnm : decide (((FP.rst g j).nm : Int) < 19) = false := dF
 have hi : st + ((j + 1 : Nat) : Int) = st + (j : Int) + 1 := by omega
 have hb9 : (FP.rst g j).nm ≤ 19 := by rw [hok.nm]; omega
 have HR := az hr
 have HI := az hi
 have HM := az hjM
 have hj800 : (j : Int) ≤ 800 := by omega
 clear hr hi hM hg hgd hdot hb hd hok
 generalize hI : (fun a' w' => RInv s wc neg st M g a' w' ∧ rMu st M a' w' < rMu st M (rAt s neg st g j x19 x20 u) wc) = I
 unfold rAt rfr
 conv => arg 2; whnf
 go_wp2_with fail
 subst hI
 refine rnext s wc neg st M g HM.out ?_ rfl
 unfold rAt
 rw [HR.out, HI.out]
 rfl
theorem rround_taken1 (hM : st + M ≤ (s.size : Int)) (hsz : (s.size : Int) ≤ 800) (hst0 : 0 ≤ st) (hst1 : st ≤ 1) (hg : ∀ j < M, bt s (st + j) = (g j : Int)) (hgd : ∀ j < M, g j = 46 ∨ (48 ≤ g j ∧ g j ≤ 57))
  (hdot : ∀ j < M, g j = 46 → (FP.rst g j).dotted = false) (j : Nat) (hjM : j < M) (x19 x20 : Value) (u : Nat → Value) (Q : Exit → Act → World → Prop) (h0 : g j ≠ 48) (h : 48 ≤ g j) (h9 : (FP.rst g j).nm < 19) :
  Code.wp Tryz.prog readBody1 (Exit.then (fun a' w' => RInv s wc neg st M g a' w' ∧ rMu st M a' w' < rMu st M (rAt s neg st g j x19 x20 u) wc) Q) (rAt s neg st g j x19 x20 u) wc := by
 have hok := FP.rst_ok hgd j (Nat.le_of_lt hjM)
 have b1 := hok.nd
 have b2 := az hok.nm
 have b3 := hok.mant_lt
 have b4 := hok.lo
 have b5 := hok.hi
 have hb := hg j hjM
 have hd := hgd j hjM
 have hdt := hdot j hjM
 have hr : FP.rst g (j + 1) = { FP.rst g j with seen := true, nd := (FP.rst g j).nd + 1, mant := (FP.rst g j).mant * 10 + (g j - 48), nm := (FP.rst g j).nm + 1 } := by
  show FP.rstep (g j) (FP.rst g j) = _
  unfold FP.rstep
  rw [if_neg (by omega), if_neg (by omega), if_pos h9]
 have p5 : (0 ≤ st + (j : Int)) = True := eT
 have q5 : (st + (j : Int) < (s.size : Int)) = True := eT
 have hx5 := bt_at s (st + j)
 rw [hb] at hx5
 have u95 : (((g j : Nat) : Int) == 95) = false := bF
 have t46 : (((g j : Nat) : Int) == 46) = false := bF
 have t48 : decide (48 ≤ ((g j : Nat) : Int)) = true := dT
 have t57 : decide (((g j : Nat) : Int) ≤ 57) = true := dT
 have e48 : (((g j : Nat) : Int) == 48) = false := bF
 have ne48 : (((g j : Nat) : Int) != 48) = true := nT
 have tnm : decide (((FP.rst g j).nm : Int) < 19) = true := dT
 have WZ := az (show ((FP.rst g j).mant : Int) * 10 + (((g j : Nat) : Int) - 48) % 256 = (((FP.rst g j).mant * 10 + (g j - 48) : Nat) : Int) by omega)
 have h18 : (((FP.rst g j).mant : Nat) : Int) < 10 ^ 18 := by
  have := hok.mant
  have h18 : (FP.rst g j).mant < 10 ^ 18 := Nat.lt_of_lt_of_le this (Nat.pow_le_pow_right (by decide) (by omega))
  omega
 have hi : st + ((j + 1 : Nat) : Int) = st + (j : Int) + 1 := by omega
 have hb9 : (FP.rst g j).nm ≤ 19 := by rw [hok.nm]; omega
 have HR := az hr
 have HI := az hi
 have HM := az hjM
 have hj800 : (j : Int) ≤ 800 := by omega
 clear hr hi hM hg hgd hdot hb hd hok
 generalize hI : (fun a' w' => RInv s wc neg st M g a' w' ∧ rMu st M a' w' < rMu st M (rAt s neg st g j x19 x20 u) wc) = I
 unfold rAt rfr
 conv => arg 2; whnf
 go_wp2_with fail
 subst hI
 refine rnext s wc neg st M g HM.out ?_ rfl
 unfold rAt
 rw [HR.out, HI.out]
 rw [WZ.out]
 rfl
theorem rround_dropn1 (hM : st + M ≤ (s.size : Int)) (hsz : (s.size : Int) ≤ 800) (hst0 : 0 ≤ st) (hst1 : st ≤ 1) (hg : ∀ j < M, bt s (st + j) = (g j : Int)) (hgd : ∀ j < M, g j = 46 ∨ (48 ≤ g j ∧ g j ≤ 57))
  (hdot : ∀ j < M, g j = 46 → (FP.rst g j).dotted = false) (j : Nat) (hjM : j < M) (x19 x20 : Value) (u : Nat → Value) (Q : Exit → Act → World → Prop) (h0 : g j ≠ 48) (h : 48 ≤ g j) (h9 : ¬ (FP.rst g j).nm < 19) :
  Code.wp Tryz.prog readBody1 (Exit.then (fun a' w' => RInv s wc neg st M g a' w' ∧ rMu st M a' w' < rMu st M (rAt s neg st g j x19 x20 u) wc) Q) (rAt s neg st g j x19 x20 u) wc := by
 have hok := FP.rst_ok hgd j (Nat.le_of_lt hjM)
 have b1 := hok.nd
 have b2 := az hok.nm
 have b3 := hok.mant_lt
 have b4 := hok.lo
 have b5 := hok.hi
 have hb := hg j hjM
 have hd := hgd j hjM
 have hdt := hdot j hjM
 have hr : FP.rst g (j + 1) = { FP.rst g j with seen := true, nd := (FP.rst g j).nd + 1, tr := true } := by
  show FP.rstep (g j) (FP.rst g j) = _
  unfold FP.rstep
  rw [if_neg (by omega), if_neg (by omega), if_neg h9]; simp [h0]
 have p5 : (0 ≤ st + (j : Int)) = True := eT
 have q5 : (st + (j : Int) < (s.size : Int)) = True := eT
 have hx5 := bt_at s (st + j)
 rw [hb] at hx5
 have u95 : (((g j : Nat) : Int) == 95) = false := bF
 have t46 : (((g j : Nat) : Int) == 46) = false := bF
 have t48 : decide (48 ≤ ((g j : Nat) : Int)) = true := dT
 have t57 : decide (((g j : Nat) : Int) ≤ 57) = true := dT
 have e48 : (((g j : Nat) : Int) == 48) = false := bF
 have ne48 : (((g j : Nat) : Int) != 48) = true := nT
 have tnm : decide (((FP.rst g j).nm : Int) < 19) = false := dF
 have hi : st + ((j + 1 : Nat) : Int) = st + (j : Int) + 1 := by omega
 have hb9 : (FP.rst g j).nm ≤ 19 := by rw [hok.nm]; omega
 have HR := az hr
 have HI := az hi
 have HM := az hjM
 have hj800 : (j : Int) ≤ 800 := by omega
 clear hr hi hM hg hgd hdot hb hd hok
 generalize hI : (fun a' w' => RInv s wc neg st M g a' w' ∧ rMu st M a' w' < rMu st M (rAt s neg st g j x19 x20 u) wc) = I
 unfold rAt rfr
 conv => arg 2; whnf
 go_wp2_with fail
 subst hI
 refine rnext s wc neg st M g HM.out ?_ rfl
 unfold rAt
 rw [HR.out, HI.out]
 rfl
theorem rexit {Q : Exit → Act → World → Prop} (hexit : ∀ x19 x20 u, Q (.exit 1) (rAt s neg st g M x19 x20 u) wc) {a : Act} {w : World}
  (h : a = rAt s neg st g M (a.tmps.getD 19 undef) (a.tmps.getD 20 undef) (fun n => a.tmps.getD n undef)) (hw : w = wc) : Q (.exit 1) a w := by
 rw [hw, h]; exact hexit _ _ _
theorem rout_size (hM : st + M ≤ (s.size : Int)) (hsz : (s.size : Int) ≤ 800) (hst0 : 0 ≤ st) (hst1 : st ≤ 1) (he : st + M = (s.size : Int)) (x19 x20 : Value) (u : Nat → Value) (I : Act → World → Prop) (Q : Exit → Act → World → Prop)
  (hexit : ∀ x19 x20 u, Q (.exit 1) (rAt s neg st g M x19 x20 u) wc) : Code.wp Tryz.prog readBody1 (Exit.then I Q) (rAt s neg st g M x19 x20 u) wc := by
 have c1 : decide (st + (M : Int) < (s.size : Int)) = false := dF
 clear he
 have HX := az hexit
 clear hexit
 unfold rAt rfr
 conv => arg 2; whnf
 go_wp2_with fail
 refine rexit s wc neg st M g HX.out ?_ rfl
 rfl
theorem rout_exp (hM : st + M ≤ (s.size : Int)) (hsz : (s.size : Int) ≤ 800) (hst0 : 0 ≤ st) (hst1 : st ≤ 1) (he : st + M < (s.size : Int)) (c : Nat) (hc : bt s (st + M) = (c : Int)) (h69 : c = 69 ∨ c = 101) (x19 x20 : Value) (u : Nat → Value) (I : Act → World → Prop) (Q : Exit → Act → World → Prop)
  (hexit : ∀ x19 x20 u, Q (.exit 1) (rAt s neg st g M x19 x20 u) wc) : Code.wp Tryz.prog readBody1 (Exit.then I Q) (rAt s neg st g M x19 x20 u) wc := by
 have p5 : (0 ≤ st + (M : Int)) = True := eT
 have q5 : (st + (M : Int) < (s.size : Int)) = True := eT
 have hx5 := bt_at s (st + M)
 rw [hc] at hx5
 have u95 : ((c : Int) == 95) = false := bF
 have t46 : ((c : Int) == 46) = false := bF
 have t48 : decide (48 ≤ (c : Int)) = true := dT
 have t57 : decide ((c : Int) ≤ 57) = false := dF
 clear hc h69
 have HX := az hexit
 clear hexit
 unfold rAt rfr
 conv => arg 2; whnf
 go_wp2_with fail
 refine rexit s wc neg st M g HX.out ?_ rfl
 rfl
theorem rloop (hM : st + M ≤ (s.size : Int)) (hsz : (s.size : Int) ≤ 800) (hst0 : 0 ≤ st) (hst1 : st ≤ 1) (hg : ∀ j < M, bt s (st + j) = (g j : Int)) (hgd : ∀ j < M, g j = 46 ∨ (48 ≤ g j ∧ g j ≤ 57))
  (hdot : ∀ j < M, g j = 46 → (FP.rst g j).dotted = false) (hend : st + M = (s.size : Int) ∨ (st + M < (s.size : Int) ∧ (bt s (st + M) = 69 ∨ bt s (st + M) = 101)))
  (Q : Exit → Act → World → Prop) (hexit : ∀ x19 x20 u, Q (.exit 1) (rAt s neg st g M x19 x20 u) wc) (x19 x20 : Value) (u : Nat → Value) :
  Code.wp Tryz.prog (.loop readBody1) Q (rAt s neg st g 0 x19 x20 u) wc := by
 refine wp_loop (RInv s wc neg st M g) (rMu st M) ⟨x19, x20, u, 0, Nat.zero_le _, rfl, rfl⟩ ?_
 rintro a w ⟨y19, y20, v, j, hj, rfl, rfl⟩
 by_cases hlt : j < M
 ·rcases hgd j hlt with h | ⟨h1, h2⟩
  ·exact rround_dot s w neg st M g hM hsz hst0 hst1 hg hgd hdot j hlt y19 y20 v Q h
  ·by_cases h0 : g j = 48
   ·by_cases hn : (FP.rst g j).nd = 0
    ·exact rround_zero s w neg st M g hM hsz hst0 hst1 hg hgd hdot j hlt y19 y20 v Q h0 hn
    ·by_cases h9 : (FP.rst g j).nm < 19
     ·exact rround_taken0 s w neg st M g hM hsz hst0 hst1 hg hgd hdot j hlt y19 y20 v Q h0 hn h1 h9
     ·exact rround_dropn0 s w neg st M g hM hsz hst0 hst1 hg hgd hdot j hlt y19 y20 v Q h0 hn h1 h9
   ·by_cases h9 : (FP.rst g j).nm < 19
    ·exact rround_taken1 s w neg st M g hM hsz hst0 hst1 hg hgd hdot j hlt y19 y20 v Q h0 h1 h9
    ·exact rround_dropn1 s w neg st M g hM hsz hst0 hst1 hg hgd hdot j hlt y19 y20 v Q h0 h1 h9
 ·obtain rfl : j = M := by omega
  rcases hend with h | ⟨h, h1⟩
  ·exact rout_size s w neg st j g hM hsz hst0 hst1 h y19 y20 v _ Q hexit
  ·rcases h1 with h1 | h1
   ·exact rout_exp s w neg st j g hM hsz hst0 hst1 h 69 h1 (.inl rfl) y19 y20 v _ Q hexit
   ·exact rout_exp s w neg st j g hM hsz hst0 hst1 h 101 h1 (.inr rfl) y19 y20 v _ Q hexit
end
end Go.Proofs.YtbimfhaokgigkaaGreatDoor
