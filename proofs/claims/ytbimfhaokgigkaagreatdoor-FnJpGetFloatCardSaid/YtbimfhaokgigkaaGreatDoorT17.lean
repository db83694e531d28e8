/- Walks of functions of FnJpGetFloat (B15); conditions stand ahead of each theorem. -/
import Derived.Test.YtbimfhaokgigkaaGreatDoorT10
import Derived.Test.YtbimfhaokgigkaaGreatDoorT03
import Derived.StillTailTactics
import Derived.Deep.LoopGhost
import Derived.Handy
set_option linter.unusedVariables false
set_option linter.unusedSimpArgs false
set_option maxRecDepth 1000000
namespace Go.Proofs.YtbimfhaokgigkaaGreatDoor
open Go.RowKit Go.Proofs.YtbimfhaokgigkaaGreatDoorW.PrintWords Go.Proofs.YtbimfhaokgigkaaGreatDoorW.PrintLast
noncomputable def dB1 : Code := loopOf Tryz.f97 0
def dfr (v0 v1 v4 v5 v6 v7 v8 v9 : Value) (u : Nat → Value) : Array Value := #[v0, v1, u 2, u 3, v4, v5, v6, v7, v8, v9, u 10, u 11, u 12, u 13, u 14, u 15, u 16, u 17, u 18, u 19, u 20, u 21, u 22, u 23, u 24, u 25, u 26, u 27, u 28, u 29, u 30, u 31, u 32, u 33, u 34, u 35, u 36, u 37, u 38, u 39, u 40, u 41, u 42, u 43, u 44, u 45, u 46, u 47, u 48, u 49, u 50, u 51, u 52, u 53, u 54, u 55, u 56, u 57, u 58, u 59, u 60, u 61, u 62, u 63, u 64, u 65, u 66, u 67, u 68, u 69, u 70, u 71, u 72, u 73, u 74, u 75, u 76, u 77, u 78, u 79, u 80, u 81, u 82, u 83, u 84, u 85, u 86, u 87, u 88, u 89, u 90, u 91, u 92, u 93, u 94, u 95, u 96, u 97, u 98, u 99, u 100, u 101, u 102, u 103, u 104, u 105, u 106, u 107, u 108, u 109, u 110, u 111, u 112, u 113, u 114, u 115, u 116, u 117, u 118, u 119, u 120, u 121, u 122, u 123, u 124, u 125, u 126, u 127, u 128, u 129, u 130, u 131, u 132, u 133, u 134, u 135, u 136, u 137, u 138, u 139, u 140, u 141, u 142, u 143, u 144, u 145, u 146, u 147, u 148, u 149, u 150, u 151, u 152, u 153, u 154, u 155, u 156, u 157, u 158, u 159, u 160, u 161, u 162, u 163, u 164, u 165, u 166, u 167, u 168, u 169, u 170, u 171, u 172, u 173, u 174, u 175, u 176, u 177, u 178, u 179, u 180, u 181, u 182, u 183, u 184, u 185, u 186, u 187, u 188, u 189, u 190, u 191, u 192, u 193, u 194, u 195, u 196, u 197, u 198, u 199, u 200, u 201, u 202, u 203, u 204, u 205, u 206, u 207, u 208, u 209, u 210, u 211, u 212, u 213, u 214, u 215, u 216, u 217, u 218, u 219, u 220, u 221, u 222, u 223]
section
variable (s : ByteArray) (gb : Nat) (neg : Bool) (st : Int) (M : Nat) (g : Nat → Nat)
def dAt (j : Nat) (x8 x9 : Value) (u : Nat → Value) : Act :=
 ⟨dfr (.pointer (some ⟨gb, 0, none⟩)) (.string s) (.bool false) (.int .i64 (st + j)) (.bool (FP.rst g j).dotted) (.bool (FP.rst g j).seen) x8 x9 u, []⟩
def DInv (w0 : World) (f : Nat) (a : Act) (w : World) : Prop :=
 ∃ j x8 x9 u d, j ≤ M ∧ f = M - j ∧ a = dAt s gb st g j x8 x9 u ∧ Dec w gb d (FP.rst g j).nd (FP.rst g j).dp neg false ∧ FP.Lst d (FP.sds g j) ∧ Only gb w0 w
theorem dnext {w0 : World} {f j : Nat} {a : Act} {w : World} {d : Nat → Nat} (hj : j < M) (hf : f = M - j) (h : a = dAt s gb st g (j + 1) (a.tmps.getD 8 undef) (a.tmps.getD 9 undef) (fun n => a.tmps.getD n undef))
  (hD : Dec w gb d (FP.rst g (j + 1)).nd (FP.rst g (j + 1)).dp neg false) (hL : FP.Lst d (FP.sds g (j + 1))) (hO : Only gb w0 w) : ∃ f', f' < f ∧ DInv s gb neg st M g w0 f' a w :=
 ⟨M - (j + 1), by omega, j + 1, _, _, _, d, hj, rfl, h, hD, hL, hO⟩
theorem d1_dot (hM : st + M ≤ (s.size : Int)) (hsz : (s.size : Int) ≤ 800) (hst0 : 0 ≤ st) (hst1 : st ≤ 1) (hg : ∀ j < M, bt s (st + j) = (g j : Int)) (hgd : ∀ j < M, g j = 46 ∨ (48 ≤ g j ∧ g j ≤ 57))
  (hdot : ∀ j < M, g j = 46 → (FP.rst g j).dotted = false) (j : Nat) (hjM : j < M) {w0 w : World} {d : Nat → Nat} (hD : Dec w gb d (FP.rst g j).nd (FP.rst g j).dp neg false) (hL : FP.Lst d (FP.sds g j)) (hO : Only gb w0 w) (x8 x9 : Value) (u : Nat → Value) (Q : Exit → Act → World → Prop) (h : g j = 46) (f : Nat) (hf : f = M - j) :
  Code.wp Tryz.prog dB1 (Exit.then (fun a' w' => ∃ f', f' < f ∧ DInv s gb neg st M g w0 f' a' w') Q) (dAt s gb st g j x8 x9 u) w := by
 have hok := FP.rst_ok hgd j (Nat.le_of_lt hjM)
 have b1 : ((FP.rst g j).nd : Int) ≤ 799 := by have := hok.nd; omega
 have b1n : (FP.rst g j).nd < 800 := by omega
 have b1i : ((FP.rst g j).nd : Int) < 800 := by omega
 have b4 : -800 ≤ (FP.rst g j).dp := by have := hok.lo; omega
 have b5 : (FP.rst g j).dp ≤ 800 := by have := hok.hi; omega
 have hb := hg j hjM
 have hd := hgd j hjM
 have hdt := hdot j hjM
 have hsl := FP.sds_len (g := g) j
 have p5 : (0 ≤ st + (j : Int)) = True := eT
 have q5 : (st + (j : Int) < (s.size : Int)) = True := eT
 have hx5 := bt_at s (st + j)
 rw [hb] at hx5
 have u95 : (((g j : Nat) : Int) == 95) = false := bF
 have hi : st + ((j + 1 : Nat) : Int) = st + (j : Int) + 1 := by omega
 have c0 := hD.cnd
 have c1 := hD.cdp
 have f0 := hD.frozen 800
 have f1 := hD.frozen 801
 have hr : FP.rst g (j + 1) = { FP.rst g j with dotted := true, dp := ((FP.rst g j).nd : Int) } := by
  show FP.rstep (g j) (FP.rst g j) = _
  unfold FP.rstep
  rw [if_pos h]
 have hs : FP.sds g (j + 1) = FP.sds g j := by
  show (if g j = 46 then FP.sds g j else if g j = 48 ∧ FP.sds g j = [] then [] else FP.sds g j ++ [g j - 48]) = _
  rw [if_pos h]
 have t46 : (((g j : Nat) : Int) == 46) = true := bT
 have hdt := hdt h
 have HR := az hr
 have HS := az hs
 have HI := az hi
 have HM := az hjM
 have HD := az hD
 have HL := az hL
 have HO := az hO
 have hj800 : st + (j : Int) ≤ 800 := by omega
 have HSL := az hsl
 clear hr hs hi hM hg hgd hdot hb hd hok hD hL hO hsl
 clear h
 generalize hI : (fun a' w' => ∃ f', f' < f ∧ DInv s gb neg st M g w0 f' a' w') = I
 unfold dAt dfr
 conv => arg 2; whnf
 go_wp2_with fail
 subst hI
 refine dnext s gb neg st M g HM.out hf ?_ (d := d) ?_ (by rw [HS.out]; exact HL.out) (HO.out.set _ _)
 ·unfold dAt
  rw [HR.out, HI.out]
  rfl
 ·rw [HR.out]
  exact HD.out.set_dp _
theorem d1_zero (hM : st + M ≤ (s.size : Int)) (hsz : (s.size : Int) ≤ 800) (hst0 : 0 ≤ st) (hst1 : st ≤ 1) (hg : ∀ j < M, bt s (st + j) = (g j : Int)) (hgd : ∀ j < M, g j = 46 ∨ (48 ≤ g j ∧ g j ≤ 57))
  (hdot : ∀ j < M, g j = 46 → (FP.rst g j).dotted = false) (j : Nat) (hjM : j < M) {w0 w : World} {d : Nat → Nat} (hD : Dec w gb d (FP.rst g j).nd (FP.rst g j).dp neg false) (hL : FP.Lst d (FP.sds g j)) (hO : Only gb w0 w) (x8 x9 : Value) (u : Nat → Value) (Q : Exit → Act → World → Prop) (h : g j = 48) (hn : (FP.rst g j).nd = 0) (f : Nat) (hf : f = M - j) :
  Code.wp Tryz.prog dB1 (Exit.then (fun a' w' => ∃ f', f' < f ∧ DInv s gb neg st M g w0 f' a' w') Q) (dAt s gb st g j x8 x9 u) w := by
 have hok := FP.rst_ok hgd j (Nat.le_of_lt hjM)
 have b1 : ((FP.rst g j).nd : Int) ≤ 799 := by have := hok.nd; omega
 have b1n : (FP.rst g j).nd < 800 := by omega
 have b1i : ((FP.rst g j).nd : Int) < 800 := by omega
 have b4 : -800 ≤ (FP.rst g j).dp := by have := hok.lo; omega
 have b5 : (FP.rst g j).dp ≤ 800 := by have := hok.hi; omega
 have hb := hg j hjM
 have hd := hgd j hjM
 have hdt := hdot j hjM
 have hsl := FP.sds_len (g := g) j
 have p5 : (0 ≤ st + (j : Int)) = True := eT
 have q5 : (st + (j : Int) < (s.size : Int)) = True := eT
 have hx5 := bt_at s (st + j)
 rw [hb] at hx5
 have u95 : (((g j : Nat) : Int) == 95) = false := bF
 have hi : st + ((j + 1 : Nat) : Int) = st + (j : Int) + 1 := by omega
 have c0 := hD.cnd
 have c1 := hD.cdp
 have f0 := hD.frozen 800
 have f1 := hD.frozen 801
 have hr : FP.rst g (j + 1) = { FP.rst g j with seen := true, dp := (FP.rst g j).dp - 1 } := by
  show FP.rstep (g j) (FP.rst g j) = _
  unfold FP.rstep
  rw [if_neg (by omega), if_pos ⟨h, hn⟩]
 have hs : FP.sds g (j + 1) = [] := by
  show (if g j = 46 then FP.sds g j else if g j = 48 ∧ FP.sds g j = [] then [] else FP.sds g j ++ [g j - 48]) = _
  rw [if_neg (by omega), if_pos ⟨h, List.length_eq_zero_iff.mp (by rw [hsl]; exact hn)⟩]
 have t46 : (((g j : Nat) : Int) == 46) = false := bF
 have t48 : decide (48 ≤ ((g j : Nat) : Int)) = true := dT
 have t57 : decide (((g j : Nat) : Int) ≤ 57) = true := dT
 have e48 : (((g j : Nat) : Int) == 48) = true := bT
 have en : (((FP.rst g j).nd : Int) == 0) = true := bT
 have HR := az hr
 have HS := az hs
 have HI := az hi
 have HM := az hjM
 have HD := az hD
 have HL := az hL
 have HO := az hO
 have hj800 : st + (j : Int) ≤ 800 := by omega
 have HSL := az hsl
 clear hr hs hi hM hg hgd hdot hb hd hok hD hL hO hsl
 clear h hn
 generalize hI : (fun a' w' => ∃ f', f' < f ∧ DInv s gb neg st M g w0 f' a' w') = I
 unfold dAt dfr
 conv => arg 2; whnf
 go_wp2_with fail
 subst hI
 refine dnext s gb neg st M g HM.out hf ?_ (d := d) ?_ (by rw [HS.out]; exact fun i hi => by simp at hi) (HO.out.set _ _)
 ·unfold dAt
  rw [HR.out, HI.out]
  rfl
 ·rw [HR.out]
  exact HD.out.set_dp _
theorem rst_digit0 {g : Nat → Nat} {j : Nat} (h46 : g j ≠ 46) (hz : ¬ (g j = 48 ∧ (FP.rst g j).nd = 0)) : (FP.rst g (j + 1)).seen = true ∧ (FP.rst g (j + 1)).nd = (FP.rst g j).nd + 1 ∧ (FP.rst g (j + 1)).dp = (FP.rst g j).dp ∧ (FP.rst g (j + 1)).dotted = (FP.rst g j).dotted := by
 show (FP.rstep (g j) (FP.rst g j)).seen = true ∧ (FP.rstep (g j) (FP.rst g j)).nd = _ ∧ (FP.rstep (g j) (FP.rst g j)).dp = _ ∧ (FP.rstep (g j) (FP.rst g j)).dotted = _
 unfold FP.rstep
 rw [if_neg h46, if_neg hz]
 split <;> exact ⟨rfl, rfl, rfl, rfl⟩
theorem d1_digit0 (hM : st + M ≤ (s.size : Int)) (hsz : (s.size : Int) ≤ 800) (hst0 : 0 ≤ st) (hst1 : st ≤ 1) (hg : ∀ j < M, bt s (st + j) = (g j : Int)) (hgd : ∀ j < M, g j = 46 ∨ (48 ≤ g j ∧ g j ≤ 57))
  (hdot : ∀ j < M, g j = 46 → (FP.rst g j).dotted = false) (j : Nat) (hjM : j < M) {w0 w : World} {d : Nat → Nat} (hD : Dec w gb d (FP.rst g j).nd (FP.rst g j).dp neg false) (hL : FP.Lst d (FP.sds g j)) (hO : Only gb w0 w) (x8 x9 : Value) (u : Nat → Value) (Q : Exit → Act → World → Prop) (h48 : 48 ≤ g j) (h57 : g j ≤ 57) (h0 : g j = 48) (hn : (FP.rst g j).nd ≠ 0) (f : Nat) (hf : f = M - j) :
  Code.wp Tryz.prog dB1 (Exit.then (fun a' w' => ∃ f', f' < f ∧ DInv s gb neg st M g w0 f' a' w') Q) (dAt s gb st g j x8 x9 u) w := by
 have hok := FP.rst_ok hgd j (Nat.le_of_lt hjM)
 have b1 : ((FP.rst g j).nd : Int) ≤ 799 := by have := hok.nd; omega
 have b1n : (FP.rst g j).nd < 800 := by omega
 have b1i : ((FP.rst g j).nd : Int) < 800 := by omega
 have b4 : -800 ≤ (FP.rst g j).dp := by have := hok.lo; omega
 have b5 : (FP.rst g j).dp ≤ 800 := by have := hok.hi; omega
 have hb := hg j hjM
 have hd := hgd j hjM
 have hdt := hdot j hjM
 have hsl := FP.sds_len (g := g) j
 have p5 : (0 ≤ st + (j : Int)) = True := eT
 have q5 : (st + (j : Int) < (s.size : Int)) = True := eT
 have hx5 := bt_at s (st + j)
 rw [hb] at hx5
 have u95 : (((g j : Nat) : Int) == 95) = false := bF
 have hi : st + ((j + 1 : Nat) : Int) = st + (j : Int) + 1 := by omega
 have c0 := hD.cnd
 have c1 := hD.cdp
 have f0 := hD.frozen 800
 have f1 := hD.frozen 801
 have hr := rst_digit0 (g := g) (j := j) (by omega) (by omega)
 have hs : FP.sds g (j + 1) = FP.sds g j ++ [g j - 48] := by
  show (if g j = 46 then FP.sds g j else if g j = 48 ∧ FP.sds g j = [] then [] else FP.sds g j ++ [g j - 48]) = _
  rw [if_neg (by omega), if_neg (by intro ⟨_, e⟩; rw [e] at hsl; exact hn hsl.symm)]
 have t46 : (((g j : Nat) : Int) == 46) = false := bF
 have t48 : decide (48 ≤ ((g j : Nat) : Int)) = true := dT
 have t57 : decide (((g j : Nat) : Int) ≤ 57) = true := dT
 have e48 : (((g j : Nat) : Int) == 48) = true := bT
 have en : (((FP.rst g j).nd : Int) == 0) = false := bF
 have t8 : decide (((FP.rst g j).nd : Int) < 800) = true := dT
 have t8n : decide ((FP.rst g j).nd < 800) = true := dT
 have cn := hD.cell b1n
 have fn := hD.frozen (FP.rst g j).nd
 have HR := az hr
 have HS := az hs
 have HI := az hi
 have HM := az hjM
 have HD := az hD
 have HL := az hL
 have HO := az hO
 have hj800 : st + (j : Int) ≤ 800 := by omega
 have HSL := az hsl
 clear hr hs hi hM hg hgd hdot hb hd hok hD hL hO hsl
 have H48 := az h48
 clear h48 h57 h0 hn
 generalize hI : (fun a' w' => ∃ f', f' < f ∧ DInv s gb neg st M g w0 f' a' w') = I
 unfold dAt dfr
 conv => arg 2; whnf
 go_wp2_with fail
 refine wp_region_still_tail 11 (by kernel_rfl) (by kernel_rfl) ?_
 change wpStill Tryz.prog _ (w.drewN 1) (fun a' => wpList Tryz.prog _ _ _ a' (w.drewN 1)) _ _
 simp only [List.take_succ_cons, List.take_zero, List.drop_succ_cons, List.drop_zero]
 repeat still_step
 refine wpStill_nil ?_
 go_wp2_with fail
 subst hI
 refine dnext s gb neg st M g HM.out hf (d := upd d (FP.rst g j).nd (g j)) ?_ ?_ ?_ (((HO.out.drewN 1).set _ _).set _ _)
 ·unfold dAt
  rw [HR.out.2.2.2, HR.out.1, HI.out]
  rfl
 ·rw [HR.out.2.1, HR.out.2.2.1]
  exact ((HD.out.drewN 1).set_d b1n (g j)).set_nd ((FP.rst g j).nd + 1)
 ·rw [HS.out]
  intro i hi
  rw [List.length_append, List.length_singleton, HSL.out] at hi
  unfold upd
  by_cases c : i = (FP.rst g j).nd
  ·rw [if_pos c, c, ← HSL.out, List.getD_eq_getElem?_getD, List.getElem?_append_right (Nat.le_refl _), Nat.sub_self]
   show g j = g j - 48 + 48
   have := H48.out
   omega
  ·rw [if_neg c, HL.out i (by rw [HSL.out]; omega), List.getD_eq_getElem?_getD, List.getD_eq_getElem?_getD, List.getElem?_append_left (by rw [HSL.out]; omega)]
theorem d1_digit1 (hM : st + M ≤ (s.size : Int)) (hsz : (s.size : Int) ≤ 800) (hst0 : 0 ≤ st) (hst1 : st ≤ 1) (hg : ∀ j < M, bt s (st + j) = (g j : Int)) (hgd : ∀ j < M, g j = 46 ∨ (48 ≤ g j ∧ g j ≤ 57))
  (hdot : ∀ j < M, g j = 46 → (FP.rst g j).dotted = false) (j : Nat) (hjM : j < M) {w0 w : World} {d : Nat → Nat} (hD : Dec w gb d (FP.rst g j).nd (FP.rst g j).dp neg false) (hL : FP.Lst d (FP.sds g j)) (hO : Only gb w0 w) (x8 x9 : Value) (u : Nat → Value) (Q : Exit → Act → World → Prop) (h48 : 48 ≤ g j) (h57 : g j ≤ 57) (h0 : g j ≠ 48) (f : Nat) (hf : f = M - j) :
  Code.wp Tryz.prog dB1 (Exit.then (fun a' w' => ∃ f', f' < f ∧ DInv s gb neg st M g w0 f' a' w') Q) (dAt s gb st g j x8 x9 u) w := by
 have hok := FP.rst_ok hgd j (Nat.le_of_lt hjM)
 have b1 : ((FP.rst g j).nd : Int) ≤ 799 := by have := hok.nd; omega
 have b1n : (FP.rst g j).nd < 800 := by omega
 have b1i : ((FP.rst g j).nd : Int) < 800 := by omega
 have b4 : -800 ≤ (FP.rst g j).dp := by have := hok.lo; omega
 have b5 : (FP.rst g j).dp ≤ 800 := by have := hok.hi; omega
 have hb := hg j hjM
 have hd := hgd j hjM
 have hdt := hdot j hjM
 have hsl := FP.sds_len (g := g) j
 have p5 : (0 ≤ st + (j : Int)) = True := eT
 have q5 : (st + (j : Int) < (s.size : Int)) = True := eT
 have hx5 := bt_at s (st + j)
 rw [hb] at hx5
 have u95 : (((g j : Nat) : Int) == 95) = false := bF
 have hi : st + ((j + 1 : Nat) : Int) = st + (j : Int) + 1 := by omega
 have c0 := hD.cnd
 have c1 := hD.cdp
 have f0 := hD.frozen 800
 have f1 := hD.frozen 801
 have hr := rst_digit0 (g := g) (j := j) (by omega) (by omega)
 have hs : FP.sds g (j + 1) = FP.sds g j ++ [g j - 48] := by
  show (if g j = 46 then FP.sds g j else if g j = 48 ∧ FP.sds g j = [] then [] else FP.sds g j ++ [g j - 48]) = _
  rw [if_neg (by omega), if_neg (by omega)]
 have t46 : (((g j : Nat) : Int) == 46) = false := bF
 have t48 : decide (48 ≤ ((g j : Nat) : Int)) = true := dT
 have t57 : decide (((g j : Nat) : Int) ≤ 57) = true := dT
 have e48 : (((g j : Nat) : Int) == 48) = false := bF
 skip
 have t8 : decide (((FP.rst g j).nd : Int) < 800) = true := dT
 have t8n : decide ((FP.rst g j).nd < 800) = true := dT
 have cn := hD.cell b1n
 have fn := hD.frozen (FP.rst g j).nd
 have HR := az hr
 have HS := az hs
 have HI := az hi
 have HM := az hjM
 have HD := az hD
 have HL := az hL
 have HO := az hO
 have hj800 : st + (j : Int) ≤ 800 := by omega
 have HSL := az hsl
 clear hr hs hi hM hg hgd hdot hb hd hok hD hL hO hsl
 have H48 := az h48
 clear h48 h57 h0
 generalize hI : (fun a' w' => ∃ f', f' < f ∧ DInv s gb neg st M g w0 f' a' w') = I
 unfold dAt dfr
 conv => arg 2; whnf
 go_wp2_with fail
 refine wp_region_still_tail 11 (by kernel_rfl) (by kernel_rfl) ?_
 change wpStill Tryz.prog _ (w.drewN 1) (fun a' => wpList Tryz.prog _ _ _ a' (w.drewN 1)) _ _
 simp only [List.take_succ_cons, List.take_zero, List.drop_succ_cons, List.drop_zero]
 repeat still_step
 refine wpStill_nil ?_
 go_wp2_with fail
 subst hI
 refine dnext s gb neg st M g HM.out hf (d := upd d (FP.rst g j).nd (g j)) ?_ ?_ ?_ (((HO.out.drewN 1).set _ _).set _ _)
 ·unfold dAt
  rw [HR.out.2.2.2, HR.out.1, HI.out]
  rfl
 ·rw [HR.out.2.1, HR.out.2.2.1]
  exact ((HD.out.drewN 1).set_d b1n (g j)).set_nd ((FP.rst g j).nd + 1)
 ·rw [HS.out]
  intro i hi
  rw [List.length_append, List.length_singleton, HSL.out] at hi
  unfold upd
  by_cases c : i = (FP.rst g j).nd
  ·rw [if_pos c, c, ← HSL.out, List.getD_eq_getElem?_getD, List.getElem?_append_right (Nat.le_refl _), Nat.sub_self]
   show g j = g j - 48 + 48
   have := H48.out
   omega
  ·rw [if_neg c, HL.out i (by rw [HSL.out]; omega), List.getD_eq_getElem?_getD, List.getD_eq_getElem?_getD, List.getElem?_append_left (by rw [HSL.out]; omega)]
theorem d1_exit {w0 w : World} {Q : Exit → Act → World → Prop} (hexit : ∀ x8 x9 u d w', Dec w' gb d (FP.rst g M).nd (FP.rst g M).dp neg false → FP.Lst d (FP.sds g M) → Only gb w0 w' → Q (.exit 1) (dAt s gb st g M x8 x9 u) w') {a : Act} {d : Nat → Nat}
  (hD : Dec w gb d (FP.rst g M).nd (FP.rst g M).dp neg false) (hL : FP.Lst d (FP.sds g M)) (hO : Only gb w0 w) (h : a = dAt s gb st g M (a.tmps.getD 8 undef) (a.tmps.getD 9 undef) (fun n => a.tmps.getD n undef)) : Q (.exit 1) a w := by
 rw [h]; exact hexit _ _ _ d w hD hL hO
theorem d1_out_size (hsz : (s.size : Int) ≤ 800) (he : st + M = (s.size : Int)) (x8 x9 : Value) (u : Nat → Value) {w : World} (I : Act → World → Prop) (Q : Exit → Act → World → Prop)
  (hQ : ∀ a, a = dAt s gb st g M (a.tmps.getD 8 undef) (a.tmps.getD 9 undef) (fun n => a.tmps.getD n undef) → Q (.exit 1) a w) : Code.wp Tryz.prog dB1 (Exit.then I Q) (dAt s gb st g M x8 x9 u) w := by
 have c1 : decide (st + (M : Int) < (s.size : Int)) = false := dF
 clear he
 have HX := az hQ
 clear hQ
 unfold dAt dfr
 conv => arg 2; whnf
 go_wp2_with fail
 refine HX.out _ ?_
 rfl
theorem d1_out_exp (hsz : (s.size : Int) ≤ 800) (hst0 : 0 ≤ st) (he : st + M < (s.size : Int)) (c : Nat) (hc : bt s (st + M) = (c : Int)) (h69 : c = 69 ∨ c = 101) (x8 x9 : Value) (u : Nat → Value) {w : World} (I : Act → World → Prop) (Q : Exit → Act → World → Prop)
  (hQ : ∀ a, a = dAt s gb st g M (a.tmps.getD 8 undef) (a.tmps.getD 9 undef) (fun n => a.tmps.getD n undef) → Q (.exit 1) a w) : Code.wp Tryz.prog dB1 (Exit.then I Q) (dAt s gb st g M x8 x9 u) w := by
 have p5 : (0 ≤ st + (M : Int)) = True := eT
 have q5 : (st + (M : Int) < (s.size : Int)) = True := eT
 have hx5 := bt_at s (st + M)
 rw [hc] at hx5
 have u95 : ((c : Int) == 95) = false := bF
 have t46 : ((c : Int) == 46) = false := bF
 have t48 : decide (48 ≤ (c : Int)) = true := dT
 have t57 : decide ((c : Int) ≤ 57) = false := dF
 clear hc h69
 have HX := az hQ
 clear hQ
 unfold dAt dfr
 conv => arg 2; whnf
 go_wp2_with fail
 refine HX.out _ ?_
 rfl
theorem d1_loop (hM : st + M ≤ (s.size : Int)) (hsz : (s.size : Int) ≤ 800) (hst0 : 0 ≤ st) (hst1 : st ≤ 1) (hg : ∀ j < M, bt s (st + j) = (g j : Int)) (hgd : ∀ j < M, g j = 46 ∨ (48 ≤ g j ∧ g j ≤ 57))
  (hdot : ∀ j < M, g j = 46 → (FP.rst g j).dotted = false) (hend : st + M = (s.size : Int) ∨ (st + M < (s.size : Int) ∧ (bt s (st + M) = 69 ∨ bt s (st + M) = 101))) {w0 : World} {d0 : Nat → Nat} (h : Dec w0 gb d0 0 0 neg false)
  {Q : Exit → Act → World → Prop} (hexit : ∀ x8 x9 u d w', Dec w' gb d (FP.rst g M).nd (FP.rst g M).dp neg false → FP.Lst d (FP.sds g M) → Only gb w0 w' → Q (.exit 1) (dAt s gb st g M x8 x9 u) w')
  {c : Code} {a : Act} (hc : dB1 = c) (ha : a = ⟨dfr (.pointer (some ⟨gb, 0, none⟩)) (.string s) (.bool false) (.int .i64 st) (.bool false) (.bool false) (a.tmps.getD 8 undef) (a.tmps.getD 9 undef) (fun n => a.tmps.getD n undef), []⟩) :
  Code.wp Tryz.prog (.loop c) Q a w0 := by
 subst hc
 refine wp_loop_ghost (DInv s gb neg st M g w0) M ⟨0, a.tmps.getD 8 undef, a.tmps.getD 9 undef, (fun n => a.tmps.getD n undef), d0, Nat.zero_le _, rfl, ?_, h, (fun i hi => by simp [FP.sds] at hi), Only.refl _ _⟩ ?_
 ·unfold dAt
  rw [show st + ((0 : Nat) : Int) = st by omega]
  exact ha
 rintro f a w ⟨j, x8, x9, u, d, hj, hf, rfl, hD, hL, hO⟩
 by_cases hlt : j < M
 ·rcases hgd j hlt with h | ⟨h1, h2⟩
  ·exact d1_dot s gb neg st M g hM hsz hst0 hst1 hg hgd hdot j hlt hD hL hO x8 x9 u Q h f hf
  ·by_cases h0 : g j = 48
   ·by_cases hn : (FP.rst g j).nd = 0
    ·exact d1_zero s gb neg st M g hM hsz hst0 hst1 hg hgd hdot j hlt hD hL hO x8 x9 u Q h0 hn f hf
    ·exact d1_digit0 s gb neg st M g hM hsz hst0 hst1 hg hgd hdot j hlt hD hL hO x8 x9 u Q h1 h2 h0 hn f hf
   ·exact d1_digit1 s gb neg st M g hM hsz hst0 hst1 hg hgd hdot j hlt hD hL hO x8 x9 u Q h1 h2 h0 f hf
 ·obtain rfl : j = M := by omega
  have out := fun a h => d1_exit s gb neg st j g hexit hD hL hO (a := a) h
  rcases hend with h | ⟨h, h1⟩
  ·exact d1_out_size s gb st j g hsz h x8 x9 u _ Q out
  ·rcases h1 with h1 | h1
   ·exact d1_out_exp s gb st j g hsz hst0 h 69 h1 (.inl rfl) x8 x9 u _ Q out
   ·exact d1_out_exp s gb st j g hsz hst0 h 101 h1 (.inr rfl) x8 x9 u _ Q out
end
end Go.Proofs.YtbimfhaokgigkaaGreatDoor
