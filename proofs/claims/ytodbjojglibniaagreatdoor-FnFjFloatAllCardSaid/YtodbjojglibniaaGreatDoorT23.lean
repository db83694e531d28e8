/- Walks of functions of FnFjFloatAll (C6); conditions stand ahead of each theorem. -/
import Derived.Test.YtodbjojglibniaaGreatDoorT22
import Derived.Test.YtodbjojglibniaaGreatDoorT03
import Derived.Deep.LoopGhost
set_option linter.unusedVariables false
set_option linter.unusedSimpArgs false
namespace Go.Proofs.YtodbjojglibniaaGreatDoor
open Go.RowKit Go.Proofs.YtodbjojglibniaaGreatDoorW.PrintWords Go.Proofs.YtodbjojglibniaaGreatDoorW.PrintLast

noncomputable def ffB1 : Code := loopOf Tryz.f27 0
noncomputable def ffB2 : Code := loopOf Tryz.f27 1
noncomputable def ffB3 : Code := loopOf Tryz.f27 2
noncomputable def ffT0 : Code := (Tryz.f27.body.bind (behind 0)).getD .skip
set_option maxRecDepth 1000000 in
def ffr2 (v0 v2 v3 v4 v5 v6 v7 v11 v12 v15 v16 v17 : Value) (u : Nat → Value) : Array Value := #[v0, u 1, v2, v3, v4, v5, v6, v7, u 8, u 9, u 10, v11, v12, u 13, u 14, v15, v16, v17, u 18, u 19, u 20, u 21, u 22, u 23, u 24, u 25, u 26, u 27, u 28, u 29, u 30, u 31, u 32, u 33, u 34, u 35, u 36, u 37, u 38, u 39, u 40, u 41, u 42, u 43, u 44, u 45, u 46, u 47, u 48, u 49, u 50, u 51, u 52, u 53, u 54, u 55, u 56, u 57, u 58, u 59, u 60, u 61, u 62, u 63, u 64, u 65, u 66, u 67, u 68, u 69, u 70, u 71, u 72, u 73, u 74, u 75, u 76, u 77, u 78, u 79, u 80, u 81, u 82, u 83, u 84, u 85, u 86, u 87, u 88, u 89, u 90, u 91, u 92, u 93, u 94, u 95, u 96, u 97, u 98, u 99, u 100, u 101, u 102, u 103, u 104, u 105, u 106, u 107, u 108, u 109, u 110, u 111, u 112, u 113, u 114, u 115, u 116, u 117, u 118, u 119, u 120, u 121, u 122, u 123, u 124, u 125, u 126, u 127, u 128, u 129, u 130, u 131, u 132, u 133, u 134, u 135, u 136, u 137, u 138, u 139, u 140, u 141, u 142, u 143, u 144, u 145, u 146, u 147, u 148, u 149, u 150, u 151, u 152, u 153, u 154, u 155, u 156, u 157, u 158, u 159, u 160, u 161, u 162, u 163, u 164, u 165, u 166, u 167, u 168, u 169, u 170, u 171, u 172, u 173, u 174, u 175, u 176, u 177, u 178, u 179, u 180, u 181, u 182, u 183, u 184, u 185, u 186, u 187, u 188, u 189, u 190, u 191, u 192, u 193, u 194, u 195, u 196, u 197, u 198, u 199, u 200, u 201, u 202, u 203, u 204, u 205, u 206, u 207, u 208, u 209, u 210, u 211, u 212, u 213, u 214, u 215, u 216, u 217, u 218, u 219, u 220, u 221, u 222, u 223, u 224, u 225, u 226, u 227, u 228, u 229, u 230, u 231, u 232, u 233, u 234, u 235, u 236, u 237, u 238, u 239, u 240, u 241, u 242, u 243, u 244, u 245, u 246, u 247, u 248, u 249, u 250, u 251, u 252, u 253, u 254, u 255, u 256, u 257, u 258, u 259, u 260, u 261, u 262, u 263, u 264, u 265, u 266, u 267, u 268, u 269, u 270, u 271, u 272, u 273, u 274, u 275, u 276, u 277, u 278, u 279, u 280, u 281, u 282, u 283, u 284, u 285, u 286, u 287, u 288, u 289, u 290, u 291, u 292, u 293, u 294, u 295, u 296, u 297, u 298, u 299, u 300, u 301, u 302, u 303, u 304, u 305, u 306, u 307, u 308, u 309, u 310, u 311, u 312, u 313, u 314, u 315, u 316, u 317, u 318, u 319, u 320, u 321, u 322, u 323, u 324, u 325]

/-- ParseFloat's answer, wherever it is asked. -/
structure Slow (s : ByteArray) (neg : Bool) (X : Rat) (w : World) (R : Ending → World → Prop) : Prop where
  pf : Calls Tryz.prog 42 #[.string s, .int .i64 64] w (PfPost w neg X)
  fin : ∀ r w', FP.Near X r → Below w.heap.size w w' → R (.returned (.tuple #[.float .f64 (FP.wordOf neg r), .nilIface])) w'
theorem inf_true : FP.wordOf true FP.INF = 18442240474082181120 := by decide +kernel
theorem inf_false : FP.wordOf false FP.INF = 9218868437227405312 := by decide +kernel

theorem isInf_calls (neg : Bool) (w : World) : Calls Tryz.prog 43 #[.float .f64 (FP.wordOf neg FP.INF), .int .i64 0] w fun e w' => e = .returned (.bool true) ∧ w' = w := by
  cases neg with
  | true => rw [inf_true]; exact isInf_true w
  | false => rw [inf_false]; exact isInf_false w
section
variable {s : ByteArray} {neg : Bool} {X : Rat} {w : World} (v7 v11 v12 v15 v16 v17 : Value)

set_option maxRecDepth 1000000 in
set_option maxHeartbeats 1000000 in
theorem ffa_step (i D c : Nat) (hi : i < s.size) (hsz : s.size ≤ 800) (hb : bt s (i : Int) = (c : Int)) (h48 : 48 ≤ c) (h57 : c ≤ 57) (hD : D < 10 ^ 18) (h18 : i + 1 ≤ 18)
    (u : Nat → Value) (I : Act → World → Prop) (Q : Exit → Act → World → Prop) (hI : ∀ a, a = ⟨ffr2 (.string s) (.float .f64 0) .nilIface (.int .u64 ((i : Int) + 1)) (.bool neg) (.int .u64 ((D * 10 + (c - 48) : Nat) : Int)) v7 v11 v12 v15 v16 v17 (fun n => a.tmps.getD n undef), []⟩ → I a w) :
    Code.wp Tryz.prog ffB1 (Exit.then I Q) ⟨ffr2 (.string s) (.float .f64 0) .nilIface (.int .u64 (i : Int)) (.bool neg) (.int .u64 (D : Int)) v7 v11 v12 v15 v16 v17 u, []⟩ w := by
  have p1 : (i < s.size) = True := eq_true hi
  have hx : ∀ h : i < s.size, ((s[i]'h).toNat : Int) = bt s (i : Int) := fun h => bt_at s (i : Int) h
  rw [hb] at hx
  have hi8 : (i : Int) < 800 := by omega
  have t1 : decide ((i : Int) < (s.size : Int)) = true := decide_eq_true (by omega)
  have t1n : decide (i < s.size) = true := decide_eq_true hi
  have hs8 : (s.size : Int) ≤ 800 := by omega
  have t48 : decide (48 ≤ (c : Int)) = true := decide_eq_true (by omega)
  have t48n : decide (48 ≤ c) = true := decide_eq_true h48
  have t57 : decide ((c : Int) ≤ 57) = true := decide_eq_true (by omega)
  have t57n : decide (c ≤ 57) = true := decide_eq_true h57
  have q0 : 48 ≤ (c : Int) := by omega
  have q1 : (c : Int) ≤ 57 := by omega
  have hD9 : (D : Int) ≤ 1000000000000000000 := by omega
  have t18 : decide (18 < (i : Int) + 1) = false := decide_eq_false (by omega)
  have h18i : (i : Int) ≤ 17 := by omega
  have HI := Aside0.mk hI
  have HE := Aside0.mk (show (D : Int) * 10 + ((c : Int) - 48) = ((D * 10 + (c - 48) : Nat) : Int) by omega)
  clear hI hb hD h18
  unfold ffr2
  conv => arg 2; whnf
  go_wp2_with fail
  refine HI.out _ ?_
  rw [← HE.out]
  rfl
set_option maxRecDepth 1000000 in
set_option maxHeartbeats 1000000 in
theorem ffa_slow (i D c : Nat) (hi : i < s.size) (hsz : s.size ≤ 800) (hb : bt s (i : Int) = (c : Int)) (h48 : 48 ≤ c) (h57 : c ≤ 57) (hD : D < 10 ^ 18) (h18 : i = 18) {R : Ending → World → Prop} (hS : Slow s neg X w R)
    (u : Nat → Value) (I : Act → World → Prop) (Q : Exit → Act → World → Prop) (hQ : ∀ a w', Q .ret a w' = bodyPost Tryz.prog Tryz.f27 R .ret a w') :
    Code.wp Tryz.prog ffB1 (Exit.then I Q) ⟨ffr2 (.string s) (.float .f64 0) .nilIface (.int .u64 (i : Int)) (.bool neg) (.int .u64 (D : Int)) v7 v11 v12 v15 v16 v17 u, []⟩ w := by
  have p1 : (i < s.size) = True := eq_true hi
  have hx : ∀ h : i < s.size, ((s[i]'h).toNat : Int) = bt s (i : Int) := fun h => bt_at s (i : Int) h
  rw [hb] at hx
  have hi8 : (i : Int) < 800 := by omega
  have t1 : decide ((i : Int) < (s.size : Int)) = true := decide_eq_true (by omega)
  have t1n : decide (i < s.size) = true := decide_eq_true hi
  have hs8 : (s.size : Int) ≤ 800 := by omega
  have t48 : decide (48 ≤ (c : Int)) = true := decide_eq_true (by omega)
  have t48n : decide (48 ≤ c) = true := decide_eq_true h48
  have t57 : decide ((c : Int) ≤ 57) = true := decide_eq_true (by omega)
  have t57n : decide (c ≤ 57) = true := decide_eq_true h57
  have q0 : 48 ≤ (c : Int) := by omega
  have q1 : (c : Int) ≤ 57 := by omega
  have hD9 : (D : Int) ≤ 1000000000000000000 := by omega
  subst h18
  have S := Aside0.mk hS
  have HQ := Aside0.mk hQ
  clear hS hb hD hQ
  unfold ffr2
  conv => arg 2; whnf
  go_wp2_with fail
  refine S.out.pf.mono ?_
  rintro e w1 ⟨r, h1, (⟨h2, rfl⟩ | ⟨h2, t, x, rfl⟩), h3⟩
  · have H1 := Aside0.mk h1
    have H3 := Aside0.mk h3
    generalize hr : FP.wordOf neg r = a1
    have HA := Aside0.mk hr
    clear h1 h2 h3 hr
    go_wp2_with fail
    rw [HQ.out]
    go_returns
    have := S.out.fin r w1 H1.out H3.out
    rw [HA.out] at this
    exact this
  · have H1 := Aside0.mk h1
    have H3 := Aside0.mk h3
    subst h2
    have II := Aside0.mk (isInf_calls neg w1)
    generalize hr : FP.wordOf neg FP.INF = a1 at II
    have HA := Aside0.mk hr
    clear h1 h3 hr
    go_wp2_with fail
    go_call II.out as e w2 ⟨rfl, rfl⟩
    go_wp2_with fail
    rw [HQ.out]
    go_returns
    have := S.out.fin FP.INF _ H1.out H3.out
    rw [HA.out] at this
    exact this

set_option maxRecDepth 1000000 in
set_option maxHeartbeats 1000000 in
theorem ffa_end (i D : Nat) (hi : i = s.size) (hsz : s.size ≤ 800)
    (u : Nat → Value) (I : Act → World → Prop) (Q : Exit → Act → World → Prop) (hX : ∀ a, a = ⟨ffr2 (.string s) (.float .f64 0) .nilIface (.int .u64 (i : Int)) (.bool neg) (.int .u64 (D : Int)) v7 v11 v12 v15 v16 v17 (fun n => a.tmps.getD n undef), []⟩ → Q (.exit 0) a w) :
    Code.wp Tryz.prog ffB1 (Exit.then I Q) ⟨ffr2 (.string s) (.float .f64 0) .nilIface (.int .u64 (i : Int)) (.bool neg) (.int .u64 (D : Int)) v7 v11 v12 v15 v16 v17 u, []⟩ w := by
  have hs8 : (s.size : Int) ≤ 800 := by omega
  have t1 : decide ((i : Int) < (s.size : Int)) = false := decide_eq_false (by omega)
  have t1n : decide (i < s.size) = false := decide_eq_false (by omega)
  have HX := Aside0.mk hX
  clear hX hi
  unfold ffr2
  conv => arg 2; whnf
  go_wp2_with fail
  refine HX.out _ ?_
  rfl
set_option maxRecDepth 1000000 in
set_option maxHeartbeats 1000000 in
theorem ffa_dot (i D c : Nat) (hi : i < s.size) (hsz : s.size ≤ 800) (hb : bt s (i : Int) = (c : Int)) (hc : c = 46)
    (u : Nat → Value) (I : Act → World → Prop) (Q : Exit → Act → World → Prop) (hX : ∀ a, a = ⟨ffr2 (.string s) (.float .f64 0) .nilIface (.int .u64 (i : Int)) (.bool neg) (.int .u64 (D : Int)) v7 v11 v12 v15 v16 v17 (fun n => a.tmps.getD n undef), []⟩ → Q (.exit 0) a w) :
    Code.wp Tryz.prog ffB1 (Exit.then I Q) ⟨ffr2 (.string s) (.float .f64 0) .nilIface (.int .u64 (i : Int)) (.bool neg) (.int .u64 (D : Int)) v7 v11 v12 v15 v16 v17 u, []⟩ w := by
  have p1 : (i < s.size) = True := eq_true hi
  have hx : ∀ h : i < s.size, ((s[i]'h).toNat : Int) = bt s (i : Int) := fun h => bt_at s (i : Int) h
  rw [hb] at hx
  have hi8 : (i : Int) < 800 := by omega
  have t1 : decide ((i : Int) < (s.size : Int)) = true := decide_eq_true (by omega)
  have t1n : decide (i < s.size) = true := decide_eq_true hi
  have hs8 : (s.size : Int) ≤ 800 := by omega
  have t48 : decide (48 ≤ (c : Int)) = false := decide_eq_false (by omega)
  have t48n : decide (48 ≤ c) = false := decide_eq_false (by omega)
  have HX := Aside0.mk hX
  clear hX hb hc
  unfold ffr2
  conv => arg 2; whnf
  go_wp2_with fail
  refine HX.out _ ?_
  rfl
set_option maxRecDepth 1000000 in
set_option maxHeartbeats 1000000 in
theorem ffa_exp (i D c : Nat) (hi : i < s.size) (hsz : s.size ≤ 800) (hb : bt s (i : Int) = (c : Int)) (hc : c = 69 ∨ c = 101)
    (u : Nat → Value) (I : Act → World → Prop) (Q : Exit → Act → World → Prop) (hX : ∀ a, a = ⟨ffr2 (.string s) (.float .f64 0) .nilIface (.int .u64 (i : Int)) (.bool neg) (.int .u64 (D : Int)) v7 v11 v12 v15 v16 v17 (fun n => a.tmps.getD n undef), []⟩ → Q (.exit 0) a w) :
    Code.wp Tryz.prog ffB1 (Exit.then I Q) ⟨ffr2 (.string s) (.float .f64 0) .nilIface (.int .u64 (i : Int)) (.bool neg) (.int .u64 (D : Int)) v7 v11 v12 v15 v16 v17 u, []⟩ w := by
  have p1 : (i < s.size) = True := eq_true hi
  have hx : ∀ h : i < s.size, ((s[i]'h).toNat : Int) = bt s (i : Int) := fun h => bt_at s (i : Int) h
  rw [hb] at hx
  have hi8 : (i : Int) < 800 := by omega
  have t1 : decide ((i : Int) < (s.size : Int)) = true := decide_eq_true (by omega)
  have t1n : decide (i < s.size) = true := decide_eq_true hi
  have hs8 : (s.size : Int) ≤ 800 := by omega
  have t48 : decide (48 ≤ (c : Int)) = true := decide_eq_true (by omega)
  have t48n : decide (48 ≤ c) = true := decide_eq_true (by omega)
  have t57 : decide ((c : Int) ≤ 57) = false := decide_eq_false (by omega)
  have t57n : decide (c ≤ 57) = false := decide_eq_false (by omega)
  have HX := Aside0.mk hX
  clear hX hb hc
  unfold ffr2
  conv => arg 2; whnf
  go_wp2_with fail
  refine HX.out _ ?_
  rfl
set_option maxRecDepth 1000000 in
set_option maxHeartbeats 1000000 in
theorem ffb_step (i D c jj : Nat) (hi : i < s.size) (hsz : s.size ≤ 800) (hb : bt s (i : Int) = (c : Int)) (h48 : 48 ≤ c) (h57 : c ≤ 57) (hD : D < 10 ^ 18) (hj : jj ≤ i) (h17 : i + 1 < jj + 17)
    (u : Nat → Value) (I : Act → World → Prop) (Q : Exit → Act → World → Prop) (hI : ∀ a, a = ⟨ffr2 (.string s) (.float .f64 0) .nilIface (.int .u64 ((i : Int) + 1)) (.bool neg) (.int .u64 ((D * 10 + (c - 48) : Nat) : Int)) (.int .u64 (jj : Int)) v11 v12 v15 v16 v17 (fun n => a.tmps.getD n undef), []⟩ → I a w) :
    Code.wp Tryz.prog ffB2 (Exit.then I Q) ⟨ffr2 (.string s) (.float .f64 0) .nilIface (.int .u64 (i : Int)) (.bool neg) (.int .u64 (D : Int)) (.int .u64 (jj : Int)) v11 v12 v15 v16 v17 u, []⟩ w := by
  have p1 : (i < s.size) = True := eq_true hi
  have hx : ∀ h : i < s.size, ((s[i]'h).toNat : Int) = bt s (i : Int) := fun h => bt_at s (i : Int) h
  rw [hb] at hx
  have hi8 : (i : Int) < 800 := by omega
  have t1 : decide ((i : Int) < (s.size : Int)) = true := decide_eq_true (by omega)
  have t1n : decide (i < s.size) = true := decide_eq_true hi
  have hs8 : (s.size : Int) ≤ 800 := by omega
  have t48 : decide (48 ≤ (c : Int)) = true := decide_eq_true (by omega)
  have t48n : decide (48 ≤ c) = true := decide_eq_true h48
  have t57 : decide ((c : Int) ≤ 57) = true := decide_eq_true (by omega)
  have t57n : decide (c ≤ 57) = true := decide_eq_true h57
  have q0 : 48 ≤ (c : Int) := by omega
  have q1 : (c : Int) ≤ 57 := by omega
  have hjj : (jj : Int) ≤ 800 := by omega
  have hji : (jj : Int) ≤ (i : Int) := by omega
  have hD9 : (D : Int) ≤ 1000000000000000000 := by omega
  have t17 : decide (17 ≤ (i : Int) + 1 - (jj : Int)) = false := decide_eq_false (by omega)
  have HI := Aside0.mk hI
  have HE := Aside0.mk (show (D : Int) * 10 + ((c : Int) - 48) = ((D * 10 + (c - 48) : Nat) : Int) by omega)
  clear hI hb hD h17
  unfold ffr2
  conv => arg 2; whnf
  go_wp2_with fail
  refine HI.out _ ?_
  rw [← HE.out]
  rfl
set_option maxRecDepth 1000000 in
set_option maxHeartbeats 1000000 in
theorem ffb_slow (i D c jj : Nat) (hi : i < s.size) (hsz : s.size ≤ 800) (hb : bt s (i : Int) = (c : Int)) (h48 : 48 ≤ c) (h57 : c ≤ 57) (hD : D < 10 ^ 18) (hj : jj ≤ i) (h17 : jj + 17 ≤ i + 1) {R : Ending → World → Prop} (hS : Slow s neg X w R)
    (u : Nat → Value) (I : Act → World → Prop) (Q : Exit → Act → World → Prop) (hQ : ∀ a w', Q .ret a w' = bodyPost Tryz.prog Tryz.f27 R .ret a w') :
    Code.wp Tryz.prog ffB2 (Exit.then I Q) ⟨ffr2 (.string s) (.float .f64 0) .nilIface (.int .u64 (i : Int)) (.bool neg) (.int .u64 (D : Int)) (.int .u64 (jj : Int)) v11 v12 v15 v16 v17 u, []⟩ w := by
  have p1 : (i < s.size) = True := eq_true hi
  have hx : ∀ h : i < s.size, ((s[i]'h).toNat : Int) = bt s (i : Int) := fun h => bt_at s (i : Int) h
  rw [hb] at hx
  have hi8 : (i : Int) < 800 := by omega
  have t1 : decide ((i : Int) < (s.size : Int)) = true := decide_eq_true (by omega)
  have t1n : decide (i < s.size) = true := decide_eq_true hi
  have hs8 : (s.size : Int) ≤ 800 := by omega
  have t48 : decide (48 ≤ (c : Int)) = true := decide_eq_true (by omega)
  have t48n : decide (48 ≤ c) = true := decide_eq_true h48
  have t57 : decide ((c : Int) ≤ 57) = true := decide_eq_true (by omega)
  have t57n : decide (c ≤ 57) = true := decide_eq_true h57
  have q0 : 48 ≤ (c : Int) := by omega
  have q1 : (c : Int) ≤ 57 := by omega
  have hjj : (jj : Int) ≤ 800 := by omega
  have hji : (jj : Int) ≤ (i : Int) := by omega
  have hD9 : (D : Int) ≤ 1000000000000000000 := by omega
  have t17 : decide (17 ≤ (i : Int) + 1 - (jj : Int)) = true := decide_eq_true (by omega)
  have S := Aside0.mk hS
  have HQ := Aside0.mk hQ
  clear hS hb hD hQ h17
  unfold ffr2
  conv => arg 2; whnf
  go_wp2_with fail
  refine S.out.pf.mono ?_
  rintro e w1 ⟨r, h1, (⟨h2, rfl⟩ | ⟨h2, t, x, rfl⟩), h3⟩
  · have H1 := Aside0.mk h1
    have H3 := Aside0.mk h3
    generalize hr : FP.wordOf neg r = a1
    have HA := Aside0.mk hr
    clear h1 h2 h3 hr
    go_wp2_with fail
    rw [HQ.out]
    go_returns
    have := S.out.fin r w1 H1.out H3.out
    rw [HA.out] at this
    exact this
  · have H1 := Aside0.mk h1
    have H3 := Aside0.mk h3
    subst h2
    have II := Aside0.mk (isInf_calls neg w1)
    generalize hr : FP.wordOf neg FP.INF = a1 at II
    have HA := Aside0.mk hr
    clear h1 h3 hr
    go_wp2_with fail
    go_call II.out as e w2 ⟨rfl, rfl⟩
    go_wp2_with fail
    rw [HQ.out]
    go_returns
    have := S.out.fin FP.INF _ H1.out H3.out
    rw [HA.out] at this
    exact this

set_option maxRecDepth 1000000 in
set_option maxHeartbeats 1000000 in
theorem ffb_end (i D jj : Nat) (hi : i = s.size) (hsz : s.size ≤ 800)
    (u : Nat → Value) (I : Act → World → Prop) (Q : Exit → Act → World → Prop) (hX : ∀ a, a = ⟨ffr2 (.string s) (.float .f64 0) .nilIface (.int .u64 (i : Int)) (.bool neg) (.int .u64 (D : Int)) (.int .u64 (jj : Int)) v11 v12 v15 v16 v17 (fun n => a.tmps.getD n undef), []⟩ → Q (.exit 2) a w) :
    Code.wp Tryz.prog ffB2 (Exit.then I Q) ⟨ffr2 (.string s) (.float .f64 0) .nilIface (.int .u64 (i : Int)) (.bool neg) (.int .u64 (D : Int)) (.int .u64 (jj : Int)) v11 v12 v15 v16 v17 u, []⟩ w := by
  have hs8 : (s.size : Int) ≤ 800 := by omega
  have t1 : decide ((i : Int) < (s.size : Int)) = false := decide_eq_false (by omega)
  have t1n : decide (i < s.size) = false := decide_eq_false (by omega)
  have HX := Aside0.mk hX
  clear hX hi
  unfold ffr2
  conv => arg 2; whnf
  go_wp2_with fail
  refine HX.out _ ?_
  rfl
set_option maxRecDepth 1000000 in
set_option maxHeartbeats 1000000 in
theorem ffb_exp (i D c jj : Nat) (hi : i < s.size) (hsz : s.size ≤ 800) (hb : bt s (i : Int) = (c : Int)) (hc : c = 69 ∨ c = 101)
    (u : Nat → Value) (I : Act → World → Prop) (Q : Exit → Act → World → Prop) (hX : ∀ a, a = ⟨ffr2 (.string s) (.float .f64 0) .nilIface (.int .u64 (i : Int)) (.bool neg) (.int .u64 (D : Int)) (.int .u64 (jj : Int)) v11 v12 v15 v16 v17 (fun n => a.tmps.getD n undef), []⟩ → Q (.exit 2) a w) :
    Code.wp Tryz.prog ffB2 (Exit.then I Q) ⟨ffr2 (.string s) (.float .f64 0) .nilIface (.int .u64 (i : Int)) (.bool neg) (.int .u64 (D : Int)) (.int .u64 (jj : Int)) v11 v12 v15 v16 v17 u, []⟩ w := by
  have p1 : (i < s.size) = True := eq_true hi
  have hx : ∀ h : i < s.size, ((s[i]'h).toNat : Int) = bt s (i : Int) := fun h => bt_at s (i : Int) h
  rw [hb] at hx
  have hi8 : (i : Int) < 800 := by omega
  have t1 : decide ((i : Int) < (s.size : Int)) = true := decide_eq_true (by omega)
  have t1n : decide (i < s.size) = true := decide_eq_true hi
  have hs8 : (s.size : Int) ≤ 800 := by omega
  have t48 : decide (48 ≤ (c : Int)) = true := decide_eq_true (by omega)
  have t48n : decide (48 ≤ c) = true := decide_eq_true (by omega)
  have t57 : decide ((c : Int) ≤ 57) = false := decide_eq_false (by omega)
  have t57n : decide (c ≤ 57) = false := decide_eq_false (by omega)
  have HX := Aside0.mk hX
  clear hX hb hc
  unfold ffr2
  conv => arg 2; whnf
  go_wp2_with fail
  refine HX.out _ ?_
  rfl
set_option maxRecDepth 1000000 in
set_option maxHeartbeats 1000000 in
theorem ffc_step (v6 : Value) (i E c : Nat) (hi : i < s.size) (hsz : s.size ≤ 800) (hb : bt s (i : Int) = (c : Int)) (h48 : 48 ≤ c) (h57 : c ≤ 57) (hE : E ≤ 300) (h3 : E * 10 + (c - 48) ≤ 300)
    (u : Nat → Value) (I : Act → World → Prop) (Q : Exit → Act → World → Prop) (hI : ∀ a, a = ⟨ffr2 (.string s) (.float .f64 0) .nilIface (.int .u64 ((i : Int) + 1)) (.bool neg) v6 v7 v11 v12 v15 (.int .i16 ((E * 10 + (c - 48) : Nat) : Int)) v17 (fun n => a.tmps.getD n undef), []⟩ → I a w) :
    Code.wp Tryz.prog ffB3 (Exit.then I Q) ⟨ffr2 (.string s) (.float .f64 0) .nilIface (.int .u64 (i : Int)) (.bool neg) v6 v7 v11 v12 v15 (.int .i16 (E : Int)) v17 u, []⟩ w := by
  have p1 : (i < s.size) = True := eq_true hi
  have hx : ∀ h : i < s.size, ((s[i]'h).toNat : Int) = bt s (i : Int) := fun h => bt_at s (i : Int) h
  rw [hb] at hx
  have hi8 : (i : Int) < 800 := by omega
  have t1 : decide ((i : Int) < (s.size : Int)) = true := decide_eq_true (by omega)
  have t1n : decide (i < s.size) = true := decide_eq_true hi
  have hs8 : (s.size : Int) ≤ 800 := by omega
  have t48 : decide (48 ≤ (c : Int)) = true := decide_eq_true (by omega)
  have t48n : decide (48 ≤ c) = true := decide_eq_true h48
  have t57 : decide ((c : Int) ≤ 57) = true := decide_eq_true (by omega)
  have t57n : decide (c ≤ 57) = true := decide_eq_true h57
  have q0 : 48 ≤ (c : Int) := by omega
  have q1 : (c : Int) ≤ 57 := by omega
  have hE9 : (E : Int) ≤ 300 := by omega
  have t3 : decide (300 < (E : Int) * 10 + ((c : Int) - 48)) = false := decide_eq_false (by omega)
  have HI := Aside0.mk hI
  have HE := Aside0.mk (show (E : Int) * 10 + ((c : Int) - 48) = ((E * 10 + (c - 48) : Nat) : Int) by omega)
  clear hI hb h3
  unfold ffr2
  conv => arg 2; whnf
  go_wp2_with fail
  refine HI.out _ ?_
  rw [← HE.out]
  rfl
set_option maxRecDepth 1000000 in
set_option maxHeartbeats 1000000 in
theorem ffc_slow (v6 : Value) (i E c : Nat) (hi : i < s.size) (hsz : s.size ≤ 800) (hb : bt s (i : Int) = (c : Int)) (h48 : 48 ≤ c) (h57 : c ≤ 57) (hE : E ≤ 300) (h3 : 300 < E * 10 + (c - 48)) {R : Ending → World → Prop} (hS : Slow s neg X w R)
    (u : Nat → Value) (I : Act → World → Prop) (Q : Exit → Act → World → Prop) (hQ : ∀ a w', Q .ret a w' = bodyPost Tryz.prog Tryz.f27 R .ret a w') :
    Code.wp Tryz.prog ffB3 (Exit.then I Q) ⟨ffr2 (.string s) (.float .f64 0) .nilIface (.int .u64 (i : Int)) (.bool neg) v6 v7 v11 v12 v15 (.int .i16 (E : Int)) v17 u, []⟩ w := by
  have p1 : (i < s.size) = True := eq_true hi
  have hx : ∀ h : i < s.size, ((s[i]'h).toNat : Int) = bt s (i : Int) := fun h => bt_at s (i : Int) h
  rw [hb] at hx
  have hi8 : (i : Int) < 800 := by omega
  have t1 : decide ((i : Int) < (s.size : Int)) = true := decide_eq_true (by omega)
  have t1n : decide (i < s.size) = true := decide_eq_true hi
  have hs8 : (s.size : Int) ≤ 800 := by omega
  have t48 : decide (48 ≤ (c : Int)) = true := decide_eq_true (by omega)
  have t48n : decide (48 ≤ c) = true := decide_eq_true h48
  have t57 : decide ((c : Int) ≤ 57) = true := decide_eq_true (by omega)
  have t57n : decide (c ≤ 57) = true := decide_eq_true h57
  have q0 : 48 ≤ (c : Int) := by omega
  have q1 : (c : Int) ≤ 57 := by omega
  have hE9 : (E : Int) ≤ 300 := by omega
  have t3 : decide (300 < (E : Int) * 10 + ((c : Int) - 48)) = true := decide_eq_true (by omega)
  have S := Aside0.mk hS
  have HQ := Aside0.mk hQ
  clear hS hb hQ h3
  unfold ffr2
  conv => arg 2; whnf
  go_wp2_with fail
  refine S.out.pf.mono ?_
  rintro e w1 ⟨r, h1, (⟨h2, rfl⟩ | ⟨h2, t, x, rfl⟩), h3⟩
  · have H1 := Aside0.mk h1
    have H3 := Aside0.mk h3
    generalize hr : FP.wordOf neg r = a1
    have HA := Aside0.mk hr
    clear h1 h2 h3 hr
    go_wp2_with fail
    rw [HQ.out]
    go_returns
    have := S.out.fin r w1 H1.out H3.out
    rw [HA.out] at this
    exact this
  · have H1 := Aside0.mk h1
    have H3 := Aside0.mk h3
    subst h2
    have II := Aside0.mk (isInf_calls neg w1)
    generalize hr : FP.wordOf neg FP.INF = a1 at II
    have HA := Aside0.mk hr
    clear h1 h3 hr
    go_wp2_with fail
    go_call II.out as e w2 ⟨rfl, rfl⟩
    go_wp2_with fail
    rw [HQ.out]
    go_returns
    have := S.out.fin FP.INF _ H1.out H3.out
    rw [HA.out] at this
    exact this

set_option maxRecDepth 1000000 in
set_option maxHeartbeats 1000000 in
theorem ffc_end (v6 : Value) (i E : Nat) (hi : i = s.size) (hsz : s.size ≤ 800)
    (u : Nat → Value) (I : Act → World → Prop) (Q : Exit → Act → World → Prop) (hX : ∀ a, a = ⟨ffr2 (.string s) (.float .f64 0) .nilIface (.int .u64 (i : Int)) (.bool neg) v6 v7 v11 v12 v15 (.int .i16 (E : Int)) v17 (fun n => a.tmps.getD n undef), []⟩ → Q (.exit 4) a w) :
    Code.wp Tryz.prog ffB3 (Exit.then I Q) ⟨ffr2 (.string s) (.float .f64 0) .nilIface (.int .u64 (i : Int)) (.bool neg) v6 v7 v11 v12 v15 (.int .i16 (E : Int)) v17 u, []⟩ w := by
  have hs8 : (s.size : Int) ≤ 800 := by omega
  have t1 : decide ((i : Int) < (s.size : Int)) = false := decide_eq_false (by omega)
  have t1n : decide (i < s.size) = false := decide_eq_false (by omega)
  have HX := Aside0.mk hX
  clear hX hi
  unfold ffr2
  conv => arg 2; whnf
  go_wp2_with fail
  refine HX.out _ ?_
  rfl
/-- The loop over the digits ahead of the point. -/
theorem ffa_loop (i0 W : Nat) (g : Nat → Nat) (hi1 : i0 ≤ 1) (hsz : s.size ≤ 800) (hfit : i0 + W ≤ s.size) (hb : ∀ k < W, bt s ((i0 + k : Nat) : Int) = (g k : Int)) (hk : ∀ k < W, 48 ≤ g k ∧ g k ≤ 57)
    (hend : i0 + W = s.size ∨ (i0 + W < s.size ∧ ∃ c : Nat, bt s ((i0 + W : Nat) : Int) = (c : Int) ∧ (c = 46 ∨ c = 69 ∨ c = 101))) {R : Ending → World → Prop} (hS : ¬ (i0 + W ≤ 18) → Slow s neg X w R) {Q : Exit → Act → World → Prop} (hQ : ∀ a w', Q .ret a w' = bodyPost Tryz.prog Tryz.f27 R .ret a w')
    (hX : i0 + W ≤ 18 → ∀ a, a = ⟨ffr2 (.string s) (.float .f64 0) .nilIface (.int .u64 ((i0 + W : Nat) : Int)) (.bool neg) (.int .u64 (FP.dnum 0 g W : Int)) v7 v11 v12 v15 v16 v17 (fun n => a.tmps.getD n undef), []⟩ → Q (.exit 0) a w)
    {c : Code} {a : Act} (hc : ffB1 = c) (ha : a = ⟨ffr2 (.string s) (.float .f64 0) .nilIface (.int .u64 (i0 : Int)) (.bool neg) (.int .u64 0) v7 v11 v12 v15 v16 v17 (fun n => a.tmps.getD n undef), []⟩) : Code.wp Tryz.prog (.loop c) Q a w := by
  subst hc
  refine wp_loop_ghost (fun f a w' => w' = w ∧ ∃ (k : Nat) (u : Nat → Value), k ≤ W ∧ f = W - k ∧ i0 + k ≤ 18 ∧ a = ⟨ffr2 (.string s) (.float .f64 0) .nilIface (.int .u64 ((i0 + k : Nat) : Int)) (.bool neg) (.int .u64 (FP.dnum 0 g k : Int)) v7 v11 v12 v15 v16 v17 u, []⟩) W ⟨rfl, 0, (fun n => a.tmps.getD n undef), Nat.zero_le _, rfl, by omega, ha⟩ ?_
  rintro f a w' ⟨rfl, k, u, hkW, hf, h18, rfl⟩
  have hD : FP.dnum 0 g k < 10 ^ 18 := Nat.lt_of_lt_of_le (FP.dnum_lt (j := 0) (by decide) (fun j hj => (hk j hj).2) k hkW) (Nat.pow_le_pow_right (by omega) (by omega))
  by_cases hlt : k < W
  · by_cases h : i0 + k + 1 ≤ 18
    · refine ffa_step v7 v11 v12 v15 v16 v17 (i0 + k) (FP.dnum 0 g k) (g k) (by omega) hsz (hb k hlt) (hk k hlt).1 (hk k hlt).2 hD h u _ Q fun a ha => ⟨W - (k + 1), by omega, rfl, k + 1, (fun n => a.tmps.getD n undef), hlt, rfl, by omega, ha⟩
    · exact ffa_slow v7 v11 v12 v15 v16 v17 (i0 + k) (FP.dnum 0 g k) (g k) (by omega) hsz (hb k hlt) (hk k hlt).1 (hk k hlt).2 hD (by omega) (hS (by omega)) u _ Q hQ
  · obtain rfl : k = W := by omega
    rcases hend with h | ⟨h, c, hc, hcc⟩
    · exact ffa_end v7 v11 v12 v15 v16 v17 (i0 + k) (FP.dnum 0 g k) h hsz u _ Q (hX h18)
    · rcases hcc with hcc | hcc
      · exact ffa_dot v7 v11 v12 v15 v16 v17 (i0 + k) (FP.dnum 0 g k) c h hsz hc hcc u _ Q (hX h18)
      · exact ffa_exp v7 v11 v12 v15 v16 v17 (i0 + k) (FP.dnum 0 g k) c h hsz hc hcc u _ Q (hX h18)
/-- The loop over the digits behind the point. -/
theorem ffb_loop (i0 F jj D0 : Nat) (g : Nat → Nat) (hsz : s.size ≤ 800) (hfit : i0 + F ≤ s.size) (hj : jj ≤ i0) (hF1 : 1 ≤ F) (hD0 : D0 < 10 ^ (i0 - jj)) (hD18 : D0 < 10 ^ 18) (hb : ∀ k < F, bt s ((i0 + k : Nat) : Int) = (g k : Int)) (hk : ∀ k < F, 48 ≤ g k ∧ g k ≤ 57)
    (hend : i0 + F = s.size ∨ (i0 + F < s.size ∧ ∃ c : Nat, bt s ((i0 + F : Nat) : Int) = (c : Int) ∧ (c = 69 ∨ c = 101))) {R : Ending → World → Prop} (hS : ¬ (i0 + F < jj + 17) → Slow s neg X w R) {Q : Exit → Act → World → Prop} (hQ : ∀ a w', Q .ret a w' = bodyPost Tryz.prog Tryz.f27 R .ret a w')
    (hX : i0 + F < jj + 17 → ∀ a, a = ⟨ffr2 (.string s) (.float .f64 0) .nilIface (.int .u64 ((i0 + F : Nat) : Int)) (.bool neg) (.int .u64 (FP.dnum D0 g F : Int)) (.int .u64 (jj : Int)) v11 v12 v15 v16 v17 (fun n => a.tmps.getD n undef), []⟩ → Q (.exit 2) a w)
    {c : Code} {a : Act} (hc : ffB2 = c) (ha : a = ⟨ffr2 (.string s) (.float .f64 0) .nilIface (.int .u64 (i0 : Int)) (.bool neg) (.int .u64 (D0 : Int)) (.int .u64 (jj : Int)) v11 v12 v15 v16 v17 (fun n => a.tmps.getD n undef), []⟩) : Code.wp Tryz.prog (.loop c) Q a w := by
  subst hc
  refine wp_loop_ghost (fun f a w' => w' = w ∧ ∃ (k : Nat) (u : Nat → Value), k ≤ F ∧ f = F - k ∧ (k = 0 ∨ i0 + k < jj + 17) ∧ a = ⟨ffr2 (.string s) (.float .f64 0) .nilIface (.int .u64 ((i0 + k : Nat) : Int)) (.bool neg) (.int .u64 (FP.dnum D0 g k : Int)) (.int .u64 (jj : Int)) v11 v12 v15 v16 v17 u, []⟩) F ⟨rfl, 0, (fun n => a.tmps.getD n undef), Nat.zero_le _, rfl, by omega, ha⟩ ?_
  rintro f a w' ⟨rfl, k, u, hkW, hf, h18, rfl⟩
  have hD : FP.dnum D0 g k < 10 ^ 18 := by
    rcases h18 with h0 | h18
    · subst h0; exact hD18
    · exact Nat.lt_of_lt_of_le (FP.dnum_lt hD0 (fun j hj => (hk j hj).2) k hkW) (Nat.pow_le_pow_right (by omega) (by omega))
  by_cases hlt : k < F
  · by_cases h : i0 + k + 1 < jj + 17
    · refine ffb_step v11 v12 v15 v16 v17 (i0 + k) (FP.dnum D0 g k) (g k) jj (by omega) hsz (hb k hlt) (hk k hlt).1 (hk k hlt).2 hD (by omega) h u _ Q fun a ha => ⟨F - (k + 1), by omega, rfl, k + 1, (fun n => a.tmps.getD n undef), hlt, rfl, by omega, ha⟩
    · exact ffb_slow v11 v12 v15 v16 v17 (i0 + k) (FP.dnum D0 g k) (g k) jj (by omega) hsz (hb k hlt) (hk k hlt).1 (hk k hlt).2 hD (by omega) (by omega) (hS (by omega)) u _ Q hQ
  · obtain rfl : k = F := by omega
    rcases hend with h | ⟨h, c, hc, hcc⟩
    · exact ffb_end v11 v12 v15 v16 v17 (i0 + k) (FP.dnum D0 g k) jj h hsz u _ Q (hX (by omega))
    · exact ffb_exp v11 v12 v15 v16 v17 (i0 + k) (FP.dnum D0 g k) c jj h hsz hc hcc u _ Q (hX (by omega))
/-- The loop over the exponent's digits. -/
theorem ffc_loop (v6 : Value) (i0 N : Nat) (g : Nat → Nat) (hsz : s.size ≤ 800) (hfit : i0 + N = s.size) (hb : ∀ k < N, bt s ((i0 + k : Nat) : Int) = (g k : Int)) (hk : ∀ k < N, 48 ≤ g k ∧ g k ≤ 57)
    {R : Ending → World → Prop} (hS : ¬ (FP.dnum 0 g N ≤ 300) → Slow s neg X w R) {Q : Exit → Act → World → Prop} (hQ : ∀ a w', Q .ret a w' = bodyPost Tryz.prog Tryz.f27 R .ret a w')
    (hX : FP.dnum 0 g N ≤ 300 → ∀ a, a = ⟨ffr2 (.string s) (.float .f64 0) .nilIface (.int .u64 ((i0 + N : Nat) : Int)) (.bool neg) v6 v7 v11 v12 v15 (.int .i16 (FP.dnum 0 g N : Int)) v17 (fun n => a.tmps.getD n undef), []⟩ → Q (.exit 4) a w)
    {c : Code} {a : Act} (hc : ffB3 = c) (ha : a = ⟨ffr2 (.string s) (.float .f64 0) .nilIface (.int .u64 (i0 : Int)) (.bool neg) v6 v7 v11 v12 v15 (.int .i16 0) v17 (fun n => a.tmps.getD n undef), []⟩) : Code.wp Tryz.prog (.loop c) Q a w := by
  subst hc
  refine wp_loop_ghost (fun f a w' => w' = w ∧ ∃ (k : Nat) (u : Nat → Value), k ≤ N ∧ f = N - k ∧ FP.dnum 0 g k ≤ 300 ∧ a = ⟨ffr2 (.string s) (.float .f64 0) .nilIface (.int .u64 ((i0 + k : Nat) : Int)) (.bool neg) v6 v7 v11 v12 v15 (.int .i16 (FP.dnum 0 g k : Int)) v17 u, []⟩) N ⟨rfl, 0, (fun n => a.tmps.getD n undef), Nat.zero_le _, rfl, by show 0 ≤ 300; omega, ha⟩ ?_
  rintro f a w' ⟨rfl, k, u, hkW, hf, h3, rfl⟩
  by_cases hlt : k < N
  · by_cases h : FP.dnum 0 g k * 10 + (g k - 48) ≤ 300
    · refine ffc_step v7 v11 v12 v15 v17 v6 (i0 + k) (FP.dnum 0 g k) (g k) (by omega) hsz (hb k hlt) (hk k hlt).1 (hk k hlt).2 h3 h u _ Q fun a ha => ⟨N - (k + 1), by omega, rfl, k + 1, (fun n => a.tmps.getD n undef), hlt, rfl, h, ha⟩
    · exact ffc_slow v7 v11 v12 v15 v17 v6 (i0 + k) (FP.dnum 0 g k) (g k) (by omega) hsz (hb k hlt) (hk k hlt).1 (hk k hlt).2 h3 (by omega) (hS (fun hc => by have h1 := FP.dnum_mono 0 g (show k + 1 ≤ N by omega); have h2 : FP.dnum 0 g (k + 1) = FP.dnum 0 g k * 10 + (g k - 48) := rfl; omega)) u _ Q hQ
  · obtain rfl : k = N := by omega
    exact ffc_end v7 v11 v12 v15 v17 v6 (i0 + k) (FP.dnum 0 g k) hfit hsz u _ Q (hX h3)

end

end Go.Proofs.YtodbjojglibniaaGreatDoor
