/- Walks of functions of FnJpGetFloat (B6, B7); conditions stand ahead of each theorem. -/
import Derived.Test.YtbimfhaokgigkaaGreatDoorT10
import Derived.Handy
set_option linter.unusedVariables false
set_option linter.unusedSimpArgs false
set_option maxRecDepth 1000000
set_option maxHeartbeats 1000000
namespace Go.Proofs.YtbimfhaokgigkaaGreatDoor
open Go.RowKit Go.Proofs.YtbimfhaokgigkaaGreatDoorW.PrintWords Go.Proofs.YtbimfhaokgigkaaGreatDoorW.PrintLast
noncomputable def lBody1 : Code := loopOf Tryz.f128 0
noncomputable def lBody2 : Code := loopOf Tryz.f128 1
def lfr (v0 v1 v4 v5 v6 v7 : Value) (u : Nat → Value) : Array Value := #[v0, v1, u 2, u 3, v4, v5, v6, v7, u 8, u 9, u 10, u 11, u 12, u 13, u 14, u 15, u 16, u 17, u 18, u 19, u 20, u 21, u 22, u 23, u 24, u 25, u 26, u 27, u 28, u 29, u 30, u 31, u 32, u 33, u 34, u 35, u 36, u 37, u 38, u 39, u 40, u 41, u 42, u 43, u 44, u 45, u 46, u 47, u 48, u 49, u 50, u 51, u 52, u 53, u 54, u 55, u 56, u 57, u 58, u 59, u 60, u 61, u 62, u 63, u 64, u 65, u 66, u 67, u 68, u 69, u 70, u 71, u 72, u 73, u 74, u 75, u 76, u 77, u 78, u 79, u 80, u 81, u 82, u 83, u 84, u 85, u 86, u 87, u 88, u 89, u 90, u 91, u 92, u 93, u 94, u 95, u 96, u 97, u 98, u 99, u 100, u 101, u 102, u 103, u 104, u 105, u 106, u 107, u 108, u 109, u 110, u 111, u 112, u 113, u 114, u 115, u 116, u 117, u 118, u 119, u 120, u 121, u 122, u 123, u 124, u 125, u 126, u 127, u 128, u 129, u 130, u 131, u 132, u 133, u 134, u 135, u 136]
theorem sum_shl {n c k N : Nat} (hc : 48 ≤ c) (hN : N = n + (c - 48) * 2 ^ k) (hN2 : N < 2 ^ 64) : IntKind.u64.wrap ((n : Int) + IntKind.u64.wrap (((c : Int) - 48) * 2 ^ k)) = (N : Int) := by
 have e : ((c : Int) - 48) * 2 ^ k = (((c - 48) * 2 ^ k : Nat) : Int) := by
  rw [Int.natCast_mul, Int.natCast_sub hc, Int.natCast_pow]; rfl
 rw [e]
 clear e
 generalize (c - 48) * 2 ^ k = X at *
 rw [wraps_u64 (X : Int) (by omega) (by omega), wraps_u64 _ (by omega) (by omega)]
 omega
section
variable {w : World} {g : Nat} {d : Nat → Nat} {nd : Nat} {dp : Int} {neg tr : Bool}
theorem l1_in (h : Dec w g d nd dp neg tr) (k r W n N : Nat) (del : Int) (hk : k ≤ 60) (hr : r < 800) (hW : W < 800) (hWx : W < 2000) (hc0 : 48 ≤ d r) (hc1 : d r ≤ 57) (hN : N = n + (d r - 48) * 2 ^ k) (hN2 : N < 2 ^ 64)
  (u : Nat → Value) (I : Act → World → Prop) (Q : Exit → Act → World → Prop)
  (hI : ∀ a, a = ⟨lfr (.pointer (some ⟨g, 0, none⟩)) (.int .u64 (k : Int)) (.int .i64 del) (.int .i64 ((r : Int) - 1)) (.int .i64 (W : Int)) (.int .u64 ((N : Int) / 10)) (fun n => a.tmps.getD n undef), []⟩ → I a (w.setCell ⟨g, W, none⟩ (.int .u8 ((N % 10 + 48 : Nat) : Int)))) :
  Code.wp Tryz.prog lBody1 (Exit.then I Q) ⟨lfr (.pointer (some ⟨g, 0, none⟩)) (.int .u64 (k : Int)) (.int .i64 del) (.int .i64 (r : Int)) (.int .i64 ((W + 1 : Nat) : Int)) (.int .u64 (n : Int)) u, []⟩ w := by
 have cr := h.cell hr
 have hr8 : (r : Int) < 800 := by omega
 have q0 : 48 ≤ (d r : Int) := by omega
 have q1 : (d r : Int) ≤ 57 := by omega
 have cW := h.cell hW
 have fW := h.frozen W
 have hW8 : (W : Int) < 800 := by omega
 have tw : decide (((W + 1 : Nat) : Int) - 1 < 800) = true := dT
 have WZ := az (show (N : Int) - 10 * ((N : Int) / 10) + 48 = ((N % 10 + 48 : Nat) : Int) by omega)
 have E : IntKind.u64.wrap ((n : Int) + IntKind.u64.wrap (((d r : Int) - 48) * 2 ^ k)) = (N : Int) := sum_shl hc0 hN hN2
 have hN9 : (N : Int) ≤ 18446744073709551615 := by omega
 have HI := az hI
 clear h hN hN2 hI
 unfold lfr
 conv => arg 2; whnf
 go_wp2_with fail
 rw [WZ.out]
 exact HI.out _ rfl
theorem l2_in (h : Dec w g d nd dp neg tr) (k W N : Nat) (del : Int) (hW : W < 800) (hWx : W < 2000) (hN1 : 1 ≤ N) (hN2 : N < 2 ^ 64)
  (u : Nat → Value) (I : Act → World → Prop) (Q : Exit → Act → World → Prop)
  (hI : ∀ a, a = ⟨lfr (.pointer (some ⟨g, 0, none⟩)) (.int .u64 (k : Int)) (.int .i64 del) (.int .i64 (-1)) (.int .i64 (W : Int)) (.int .u64 ((N : Int) / 10)) (fun n => a.tmps.getD n undef), []⟩ → I a (w.setCell ⟨g, W, none⟩ (.int .u8 ((N % 10 + 48 : Nat) : Int)))) :
  Code.wp Tryz.prog lBody2 (Exit.then I Q) ⟨lfr (.pointer (some ⟨g, 0, none⟩)) (.int .u64 (k : Int)) (.int .i64 del) (.int .i64 (-1)) (.int .i64 ((W + 1 : Nat) : Int)) (.int .u64 (N : Int)) u, []⟩ w := by
 have cW := h.cell hW
 have fW := h.frozen W
 have hW8 : (W : Int) < 800 := by omega
 have tw : decide (((W + 1 : Nat) : Int) - 1 < 800) = true := dT
 have WZ := az (show (N : Int) - 10 * ((N : Int) / 10) + 48 = ((N % 10 + 48 : Nat) : Int) by omega)
 have tN : decide (0 < (N : Int)) = true := dT
 have tNn : decide (0 < N) = true := dT
 have hN9 : (N : Int) ≤ 18446744073709551615 := by omega
 have HI := az hI
 clear h hN2 hI hN1
 unfold lfr
 conv => arg 2; whnf
 go_wp2_with fail
 rw [WZ.out]
 exact HI.out _ rfl
theorem l1_out1 (h : Dec w g d nd dp neg tr) (k r W n N : Nat) (del : Int) (hk : k ≤ 60) (hr : r < 800) (hW : 800 ≤ W) (hx : N % 10 ≠ 0) (hWx : W < 2000) (hc0 : 48 ≤ d r) (hc1 : d r ≤ 57) (hN : N = n + (d r - 48) * 2 ^ k) (hN2 : N < 2 ^ 64)
  (u : Nat → Value) (I : Act → World → Prop) (Q : Exit → Act → World → Prop)
  (hI : ∀ a, a = ⟨lfr (.pointer (some ⟨g, 0, none⟩)) (.int .u64 (k : Int)) (.int .i64 del) (.int .i64 ((r : Int) - 1)) (.int .i64 (W : Int)) (.int .u64 ((N : Int) / 10)) (fun n => a.tmps.getD n undef), []⟩ → I a (w.setCell ⟨g, 803, none⟩ (.bool true))) :
  Code.wp Tryz.prog lBody1 (Exit.then I Q) ⟨lfr (.pointer (some ⟨g, 0, none⟩)) (.int .u64 (k : Int)) (.int .i64 del) (.int .i64 (r : Int)) (.int .i64 ((W + 1 : Nat) : Int)) (.int .u64 (n : Int)) u, []⟩ w := by
 have cr := h.cell hr
 have hr8 : (r : Int) < 800 := by omega
 have q0 : 48 ≤ (d r : Int) := by omega
 have q1 : (d r : Int) ≤ 57 := by omega
 have cW := h.ctr
 have fW := h.frozen 803
 have tw : decide ((W : Int) < 800) = false := dF
 have twn : decide (W < 800) = false := dF
 have tx : ((N : Int) - 10 * ((N : Int) / 10) != 0) = true := nT
 clear hx hW
 have E : IntKind.u64.wrap ((n : Int) + IntKind.u64.wrap (((d r : Int) - 48) * 2 ^ k)) = (N : Int) := sum_shl hc0 hN hN2
 have hN9 : (N : Int) ≤ 18446744073709551615 := by omega
 have HI := az hI
 clear h hN hN2 hI
 unfold lfr
 conv => arg 2; whnf
 go_wp2_with fail
 exact HI.out _ rfl
theorem l1_out0 (h : Dec w g d nd dp neg tr) (k r W n N : Nat) (del : Int) (hk : k ≤ 60) (hr : r < 800) (hW : 800 ≤ W) (hx : N % 10 = 0) (hWx : W < 2000) (hc0 : 48 ≤ d r) (hc1 : d r ≤ 57) (hN : N = n + (d r - 48) * 2 ^ k) (hN2 : N < 2 ^ 64)
  (u : Nat → Value) (I : Act → World → Prop) (Q : Exit → Act → World → Prop)
  (hI : ∀ a, a = ⟨lfr (.pointer (some ⟨g, 0, none⟩)) (.int .u64 (k : Int)) (.int .i64 del) (.int .i64 ((r : Int) - 1)) (.int .i64 (W : Int)) (.int .u64 ((N : Int) / 10)) (fun n => a.tmps.getD n undef), []⟩ → I a w) :
  Code.wp Tryz.prog lBody1 (Exit.then I Q) ⟨lfr (.pointer (some ⟨g, 0, none⟩)) (.int .u64 (k : Int)) (.int .i64 del) (.int .i64 (r : Int)) (.int .i64 ((W + 1 : Nat) : Int)) (.int .u64 (n : Int)) u, []⟩ w := by
 have cr := h.cell hr
 have hr8 : (r : Int) < 800 := by omega
 have q0 : 48 ≤ (d r : Int) := by omega
 have q1 : (d r : Int) ≤ 57 := by omega
 have tw : decide ((W : Int) < 800) = false := dF
 have twn : decide (W < 800) = false := dF
 have tx : ((N : Int) - 10 * ((N : Int) / 10) != 0) = false := by rw [bne_eq_false_iff_eq]; omega
 clear hx hW
 have E : IntKind.u64.wrap ((n : Int) + IntKind.u64.wrap (((d r : Int) - 48) * 2 ^ k)) = (N : Int) := sum_shl hc0 hN hN2
 have hN9 : (N : Int) ≤ 18446744073709551615 := by omega
 have HI := az hI
 clear h hN hN2 hI
 unfold lfr
 conv => arg 2; whnf
 go_wp2_with fail
 exact HI.out _ rfl
theorem l1_exit (k : Nat) (del p6 p7 : Int) (u : Nat → Value) (I : Act → World → Prop) (Q : Exit → Act → World → Prop)
  (hQ : ∀ a, a = ⟨lfr (.pointer (some ⟨g, 0, none⟩)) (.int .u64 (k : Int)) (.int .i64 del) (.int .i64 (-1)) (.int .i64 p6) (.int .u64 p7) (fun n => a.tmps.getD n undef), []⟩ → Q (.exit 0) a w) :
  Code.wp Tryz.prog lBody1 (Exit.then I Q) ⟨lfr (.pointer (some ⟨g, 0, none⟩)) (.int .u64 (k : Int)) (.int .i64 del) (.int .i64 (-1)) (.int .i64 p6) (.int .u64 p7) u, []⟩ w := by
 have HQ := az hQ
 clear hQ
 unfold lfr
 conv => arg 2; whnf
 go_wp2_with fail
 exact HQ.out _ rfl
theorem l2_exit (k : Nat) (del p6 : Int) (u : Nat → Value) (I : Act → World → Prop) (Q : Exit → Act → World → Prop)
  (hQ : ∀ a, a = ⟨lfr (.pointer (some ⟨g, 0, none⟩)) (.int .u64 (k : Int)) (.int .i64 del) (.int .i64 (-1)) (.int .i64 p6) (.int .u64 0) (fun n => a.tmps.getD n undef), []⟩ → Q (.exit 2) a w) :
  Code.wp Tryz.prog lBody2 (Exit.then I Q) ⟨lfr (.pointer (some ⟨g, 0, none⟩)) (.int .u64 (k : Int)) (.int .i64 del) (.int .i64 (-1)) (.int .i64 p6) (.int .u64 0) u, []⟩ w := by
 have HQ := az hQ
 clear hQ
 unfold lfr
 conv => arg 2; whnf
 go_wp2_with fail
 exact HQ.out _ rfl
end
structure LInv1 (w0 : World) (g k D : Nat) (ds : List Nat) (dp : Int) (neg tr : Bool) (r : Nat) (w : World) : Prop where
 dec : ∃ d tt, Dec w g d ds.length dp neg tt ∧ (∀ i, i < r → d i = ds.getD i 0 + 48) ∧ FP.Placed d (r + D) (FP.lmul (2 ^ k) (ds.drop r)).2 ∧ tt = (tr || FP.lost (r + D) (FP.lmul (2 ^ k) (ds.drop r)).2)
 only : Only g w0 w
structure LInv2 (w0 : World) (g k : Nat) (ds : List Nat) (dp : Int) (neg tr : Bool) (N : Nat) (w : World) : Prop where
 dec : ∃ d tt S, FP.digs N ++ S = FP.leftD k ds ∧ Dec w g d ds.length dp neg tt ∧ FP.Placed d (FP.digs N).length S ∧ tt = (tr || FP.lost (FP.digs N).length S)
 only : Only g w0 w
theorem digs_len_lt {N : Nat} (h : N < 2 ^ 64) : (FP.digs N).length ≤ 20 := by
 by_cases e : N = 0
 ·rw [e, FP.digs_zero]; simp
 ·obtain ⟨dd, t, h1, h2⟩ := FP.digs_head N e
  have h3 := FP.num_ge (t := t) h2
  rw [← h1, FP.digs_num] at h3
  rw [h1]
  simp only [List.length_cons]
  have h4 : 10 ^ t.length < 10 ^ 20 := by omega
  have := (Nat.pow_lt_pow_iff_right (show 1 < 10 by omega)).mp h4
  omega
section
variable {g k D : Nat} {ds : List Nat} {dp : Int} {neg tr : Bool}
theorem l1_loop {w0 : World} (hk : k ≤ 60) (hD : D ≤ 100) (hd : ∀ x ∈ ds, x < 10) (hl : ds.length ≤ 800) {Q : Exit → Act → World → Prop}
  (hQ : ∀ a w', LInv1 w0 g k D ds dp neg tr 0 w' → a = ⟨lfr (.pointer (some ⟨g, 0, none⟩)) (.int .u64 (k : Int)) (.int .i64 (D : Int)) (.int .i64 (-1)) (.int .i64 ((D : Nat) : Int)) (.int .u64 ((FP.lmul (2 ^ k) ds).1 : Int)) (fun n => a.tmps.getD n undef), []⟩ → Q (.exit 0) a w')
  {c : Code} {a : Act} (h : LInv1 w0 g k D ds dp neg tr ds.length w0) (hc : lBody1 = c) (ha : a = ⟨lfr (.pointer (some ⟨g, 0, none⟩)) (.int .u64 (k : Int)) (.int .i64 (D : Int)) (.int .i64 ((ds.length : Int) - 1)) (.int .i64 ((ds.length + D : Nat) : Int)) (.int .u64 0) (fun n => a.tmps.getD n undef), []⟩) :
  Code.wp Tryz.prog (.loop c) Q a w0 := by
 subst hc
 refine wp_loop (fun a w => ∃ r u, r ≤ ds.length ∧ a = ⟨lfr (.pointer (some ⟨g, 0, none⟩)) (.int .u64 (k : Int)) (.int .i64 (D : Int)) (.int .i64 ((r : Int) - 1)) (.int .i64 ((r + D : Nat) : Int)) (.int .u64 ((FP.lmul (2 ^ k) (ds.drop r)).1 : Int)) u, []⟩ ∧ LInv1 w0 g k D ds dp neg tr r w)
  (fun a w => (intOf (a.tmps.getD 5 undef) + 1).toNat) ⟨ds.length, _, Nat.le_refl _, by rw [List.drop_length]; exact ha, h⟩ ?_
 rintro a w ⟨r, u, hr, rfl, ⟨d, tt, h1, h2, h3, h4⟩, hO⟩
 cases r with
 | zero =>
  refine l1_exit (w := w) k _ _ _ u _ _ fun a ha => hQ a w ⟨⟨d, tt, h1, h2, h3, h4⟩, hO⟩ ?_
  simp only [Nat.zero_add, List.drop_zero] at ha
  exact ha
 | succ r =>
  have e5 : ((r + 1 : Nat) : Int) - 1 = (r : Int) := by omega
  have e6 : r + 1 + D = (r + D) + 1 := by omega
  rw [e5, e6]
  have hdr := h2 r (by omega)
  have hlt : ds.getD r 0 < 10 := by
   rw [List.getD_eq_getElem?_getD, List.getElem?_eq_getElem (by omega)]
   exact hd _ (List.getElem_mem _)
  have hlm := FP.lmul_drop (2 ^ k) ds r (by omega)
  have hM : 0 < 2 ^ k := Nat.two_pow_pos k
  have hsm := FP.lmul_small (2 ^ k) hM (ds.drop (r + 1)) (fun x hx => hd x (List.mem_of_mem_drop hx))
  have hk60 : 2 ^ k ≤ 2 ^ 60 := Nat.pow_le_pow_right (by omega) hk
  obtain ⟨n, hn⟩ : ∃ n, n = (FP.lmul (2 ^ k) (ds.drop (r + 1))).1 := ⟨_, rfl⟩
  obtain ⟨S, hS⟩ : ∃ S, S = (FP.lmul (2 ^ k) (ds.drop (r + 1))).2 := ⟨_, rfl⟩
  rw [← hn] at hsm ⊢
  rw [← hS, e6] at h3 h4
  rw [← hn, ← hS] at hlm
  obtain ⟨N, hN⟩ : ∃ N, N = n + ds.getD r 0 * 2 ^ k := ⟨_, rfl⟩
  rw [← hN] at hlm
  have hN2 : N < 2 ^ 64 := by
   have : ds.getD r 0 * 2 ^ k ≤ 9 * 2 ^ k := Nat.mul_le_mul_right _ (by omega)
   omega
  have hN' : N = n + (d r - 48) * 2 ^ k := by rw [hdr, Nat.add_sub_cancel]; exact hN
  have hfr : ∀ a : Act, a = ⟨lfr (.pointer (some ⟨g, 0, none⟩)) (.int .u64 (k : Int)) (.int .i64 (D : Int)) (.int .i64 ((r : Int) - 1)) (.int .i64 ((r + D : Nat) : Int)) (.int .u64 ((N : Int) / 10)) (fun n => a.tmps.getD n undef), []⟩ → a = ⟨lfr (.pointer (some ⟨g, 0, none⟩)) (.int .u64 (k : Int)) (.int .i64 (D : Int)) (.int .i64 ((r : Int) - 1)) (.int .i64 ((r + D : Nat) : Int)) (.int .u64 ((FP.lmul (2 ^ k) (ds.drop r)).1 : Int)) (fun n => a.tmps.getD n undef), []⟩ := by
   intro a ha
   rw [hlm]
   exact ha
  have hmu : ∀ a : Act, a = ⟨lfr (.pointer (some ⟨g, 0, none⟩)) (.int .u64 (k : Int)) (.int .i64 (D : Int)) (.int .i64 ((r : Int) - 1)) (.int .i64 ((r + D : Nat) : Int)) (.int .u64 ((N : Int) / 10)) (fun n => a.tmps.getD n undef), []⟩ → (intOf (a.tmps.getD 5 undef) + 1).toNat < ((r : Int) + 1).toNat := by
   intro a ha
   rw [ha]
   show ((r : Int) - 1 + 1).toNat < _
   omega
  by_cases c : r + D < 800
  ·refine l1_in h1 k r (r + D) n N _ hk (by omega) c (by omega) (by omega) (by omega) hN' hN2 u _ _ fun a ha => ?_
   refine ⟨⟨r, _, by omega, hfr a ha, ⟨_, _, h1.set_d c (N % 10 + 48), ?_, ?_, ?_⟩, hO.set _ _⟩, hmu a ha⟩
   ·intro i hi
    unfold upd
    rw [if_neg (by omega)]
    exact h2 i (by omega)
   ·rw [hlm]
    refine FP.Placed.cons h3 (fun i hi => ?_) (fun _ => ?_)
    ·unfold upd; rw [if_neg hi]
    ·unfold upd; rw [if_pos rfl]
   ·rw [hlm, h4, FP.lost_in c]
  ·by_cases hx : N % 10 = 0
   ·refine l1_out0 h1 k r (r + D) n N _ hk (by omega) (by omega) hx (by omega) (by omega) (by omega) hN' hN2 u _ _ fun a ha => ?_
    refine ⟨⟨r, _, by omega, hfr a ha, ⟨_, _, h1, ?_, ?_, ?_⟩, hO⟩, hmu a ha⟩
    ·intro i hi
     exact h2 i (by omega)
    ·rw [hlm]
     exact FP.Placed.cons h3 (fun i hi => rfl) (fun h => absurd h c)
    ·rw [hlm, h4, FP.lost_out (by omega), hx]; simp
   ·refine l1_out1 h1 k r (r + D) n N _ hk (by omega) (by omega) hx (by omega) (by omega) (by omega) hN' hN2 u _ _ fun a ha => ?_
    refine ⟨⟨r, _, by omega, hfr a ha, ⟨_, _, h1.set_tr true, ?_, ?_, ?_⟩, hO.set _ _⟩, hmu a ha⟩
    ·intro i hi
     exact h2 i (by omega)
    ·rw [hlm]
     exact FP.Placed.cons h3 (fun i hi => rfl) (fun h => absurd h c)
    ·rw [hlm, FP.lost_out (by omega)]; simp [hx]
theorem l2_loop {w0 : World} {del : Int} {N : Nat} (hN : N < 2 ^ 64) {w1 : World} {Q : Exit → Act → World → Prop}
  (hQ : ∀ a w', LInv2 w0 g k ds dp neg tr 0 w' → a = ⟨lfr (.pointer (some ⟨g, 0, none⟩)) (.int .u64 (k : Int)) (.int .i64 del) (.int .i64 (-1)) (.int .i64 0) (.int .u64 0) (fun n => a.tmps.getD n undef), []⟩ → Q (.exit 2) a w')
  {c : Code} {a : Act} (h : LInv2 w0 g k ds dp neg tr N w1) (hc : lBody2 = c) (ha : a = ⟨lfr (.pointer (some ⟨g, 0, none⟩)) (.int .u64 (k : Int)) (.int .i64 del) (.int .i64 (-1)) (.int .i64 ((FP.digs N).length : Int)) (.int .u64 (N : Int)) (fun n => a.tmps.getD n undef), []⟩) :
  Code.wp Tryz.prog (.loop c) Q a w1 := by
 subst hc
 refine wp_loop (fun a w => ∃ N u, N < 2 ^ 64 ∧ a = ⟨lfr (.pointer (some ⟨g, 0, none⟩)) (.int .u64 (k : Int)) (.int .i64 del) (.int .i64 (-1)) (.int .i64 ((FP.digs N).length : Int)) (.int .u64 (N : Int)) u, []⟩ ∧ LInv2 w0 g k ds dp neg tr N w)
  (fun a w => (intOf (a.tmps.getD 7 undef)).toNat) ⟨N, _, hN, ha, h⟩ ?_
 rintro a w ⟨N, u, hN2, rfl, ⟨d, tt, S, h1, h2, h3, h4⟩, hO⟩
 by_cases h0 : N = 0
 ·subst h0
  refine l2_exit (w := w) k _ _ u _ _ fun a ha => hQ a w ⟨⟨d, tt, S, h1, h2, h3, h4⟩, hO⟩ ?_
  rw [ha, FP.digs_zero]
  rfl
 ·have e := FP.digs_pos h0
  have hW := digs_len_lt (show N / 10 < 2 ^ 64 by omega)
  have eW : (FP.digs N).length = (FP.digs (N / 10)).length + 1 := by rw [e]; simp
  rw [e, List.append_assoc, List.singleton_append] at h1
  rw [eW] at h3 h4 ⊢
  obtain ⟨W, hWW⟩ : ∃ W, W = (FP.digs (N / 10)).length := ⟨_, rfl⟩
  rw [← hWW] at hW h3 h4 ⊢
  have hfr : ∀ a : Act, a = ⟨lfr (.pointer (some ⟨g, 0, none⟩)) (.int .u64 (k : Int)) (.int .i64 del) (.int .i64 (-1)) (.int .i64 (W : Int)) (.int .u64 ((N : Int) / 10)) (fun n => a.tmps.getD n undef), []⟩ → a = ⟨lfr (.pointer (some ⟨g, 0, none⟩)) (.int .u64 (k : Int)) (.int .i64 del) (.int .i64 (-1)) (.int .i64 ((FP.digs (N / 10)).length : Int)) (.int .u64 ((N / 10 : Nat) : Int)) (fun n => a.tmps.getD n undef), []⟩ := by
   intro a ha
   rw [← hWW]
   exact ha
  have hmu : ∀ a : Act, a = ⟨lfr (.pointer (some ⟨g, 0, none⟩)) (.int .u64 (k : Int)) (.int .i64 del) (.int .i64 (-1)) (.int .i64 (W : Int)) (.int .u64 ((N : Int) / 10)) (fun n => a.tmps.getD n undef), []⟩ → (intOf (a.tmps.getD 7 undef)).toNat < ((N : Int)).toNat := by
   intro a ha
   rw [ha]
   show ((N : Int) / 10).toNat < _
   omega
  refine l2_in h2 k W N _ (by omega) (by omega) (by omega) hN2 u _ _ fun a ha => ?_
  refine ⟨⟨N / 10, _, by omega, hfr a ha, ⟨_, _, _, h1, h2.set_d (by omega) (N % 10 + 48), ?_, ?_⟩, hO.set _ _⟩, hmu a ha⟩
  ·rw [← hWW]
   refine FP.Placed.cons h3 (fun i hi => ?_) (fun _ => ?_)
   ·unfold upd; rw [if_neg hi]
   ·unfold upd; rw [if_pos rfl]
  ·rw [← hWW, h4, FP.lost_in (by omega)]
end
def CheatAt (w : World) (B O k delta : Nat) (cs : List Nat) : Prop :=
 w.cell? ⟨B, O + k * 2, none⟩ = some (.int .i64 (delta : Int)) ∧ ∃ s, w.cell? ⟨B, O + k * 2 + 1, none⟩ = some (.string s) ∧ Let s cs
def Cheats (w : World) (B O C : Nat) : Prop :=
 w.cell? ⟨23, 0, none⟩ = some (.slice (some ⟨B, O, none⟩) 61 C) ∧ ∀ k, 1 ≤ k → k ≤ 60 → ∃ delta cs, CheatAt w B O k delta cs ∧ FP.Cheat k delta cs
def DecL (w : World) (g : Nat) (s : List Nat × Int × Bool) (neg : Bool) : Prop := ∃ d, Dec w g d s.1.length s.2.1 neg s.2.2 ∧ FP.Lst d s.1
theorem ls_true {w : World} {g : Nat} {d : Nat → Nat} {ds : List Nat} {dp : Int} {neg tr : Bool} (h : Dec w g d ds.length dp neg tr) (hL : FP.Lst d ds) (hd : ∀ x ∈ ds, x < 10) (hld : FP.Lead ds) (hl : ds.length ≤ 800)
  (k : Nat) (hk1 : 1 ≤ k) (hk : k ≤ 60) (hdp0 : -100000 ≤ dp) (hdp1 : dp ≤ 100000) {B O C : Nat} (hv : w.cell? ⟨23, 0, none⟩ = some (.slice (some ⟨B, O, none⟩) 61 C)) {D : Nat} {cs : List Nat} (hc : CheatAt w B O k (D + 1) cs) (hcs : cs.length ≤ 100) (hD : D ≤ 100)
  (hp : FP.pless ds cs = true) (hlen : (FP.digs (FP.lmul (2 ^ k) ds).1).length = D) :
  Calls Tryz.prog 128 #[.pointer (some ⟨g, 0, none⟩), .int .u64 (k : Int)] w fun e w' => e = .returned (.tuple #[]) ∧ DecL w' g (FP.shlD k (ds, dp, tr)) neg ∧ Only g w w' := by
 obtain ⟨hc1, s, hc2, hc3⟩ := hc
 have cnd := h.cnd
 have PL := fun n => pless_calls (h.drewN n) hL hd hl s cs hc3 hcs 800
 rw [hp] at PL
 have PL := az PL
 have H := az h
 have HL := az hL
 have HD := az hd
 have HLD := az hld
 have HLEN := az hlen
 have hnd8 : (ds.length : Int) ≤ 800 := by omega
 have hD8 : (D : Int) ≤ 100 := by omega
 have hk61 : (k : Int) < 61 := by omega
 have HK1 := az hk1
 refine byR fun R hR => ?_
 have HR := az hR
 clear h hL hd hld hlen hc3 hp hk1 hR
 go_enter Tryz.func128, Tryz.ntmps128
 go_wp2_with fail
 go_quiet (exact Calls.quiet_of (PL.out _))
 go_wp2_with fail
 refine l1_loop (g := g) (k := k) (D := D) (ds := ds) (dp := dp) (neg := neg) (tr := tr) hk hD HD.out hl ?_ ⟨⟨d, tr, H.out.drewN _, HL.out, by rw [List.drop_length]; exact FP.Placed.nil _ _, by rw [List.drop_length]; rw [show FP.lost (ds.length + D) (FP.lmul (2 ^ k) []).2 = false from FP.lost_nil _, Bool.or_false]⟩, Only.refl _ _⟩ (by kernel_rfl) rfl
 intro a w1 hI1 ha
 rw [ha]
 clear ha
 unfold lfr
 simp only [Exit.inBlock, Exit.then, ↓reduceIte]
 obtain ⟨⟨d1, t1, g1, _, g3, g4⟩, g5⟩ := hI1
 have hsm := FP.lmul_small (2 ^ k) (Nat.two_pow_pos k) ds HD.out
 have hk60 : 2 ^ k ≤ 2 ^ 60 := Nat.pow_le_pow_right (by omega) hk
 obtain ⟨N, hN⟩ : ∃ N, N = (FP.lmul (2 ^ k) ds).1 := ⟨_, rfl⟩
 have HLEN := HLEN.out
 have hI2 : LInv2 (w.drewN _) g k ds dp neg tr N w1 := ⟨⟨d1, t1, (FP.lmul (2 ^ k) ds).2, by rw [hN]; rfl, g1, by rw [hN, HLEN]; simpa using g3, by rw [hN, HLEN]; simpa using g4⟩, g5⟩
 have HI2 := az hI2
 have HN2 := az (show N < 2 ^ 64 by omega)
 rw [← hN] at hsm HLEN ⊢
 have HLEN := az HLEN
 clear g1 g3 g4 g5 hI2 hsm hk60
 have HN := az hN
 clear hN
 go_wp2_with fail
 refine l2_loop (g := g) (k := k) (ds := ds) (dp := dp) (neg := neg) (tr := tr) (N := N) HN2.out ?_ HI2.out (by kernel_rfl) (by rw [HLEN.out]; rfl)
 intro a w2 hI2 ha
 rw [ha]
 clear ha
 unfold lfr
 simp only [Exit.inBlock, Exit.then, ↓reduceIte]
 obtain ⟨⟨d2, t2, S, e1, e2, e3, e4⟩, e5⟩ := hI2
 rw [FP.digs_zero, List.nil_append] at e1
 rw [FP.digs_zero, List.length_nil] at e3 e4
 subst e1
 have hSl : (FP.leftD k ds).length = ds.length + D := by
  unfold FP.leftD
  rw [List.length_append, FP.lmul_len, ← HN.out, HLEN.out]
  omega
 have hne : FP.trimZ ((FP.leftD k ds).take 800) ≠ [] := by
  obtain ⟨x, t, hx, _⟩ := (FP.lead_left (k := k) HLD.out HD.out).take_trim
  rw [hx]; simp
 have LST := az e3.lst
 have E2 := az e2
 have E5 := az e5
 have HSL := az hSl
 have HNE := az hne
 have v1 := e2.cnd
 have v2 := e2.cdp
 have f1 := e2.frozen 800
 have f2 := e2.frozen 801
 have T2 : t2 = (tr || ((FP.leftD k ds).drop 800).any (· ≠ 0)) := e4
 have T2 := az T2
 clear e2 e3 e4 e5 hSl hne cnd
 have fin : ∀ w3, Dec w3 g d2 (FP.trimZ ((FP.leftD k ds).take 800)).length (if FP.trimZ ((FP.leftD k ds).take 800) = [] then 0 else dp + D) neg t2 → Only g w2 w3 → R (.returned (.tuple #[])) w3 := by
  intro w3 a1 a2
  rw [HR.out]
  rw [if_neg HNE.out, T2.out] at a1
  refine ⟨rfl, ⟨d2, ?_, LST.out.trim⟩, ((Only.refl g w).drewN _).trans (E5.out.trans a2)⟩
  unfold FP.shlD
  simp only
  rw [← HN.out, HLEN.out]
  exact a1
 have FIN := az fin
 clear fin
 by_cases hbig : 800 ≤ ds.length + D
 ·have tb : decide (800 ≤ (ds.length : Int) + (D : Int)) = true := dT
  have HB := az hbig
  clear hbig
  go_wp2_with fail
  refine (trim_calls (g := g) (d := d2) (ds := (FP.leftD k ds).take 800) (dp := dp + D) (neg := neg) (tr := t2) ?_ LST.out (by rw [List.length_take]; omega)).mono ?_
  ·rw [List.length_take, Nat.min_eq_left (by rw [HSL.out]; exact HB.out)]
   exact ((E2.out.set_nd (ds.length + D)).set_nd 800).set_dp (dp + D)
  ·rintro e w3 ⟨rfl, a1, a2⟩
   go_wp2_with fail
   go_end0
   exact FIN.out w3 a1 (((((Only.refl g w2).set 800 _).set 800 _).set 801 _).trans a2)
 ·have tb : decide (800 ≤ (ds.length : Int) + (D : Int)) = false := dF
  have HB := az hbig
  clear hbig
  go_wp2_with fail
  refine (trim_calls (g := g) (d := d2) (ds := (FP.leftD k ds).take 800) (dp := dp + D) (neg := neg) (tr := t2) ?_ LST.out (by rw [List.length_take]; omega)).mono ?_
  ·rw [List.length_take, Nat.min_eq_right (by rw [HSL.out]; have := HB.out; omega), HSL.out]
   exact (E2.out.set_nd (ds.length + D)).set_dp (dp + D)
  ·rintro e w3 ⟨rfl, a1, a2⟩
   go_wp2_with fail
   go_end0
   exact FIN.out w3 a1 ((((Only.refl g w2).set 800 _).set 801 _).trans a2)
theorem ls_false {w : World} {g : Nat} {d : Nat → Nat} {ds : List Nat} {dp : Int} {neg tr : Bool} (h : Dec w g d ds.length dp neg tr) (hL : FP.Lst d ds) (hd : ∀ x ∈ ds, x < 10) (hld : FP.Lead ds) (hl : ds.length ≤ 800)
  (k : Nat) (hk1 : 1 ≤ k) (hk : k ≤ 60) (hdp0 : -100000 ≤ dp) (hdp1 : dp ≤ 100000) {B O C : Nat} (hv : w.cell? ⟨23, 0, none⟩ = some (.slice (some ⟨B, O, none⟩) 61 C)) {D : Nat} {cs : List Nat} (hc : CheatAt w B O k (D) cs) (hcs : cs.length ≤ 100) (hD : D ≤ 100)
  (hp : FP.pless ds cs = false) (hlen : (FP.digs (FP.lmul (2 ^ k) ds).1).length = D) :
  Calls Tryz.prog 128 #[.pointer (some ⟨g, 0, none⟩), .int .u64 (k : Int)] w fun e w' => e = .returned (.tuple #[]) ∧ DecL w' g (FP.shlD k (ds, dp, tr)) neg ∧ Only g w w' := by
 obtain ⟨hc1, s, hc2, hc3⟩ := hc
 have cnd := h.cnd
 have PL := fun n => pless_calls (h.drewN n) hL hd hl s cs hc3 hcs 800
 rw [hp] at PL
 have PL := az PL
 have H := az h
 have HL := az hL
 have HD := az hd
 have HLD := az hld
 have HLEN := az hlen
 have hnd8 : (ds.length : Int) ≤ 800 := by omega
 have hD8 : (D : Int) ≤ 100 := by omega
 have hk61 : (k : Int) < 61 := by omega
 have HK1 := az hk1
 refine byR fun R hR => ?_
 have HR := az hR
 clear h hL hd hld hlen hc3 hp hk1 hR
 go_enter Tryz.func128, Tryz.ntmps128
 go_wp2_with fail
 go_quiet (exact Calls.quiet_of (PL.out _))
 go_wp2_with fail
 refine l1_loop (g := g) (k := k) (D := D) (ds := ds) (dp := dp) (neg := neg) (tr := tr) hk hD HD.out hl ?_ ⟨⟨d, tr, H.out.drewN _, HL.out, by rw [List.drop_length]; exact FP.Placed.nil _ _, by rw [List.drop_length]; rw [show FP.lost (ds.length + D) (FP.lmul (2 ^ k) []).2 = false from FP.lost_nil _, Bool.or_false]⟩, Only.refl _ _⟩ (by kernel_rfl) rfl
 intro a w1 hI1 ha
 rw [ha]
 clear ha
 unfold lfr
 simp only [Exit.inBlock, Exit.then, ↓reduceIte]
 obtain ⟨⟨d1, t1, g1, _, g3, g4⟩, g5⟩ := hI1
 have hsm := FP.lmul_small (2 ^ k) (Nat.two_pow_pos k) ds HD.out
 have hk60 : 2 ^ k ≤ 2 ^ 60 := Nat.pow_le_pow_right (by omega) hk
 obtain ⟨N, hN⟩ : ∃ N, N = (FP.lmul (2 ^ k) ds).1 := ⟨_, rfl⟩
 have HLEN := HLEN.out
 have hI2 : LInv2 (w.drewN _) g k ds dp neg tr N w1 := ⟨⟨d1, t1, (FP.lmul (2 ^ k) ds).2, by rw [hN]; rfl, g1, by rw [hN, HLEN]; simpa using g3, by rw [hN, HLEN]; simpa using g4⟩, g5⟩
 have HI2 := az hI2
 have HN2 := az (show N < 2 ^ 64 by omega)
 rw [← hN] at hsm HLEN ⊢
 have HLEN := az HLEN
 clear g1 g3 g4 g5 hI2 hsm hk60
 have HN := az hN
 clear hN
 go_wp2_with fail
 refine l2_loop (g := g) (k := k) (ds := ds) (dp := dp) (neg := neg) (tr := tr) (N := N) HN2.out ?_ HI2.out (by kernel_rfl) (by rw [HLEN.out]; rfl)
 intro a w2 hI2 ha
 rw [ha]
 clear ha
 unfold lfr
 simp only [Exit.inBlock, Exit.then, ↓reduceIte]
 obtain ⟨⟨d2, t2, S, e1, e2, e3, e4⟩, e5⟩ := hI2
 rw [FP.digs_zero, List.nil_append] at e1
 rw [FP.digs_zero, List.length_nil] at e3 e4
 subst e1
 have hSl : (FP.leftD k ds).length = ds.length + D := by
  unfold FP.leftD
  rw [List.length_append, FP.lmul_len, ← HN.out, HLEN.out]
  omega
 have hne : FP.trimZ ((FP.leftD k ds).take 800) ≠ [] := by
  obtain ⟨x, t, hx, _⟩ := (FP.lead_left (k := k) HLD.out HD.out).take_trim
  rw [hx]; simp
 have LST := az e3.lst
 have E2 := az e2
 have E5 := az e5
 have HSL := az hSl
 have HNE := az hne
 have v1 := e2.cnd
 have v2 := e2.cdp
 have f1 := e2.frozen 800
 have f2 := e2.frozen 801
 have T2 : t2 = (tr || ((FP.leftD k ds).drop 800).any (· ≠ 0)) := e4
 have T2 := az T2
 clear e2 e3 e4 e5 hSl hne cnd
 have fin : ∀ w3, Dec w3 g d2 (FP.trimZ ((FP.leftD k ds).take 800)).length (if FP.trimZ ((FP.leftD k ds).take 800) = [] then 0 else dp + D) neg t2 → Only g w2 w3 → R (.returned (.tuple #[])) w3 := by
  intro w3 a1 a2
  rw [HR.out]
  rw [if_neg HNE.out, T2.out] at a1
  refine ⟨rfl, ⟨d2, ?_, LST.out.trim⟩, ((Only.refl g w).drewN _).trans (E5.out.trans a2)⟩
  unfold FP.shlD
  simp only
  rw [← HN.out, HLEN.out]
  exact a1
 have FIN := az fin
 clear fin
 by_cases hbig : 800 ≤ ds.length + D
 ·have tb : decide (800 ≤ (ds.length : Int) + (D : Int)) = true := dT
  have HB := az hbig
  clear hbig
  go_wp2_with fail
  refine (trim_calls (g := g) (d := d2) (ds := (FP.leftD k ds).take 800) (dp := dp + D) (neg := neg) (tr := t2) ?_ LST.out (by rw [List.length_take]; omega)).mono ?_
  ·rw [List.length_take, Nat.min_eq_left (by rw [HSL.out]; exact HB.out)]
   exact ((E2.out.set_nd (ds.length + D)).set_nd 800).set_dp (dp + D)
  ·rintro e w3 ⟨rfl, a1, a2⟩
   go_wp2_with fail
   go_end0
   exact FIN.out w3 a1 (((((Only.refl g w2).set 800 _).set 800 _).set 801 _).trans a2)
 ·have tb : decide (800 ≤ (ds.length : Int) + (D : Int)) = false := dF
  have HB := az hbig
  clear hbig
  go_wp2_with fail
  refine (trim_calls (g := g) (d := d2) (ds := (FP.leftD k ds).take 800) (dp := dp + D) (neg := neg) (tr := t2) ?_ LST.out (by rw [List.length_take]; omega)).mono ?_
  ·rw [List.length_take, Nat.min_eq_right (by rw [HSL.out]; have := HB.out; omega), HSL.out]
   exact (E2.out.set_nd (ds.length + D)).set_dp (dp + D)
  ·rintro e w3 ⟨rfl, a1, a2⟩
   go_wp2_with fail
   go_end0
   exact FIN.out w3 a1 ((((Only.refl g w2).set 800 _).set 801 _).trans a2)
theorem left_calls {w : World} {g : Nat} {ds : List Nat} {dp : Int} {neg tr : Bool} (h : DecL w g (ds, dp, tr) neg) (hd : ∀ x ∈ ds, x < 10) (hld : FP.Lead ds) (hl : ds.length ≤ 800)
  (k : Nat) (hk1 : 1 ≤ k) (hk : k ≤ 60) (hdp0 : -100000 ≤ dp) (hdp1 : dp ≤ 100000) {B O C : Nat} (hC : Cheats w B O C) :
  Calls Tryz.prog 128 #[.pointer (some ⟨g, 0, none⟩), .int .u64 (k : Int)] w fun e w' => e = .returned (.tuple #[]) ∧ DecL w' g (FP.shlD k (ds, dp, tr)) neg ∧ Only g w w' := by
 obtain ⟨d, h1, h2⟩ := h
 obtain ⟨hv, hC⟩ := hC
 obtain ⟨delta, cs, hc, hx⟩ := hC k hk1 hk
 have hne : ds ≠ [] := by obtain ⟨x, t, e, _⟩ := hld; rw [e]; simp
 have h0 : 10 ^ (ds.length - 1) ≤ FP.num ds := by obtain ⟨x, t, e, hx1⟩ := hld; exact FP.num_len e hx1
 have hlen := FP.left_len hx hd h0 hne
 have a1 := hx.d1
 have a2 := hx.len
 cases hp : FP.pless ds cs with
 | true =>
  rw [hp, if_pos rfl] at hlen
  obtain ⟨D, rfl⟩ : ∃ D, delta = D + 1 := ⟨delta - 1, by omega⟩
  exact ls_true h1 h2 hd hld hl k hk1 hk hdp0 hdp1 hv hc (by omega) (by omega) hp hlen
 | false =>
  rw [hp, if_neg (by simp)] at hlen
  exact ls_false h1 h2 hd hld hl k hk1 hk hdp0 hdp1 hv hc (by omega) (by omega) hp hlen
end Go.Proofs.YtbimfhaokgigkaaGreatDoor
