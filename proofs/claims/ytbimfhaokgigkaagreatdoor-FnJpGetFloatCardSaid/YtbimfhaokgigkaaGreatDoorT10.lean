/- Walks of functions of FnJpGetFloat (B1, B2, B3, B4, B5); conditions stand ahead of each theorem. -/
import Derived.Test.YtbimfhaokgigkaaGreatDoorT07
import Derived.Test.YtbimfhaokgigkaaGreatDoorT03
import Derived.Deep.QuietTactic
import Derived.BigQuiet
import Derived.LoopTactic
set_option linter.unusedVariables false
set_option linter.unusedSimpArgs false
set_option maxRecDepth 1000000
set_option maxHeartbeats 1000000
namespace Go.Proofs.YtbimfhaokgigkaaGreatDoor
open Go.RowKit Go.Proofs.YtbimfhaokgigkaaGreatDoorW.PrintWords Go.Proofs.YtbimfhaokgigkaaGreatDoorW.PrintLast
structure DecArr (A : Array Value) (d : Nat → Nat) (nd : Nat) (dp : Int) (neg tr : Bool) : Prop where
 size : A.size = 804
 d : ∀ i < 800, A[i]? = some (.int .u8 (d i : Int))
 nd : A[800]? = some (.int .i64 (nd : Int))
 dp : A[801]? = some (.int .i64 dp)
 neg : A[802]? = some (.bool neg)
 tr : A[803]? = some (.bool tr)
def Dec (w : World) (g : Nat) (d : Nat → Nat) (nd : Nat) (dp : Int) (neg tr : Bool) : Prop := ∃ A, w.heap[g]? = some (.cells A 160 (0, 0)) ∧ DecArr A d nd dp neg tr
def upd (d : Nat → Nat) (i v : Nat) : Nat → Nat := fun j => if j = i then v else d j
section
variable {w : World} {g : Nat} {d : Nat → Nat} {nd : Nat} {dp : Int} {neg tr : Bool}
theorem Dec.cell (h : Dec w g d nd dp neg tr) {i : Nat} (hi : i < 800) : w.cell? ⟨g, i, none⟩ = some (.int .u8 (d i : Int)) := by
 obtain ⟨A, h1, h2⟩ := h
 rw [blk_cell h1, h2.d i hi]
theorem Dec.cnd (h : Dec w g d nd dp neg tr) : w.cell? ⟨g, 800, none⟩ = some (.int .i64 (nd : Int)) := by obtain ⟨A, h1, h2⟩ := h; rw [blk_cell h1, h2.nd]
theorem Dec.cdp (h : Dec w g d nd dp neg tr) : w.cell? ⟨g, 801, none⟩ = some (.int .i64 dp) := by obtain ⟨A, h1, h2⟩ := h; rw [blk_cell h1, h2.dp]
theorem Dec.cneg (h : Dec w g d nd dp neg tr) : w.cell? ⟨g, 802, none⟩ = some (.bool neg) := by obtain ⟨A, h1, h2⟩ := h; rw [blk_cell h1, h2.neg]
theorem Dec.ctr (h : Dec w g d nd dp neg tr) : w.cell? ⟨g, 803, none⟩ = some (.bool tr) := by obtain ⟨A, h1, h2⟩ := h; rw [blk_cell h1, h2.tr]
theorem Dec.frozen (h : Dec w g d nd dp neg tr) (i : Nat) : w.frozen? ⟨g, i, none⟩ = false := by obtain ⟨A, h1, h2⟩ := h; exact blk_frozen h1 i
theorem Dec.lt (h : Dec w g d nd dp neg tr) : g < w.heap.size := by
 obtain ⟨A, h1, h2⟩ := h
 have := Array.getElem?_eq_some_iff.mp h1
 exact this.1
theorem Dec.drewN (h : Dec w g d nd dp neg tr) (n : Nat) : Dec (w.drewN n) g d nd dp neg tr := h
theorem Dec.set_nd (h : Dec w g d nd dp neg tr) (v : Nat) : Dec (w.setCell ⟨g, 800, none⟩ (.int .i64 (v : Int))) g d v dp neg tr := by
 obtain ⟨A, h1, h2⟩ := h
 refine ⟨_, blk_set h1 800 _, ?_, ?_, ?_, ?_, ?_, ?_⟩
 ·rw [Array.size_setIfInBounds, h2.size]
 ·intro i hi; rw [Array.getElem?_setIfInBounds_ne (by omega), h2.d i hi]
 ·rw [Array.getElem?_setIfInBounds_self_of_lt (by rw [h2.size]; omega)]
 ·rw [Array.getElem?_setIfInBounds_ne (by omega), h2.dp]
 ·rw [Array.getElem?_setIfInBounds_ne (by omega), h2.neg]
 ·rw [Array.getElem?_setIfInBounds_ne (by omega), h2.tr]
theorem Dec.set_dp (h : Dec w g d nd dp neg tr) (v : Int) : Dec (w.setCell ⟨g, 801, none⟩ (.int .i64 v)) g d nd v neg tr := by
 obtain ⟨A, h1, h2⟩ := h
 refine ⟨_, blk_set h1 801 _, ?_, ?_, ?_, ?_, ?_, ?_⟩
 ·rw [Array.size_setIfInBounds, h2.size]
 ·intro i hi; rw [Array.getElem?_setIfInBounds_ne (by omega), h2.d i hi]
 ·rw [Array.getElem?_setIfInBounds_ne (by omega), h2.nd]
 ·rw [Array.getElem?_setIfInBounds_self_of_lt (by rw [h2.size]; omega)]
 ·rw [Array.getElem?_setIfInBounds_ne (by omega), h2.neg]
 ·rw [Array.getElem?_setIfInBounds_ne (by omega), h2.tr]
theorem Dec.set_neg (h : Dec w g d nd dp neg tr) (v : Bool) : Dec (w.setCell ⟨g, 802, none⟩ (.bool v)) g d nd dp v tr := by
 obtain ⟨A, h1, h2⟩ := h
 refine ⟨_, blk_set h1 802 _, ?_, ?_, ?_, ?_, ?_, ?_⟩
 ·rw [Array.size_setIfInBounds, h2.size]
 ·intro i hi; rw [Array.getElem?_setIfInBounds_ne (by omega), h2.d i hi]
 ·rw [Array.getElem?_setIfInBounds_ne (by omega), h2.nd]
 ·rw [Array.getElem?_setIfInBounds_ne (by omega), h2.dp]
 ·rw [Array.getElem?_setIfInBounds_self_of_lt (by rw [h2.size]; omega)]
 ·rw [Array.getElem?_setIfInBounds_ne (by omega), h2.tr]
theorem Dec.set_tr (h : Dec w g d nd dp neg tr) (v : Bool) : Dec (w.setCell ⟨g, 803, none⟩ (.bool v)) g d nd dp neg v := by
 obtain ⟨A, h1, h2⟩ := h
 refine ⟨_, blk_set h1 803 _, ?_, ?_, ?_, ?_, ?_, ?_⟩
 ·rw [Array.size_setIfInBounds, h2.size]
 ·intro i hi; rw [Array.getElem?_setIfInBounds_ne (by omega), h2.d i hi]
 ·rw [Array.getElem?_setIfInBounds_ne (by omega), h2.nd]
 ·rw [Array.getElem?_setIfInBounds_ne (by omega), h2.dp]
 ·rw [Array.getElem?_setIfInBounds_ne (by omega), h2.neg]
 ·rw [Array.getElem?_setIfInBounds_self_of_lt (by rw [h2.size]; omega)]
theorem Dec.set_d (h : Dec w g d nd dp neg tr) {i : Nat} (hi : i < 800) (v : Nat) : Dec (w.setCell ⟨g, i, none⟩ (.int .u8 (v : Int))) g (upd d i v) nd dp neg tr := by
 obtain ⟨A, h1, h2⟩ := h
 refine ⟨_, blk_set h1 i _, ?_, ?_, ?_, ?_, ?_, ?_⟩
 ·rw [Array.size_setIfInBounds, h2.size]
 ·intro j hj
  unfold upd
  by_cases e : j = i
  ·subst e; rw [Array.getElem?_setIfInBounds_self_of_lt (by rw [h2.size]; omega), if_pos rfl]
  ·rw [Array.getElem?_setIfInBounds_ne (by omega), h2.d j hj, if_neg e]
 ·rw [Array.getElem?_setIfInBounds_ne (by omega), h2.nd]
 ·rw [Array.getElem?_setIfInBounds_ne (by omega), h2.dp]
 ·rw [Array.getElem?_setIfInBounds_ne (by omega), h2.neg]
 ·rw [Array.getElem?_setIfInBounds_ne (by omega), h2.tr]
end
noncomputable def trimBody : Code := loopOf Tryz.f136 0
def tfr (v0 : Value) (u : Nat → Value) : Array Value := #[v0, u 1, u 2, u 3, u 4, u 5, u 6, u 7, u 8, u 9, u 10, u 11, u 12, u 13, u 14, u 15, u 16, u 17, u 18, u 19, u 20, u 21, u 22, u 23, u 24, u 25, u 26, u 27, u 28, u 29, u 30, u 31, u 32, u 33, u 34]
section
variable {g : Nat} {d : Nat → Nat} {dp : Int} {neg tr : Bool}
def trimInv (w0 : World) (ds : List Nat) (g : Nat) (d : Nat → Nat) (dp : Int) (neg tr : Bool) (n : Nat) (a : Act) (w : World) : Prop := (∃ u, a = ⟨tfr (.pointer (some ⟨g, 0, none⟩)) u, []⟩) ∧ Dec w g d n dp neg tr ∧ Only g w0 w ∧ n ≤ ds.length ∧ FP.trimZ (ds.take n) = FP.trimZ ds
theorem Only.drewN {g : Nat} {a w : World} (h : Only g a w) (n : Nat) : Only g a (w.drewN n) := ⟨h.os, h.tape, h.output, h.size, h.block⟩
theorem trim_round {w : World} {nd : Nat} (h : Dec w g d (nd + 1) dp neg tr) (hnd : nd < 800) (hd : d nd = 48) (u : Nat → Value) (I : Act → World → Prop) (Q : Exit → Act → World → Prop)
  (hI : ∀ (a : Act) n, a = ⟨tfr (.pointer (some ⟨g, 0, none⟩)) (fun n => a.tmps.getD n undef), []⟩ → I a ((w.drewN n).setCell ⟨g, 800, none⟩ (.int .i64 (nd : Int)))) :
  Code.wp Tryz.prog trimBody (Exit.then I Q) ⟨tfr (.pointer (some ⟨g, 0, none⟩)) u, []⟩ w := by
 have c0 := h.cnd
 have c1 := h.cell hnd
 have f0 := h.frozen 800
 have e0 : ((d nd : Int) == 48) = true := bT
 have n0 : decide (0 < ((nd + 1 : Nat) : Int)) = true := dT
 have hn : (nd : Int) ≤ 800 := by omega
 have HI := az hI
 clear h hd hI
 unfold tfr
 conv => arg 2; whnf
 go_wp2_with fail
 go_quiet (fail)
 go_wp2_with fail
 exact HI.out _ _ rfl
theorem trim_out0 {w : World} (h : Dec w g d 0 dp neg tr) (u : Nat → Value) (I : Act → World → Prop) (Q : Exit → Act → World → Prop)
  (hQ : ∀ (a : Act) n, a = ⟨tfr (.pointer (some ⟨g, 0, none⟩)) (fun n => a.tmps.getD n undef), []⟩ → Q (.exit 0) a (w.drewN n)) :
  Code.wp Tryz.prog trimBody (Exit.then I Q) ⟨tfr (.pointer (some ⟨g, 0, none⟩)) u, []⟩ w := by
 have c0 : w.cell? ⟨g, 800, none⟩ = some (.int .i64 0) := h.cnd
 have HQ := az hQ
 clear h hQ
 unfold tfr
 conv => arg 2; whnf
 go_wp2_with fail
 go_quiet (fail)
 go_wp2_with fail
 exact HQ.out _ _ rfl
theorem trim_out1 {w : World} {nd : Nat} (h : Dec w g d (nd + 1) dp neg tr) (hnd : nd < 800) (hd : d nd ≠ 48) (u : Nat → Value) (I : Act → World → Prop) (Q : Exit → Act → World → Prop)
  (hQ : ∀ (a : Act) n, a = ⟨tfr (.pointer (some ⟨g, 0, none⟩)) (fun n => a.tmps.getD n undef), []⟩ → Q (.exit 0) a (w.drewN n)) :
  Code.wp Tryz.prog trimBody (Exit.then I Q) ⟨tfr (.pointer (some ⟨g, 0, none⟩)) u, []⟩ w := by
 have c0 := h.cnd
 have c1 := h.cell hnd
 have e0 : ((d nd : Int) == 48) = false := bF
 have n0 : decide (0 < ((nd + 1 : Nat) : Int)) = true := dT
 have hn : (nd : Int) ≤ 800 := by omega
 have HQ := az hQ
 clear h hd hQ
 unfold tfr
 conv => arg 2; whnf
 go_wp2_with fail
 go_quiet (fail)
 go_wp2_with fail
 exact HQ.out _ _ rfl
theorem trim_loop {w0 : World} {ds : List Nat} (hL : FP.Lst d ds) (hl : ds.length ≤ 800) {Q : Exit → Act → World → Prop}
  (hQ : ∀ u w', Dec w' g d (FP.trimZ ds).length dp neg tr → Only g w0 w' → Q (.exit 0) ⟨tfr (.pointer (some ⟨g, 0, none⟩)) u, []⟩ w')
  {c : Code} {a : Act} (h : Dec w0 g d ds.length dp neg tr) (hc : trimBody = c) (ha : a = ⟨tfr (.pointer (some ⟨g, 0, none⟩)) (fun n => a.tmps.getD n undef), []⟩) :
  Code.wp Tryz.prog (.loop c) Q a w0 := by
 subst hc
 refine wp_loop (fun a w => ∃ n, trimInv w0 ds g d dp neg tr n a w) (fun a w => ((w.cell? ⟨g, 800, none⟩).elim 0 intOf).toNat) ⟨ds.length, ⟨_, ha⟩, h, Only.refl g w0, Nat.le_refl _, by rw [List.take_length]⟩ ?_
 rintro a w ⟨n, ⟨u, rfl⟩, hD, hO, hn, ht⟩
 cases n with
 | zero =>
  refine trim_out0 hD u _ _ fun a m ha => ?_
  rw [ha]
  refine hQ _ _ ?_ (hO.drewN m)
  rw [← ht]; exact hD
 | succ n =>
  rw [FP.take_snoc ds (by omega)] at ht
  have hdn := hL n (by omega)
  by_cases e : ds.getD n 0 = 0
  ·refine trim_round hD (by omega) (by omega) u _ _ fun a m ha => ?_
   have hD' := (hD.drewN m).set_nd n
   refine ⟨⟨n, ⟨_, ha⟩, hD', (hO.drewN m).set 800 _, by omega, ?_⟩, ?_⟩
   ·rw [e, FP.trimZ_zero] at ht; exact ht
   ·simp only [hD'.cnd, hD.cnd, Option.elim, intOf]; omega
  ·refine trim_out1 hD (by omega) (by omega) u _ _ fun a m ha => ?_
   rw [ha]
   refine hQ _ _ ?_ (hO.drewN m)
   rw [FP.trimZ_stay _ e] at ht
   have hlen : (FP.trimZ ds).length = n + 1 := by rw [← ht]; simp; omega
   rw [hlen]; exact hD
end
theorem trim_calls {g : Nat} {d : Nat → Nat} {dp : Int} {neg tr : Bool} {w : World} {ds : List Nat} (h : Dec w g d ds.length dp neg tr) (hL : FP.Lst d ds) (hl : ds.length ≤ 800) :
  Calls Tryz.prog 136 #[.pointer (some ⟨g, 0, none⟩)] w fun e w' => e = .returned (.tuple #[]) ∧ Dec w' g d (FP.trimZ ds).length (if FP.trimZ ds = [] then 0 else dp) neg tr ∧ Only g w w' := by
 have HH := az h
 have HL := az hL
 clear h hL
 generalize hdp : (if FP.trimZ ds = [] then (0 : Int) else dp) = dp2
 have HDP := az hdp
 clear hdp
 go_enter Tryz.func136, Tryz.ntmps136
 go_wp2_with fail
 refine trim_loop HL.out hl ?_ HH.out (by kernel_rfl) rfl
 intro u w1 h1 h2
 have c0 := h1.cnd
 have c1 := h1.cdp
 have f1 := h1.frozen 801
 have H1 := az h1
 have H2 := az h2
 unfold tfr
 simp only [Exit.inBlock, Exit.then, ↓reduceIte]
 cases hz : FP.trimZ ds with
 | nil =>
  have c00 : w1.cell? ⟨g, 800, none⟩ = some (.int .i64 0) := by rw [c0, hz]; rfl
  clear c0
  have HZ := az hz
  clear h1 h2 hz
  go_wp2_with fail
  go_end0
  have H1 := H1.out
  rw [← HDP.out, if_pos HZ.out]
  exact ⟨rfl, H1.set_dp 0, H2.out.set 801 _⟩
 | cons x t =>
  have e0 : (((FP.trimZ ds).length : Int) == 0) = false := by rw [beq_eq_false_iff_ne, hz]; simp; omega
  have HZ := az hz
  clear h1 h2 hz
  go_wp2_with fail
  go_end0
  have H1 := H1.out
  rw [← HDP.out, if_neg (by rw [HZ.out]; simp)]
  exact ⟨rfl, H1, H2.out⟩
theorem sru_neg {w : World} {g : Nat} {d : Nat → Nat} {nd : Nat} {dp : Int} {neg tr : Bool} (h : Dec w g d nd dp neg tr) (hn : nd ≤ 800) (k : Int) (h1 : k < 0) :
  Calls Tryz.prog 130 #[.pointer (some ⟨g, 0, none⟩), .int .i64 k] w fun e w' => e = .returned (.bool (false)) ∧ w' = w := by
 have c0 := h.cnd
 have c3 := h.ctr
 have t1 : decide (k < 0) = true := decide_eq_true h1
 clear h1
 clear h
 go_enter Tryz.func130, Tryz.ntmps130
 go_wp2_with fail
 go_ret
 exact ⟨rfl, rfl⟩
theorem sru_past {w : World} {g : Nat} {d : Nat → Nat} {nd : Nat} {dp : Int} {neg tr : Bool} (h : Dec w g d nd dp neg tr) (hn : nd ≤ 800) (k : Int) (h0 : 0 ≤ k) (h1 : (nd : Int) ≤ k) :
  Calls Tryz.prog 130 #[.pointer (some ⟨g, 0, none⟩), .int .i64 k] w fun e w' => e = .returned (.bool (false)) ∧ w' = w := by
 have c0 := h.cnd
 have c3 := h.ctr
 have t1 : decide (k < 0) = false := dF
 have t2 : decide ((nd : Int) ≤ k) = true := decide_eq_true h1
 clear h1
 clear h
 go_enter Tryz.func130, Tryz.ntmps130
 go_wp2_with fail
 go_ret
 exact ⟨rfl, rfl⟩
theorem sru_half_tr {w : World} {g : Nat} {d : Nat → Nat} {nd : Nat} {dp : Int} {neg tr : Bool} (h : Dec w g d nd dp neg tr) (hn : nd ≤ 800) (k : Nat)(h1 : k + 1 = nd) (h5 : d k = 53) (ht : tr = true) :
  Calls Tryz.prog 130 #[.pointer (some ⟨g, 0, none⟩), .int .i64 (k : Int)] w fun e w' => e = .returned (.bool (true)) ∧ w' = w := by
 have c0 := h.cnd
 have c3 := h.ctr
 have t1 : decide ((k : Int) < 0) = false := dF
 have t2 : decide ((nd : Int) ≤ (k : Int)) = false := dF
 have t2n : decide (nd ≤ k) = false := dF
 have ck := h.cell (i := k) (by omega)
 have hk : (k : Int) < 800 := by omega
 have e5 : ((d k : Int) == 53) = true := bT
 have e1 : ((k : Int) + 1 == (nd : Int)) = true := bT
 rw [ht] at c3
 clear h1 h5 ht
 clear h
 go_enter Tryz.func130, Tryz.ntmps130
 go_wp2_with fail
 go_ret
 exact ⟨rfl, rfl⟩
theorem sru_half_0 {w : World} {g : Nat} {d : Nat → Nat} {nd : Nat} {dp : Int} {neg tr : Bool} (h : Dec w g d nd dp neg tr) (hn : nd ≤ 800) (k : Nat)(h0 : k = 0) (h1 : k + 1 = nd) (h5 : d k = 53) (ht : tr = false) :
  Calls Tryz.prog 130 #[.pointer (some ⟨g, 0, none⟩), .int .i64 (k : Int)] w fun e w' => e = .returned (.bool (false)) ∧ w' = w := by
 have c0 := h.cnd
 have c3 := h.ctr
 have t1 : decide ((k : Int) < 0) = false := dF
 have t2 : decide ((nd : Int) ≤ (k : Int)) = false := dF
 have t2n : decide (nd ≤ k) = false := dF
 have ck := h.cell (i := k) (by omega)
 have hk : (k : Int) < 800 := by omega
 have e5 : ((d k : Int) == 53) = true := bT
 have e1 : ((k : Int) + 1 == (nd : Int)) = true := bT
 have g0 : decide (0 < (k : Int)) = false := dF
 have g0n : decide (0 < k) = false := dF
 rw [ht] at c3
 clear h0 h1 h5 ht
 clear h
 go_enter Tryz.func130, Tryz.ntmps130
 go_wp2_with fail
 go_ret
 exact ⟨rfl, rfl⟩
theorem sru_half_k {w : World} {g : Nat} {d : Nat → Nat} {nd : Nat} {dp : Int} {neg tr : Bool} (h : Dec w g d nd dp neg tr) (hn : nd ≤ 800) (k : Nat)(h0 : 0 < k) (h1 : k + 1 = nd) (h5 : d k = 53) (ht : tr = false) (hp0 : 48 ≤ d (k - 1)) (hp1 : d (k - 1) ≤ 57) :
  Calls Tryz.prog 130 #[.pointer (some ⟨g, 0, none⟩), .int .i64 (k : Int)] w fun e w' => e = .returned (.bool (((d (k - 1) : Int) - 48) % 2 != 0)) ∧ w' = w := by
 have c0 := h.cnd
 have c3 := h.ctr
 have t1 : decide ((k : Int) < 0) = false := dF
 have t2 : decide ((nd : Int) ≤ (k : Int)) = false := dF
 have t2n : decide (nd ≤ k) = false := dF
 have ck := h.cell (i := k) (by omega)
 have hk : (k : Int) < 800 := by omega
 have e5 : ((d k : Int) == 53) = true := bT
 have e1 : ((k : Int) + 1 == (nd : Int)) = true := bT
 have g0 : decide (0 < (k : Int)) = true := dT
 have g0n : decide (0 < k) = true := dT
 have cp := h.cell (i := k - 1) (by omega)
 have kp : (((k : Int) - 1).toNat) = k - 1 := by omega
 have kq : 0 ≤ (k : Int) - 1 := by omega
 rw [ht] at c3
 have q0 : 48 ≤ (d (k - 1) : Int) := by omega
 have q1 : (d (k - 1) : Int) ≤ 57 := by omega
 clear h0 h1 h5 ht hp0 hp1
 clear h
 go_enter Tryz.func130, Tryz.ntmps130
 go_wp2_with fail
 go_ret
 exact ⟨rfl, rfl⟩
theorem sru_five {w : World} {g : Nat} {d : Nat → Nat} {nd : Nat} {dp : Int} {neg tr : Bool} (h : Dec w g d nd dp neg tr) (hn : nd ≤ 800) (k : Nat)(h1 : k < nd) (h5 : d k = 53) (h2 : k + 1 ≠ nd) :
  Calls Tryz.prog 130 #[.pointer (some ⟨g, 0, none⟩), .int .i64 (k : Int)] w fun e w' => e = .returned (.bool (true)) ∧ w' = w := by
 have c0 := h.cnd
 have c3 := h.ctr
 have t1 : decide ((k : Int) < 0) = false := dF
 have t2 : decide ((nd : Int) ≤ (k : Int)) = false := dF
 have t2n : decide (nd ≤ k) = false := dF
 have ck := h.cell (i := k) (by omega)
 have hk : (k : Int) < 800 := by omega
 have e5 : ((d k : Int) == 53) = true := bT
 have e1 : ((k : Int) + 1 == (nd : Int)) = false := bF
 have e6 : decide (53 ≤ (d k : Int)) = true := dT
 clear h1 h5 h2
 clear h
 go_enter Tryz.func130, Tryz.ntmps130
 go_wp2_with fail
 go_ret
 exact ⟨rfl, rfl⟩
theorem sru_other {w : World} {g : Nat} {d : Nat → Nat} {nd : Nat} {dp : Int} {neg tr : Bool} (h : Dec w g d nd dp neg tr) (hn : nd ≤ 800) (k : Nat)(h1 : k < nd) (h5 : d k ≠ 53) :
  Calls Tryz.prog 130 #[.pointer (some ⟨g, 0, none⟩), .int .i64 (k : Int)] w fun e w' => e = .returned (.bool (decide (53 ≤ (d k : Int)))) ∧ w' = w := by
 have c0 := h.cnd
 have c3 := h.ctr
 have t1 : decide ((k : Int) < 0) = false := dF
 have t2 : decide ((nd : Int) ≤ (k : Int)) = false := dF
 have t2n : decide (nd ≤ k) = false := dF
 have ck := h.cell (i := k) (by omega)
 have hk : (k : Int) < 800 := by omega
 have e5 : ((d k : Int) == 53) = false := bF
 clear h1 h5
 clear h
 go_enter Tryz.func130, Tryz.ntmps130
 go_wp2_with fail
 go_ret
 exact ⟨rfl, rfl⟩
theorem sru_calls {w : World} {g : Nat} {d : Nat → Nat} {ds : List Nat} {dp : Int} {neg tr : Bool} (h : Dec w g d ds.length dp neg tr) (hL : FP.Lst d ds) (hd : ∀ x ∈ ds, x < 10) (hl : ds.length ≤ 800) (k : Int) :
  Calls Tryz.prog 130 #[.pointer (some ⟨g, 0, none⟩), .int .i64 k] w fun e w' => e = .returned (.bool (FP.roundUp ds k tr)) ∧ w' = w := by
 by_cases h1 : k < 0
 ·rw [show FP.roundUp ds k tr = false by unfold FP.roundUp; rw [if_pos (.inl h1)]]
  exact sru_neg h hl k h1
 by_cases h2 : (ds.length : Int) ≤ k
 ·rw [show FP.roundUp ds k tr = false by unfold FP.roundUp; rw [if_pos (.inr h2)]]
  exact sru_past h hl k (by omega) h2
 obtain ⟨n, rfl⟩ := Int.eq_ofNat_of_zero_le (show 0 ≤ k by omega)
 have hn : n < ds.length := by omega
 have hdn := hL n hn
 have r1 : FP.roundUp ds (n : Int) tr = if ds.getD n 0 = 5 ∧ n + 1 = ds.length then (if tr then true else decide (0 < n) && decide (ds.getD (n - 1) 0 % 2 ≠ 0)) else decide (5 ≤ ds.getD n 0) := by
  unfold FP.roundUp
  rw [if_neg (by omega), show ((n : Int)).toNat = n from rfl]
 rw [r1]
 by_cases h5 : ds.getD n 0 = 5
 ·by_cases h6 : n + 1 = ds.length
  ·rw [if_pos ⟨h5, h6⟩]
   cases tr with
   | true => exact sru_half_tr h hl n h6 (by omega) rfl
   | false =>
    by_cases h0 : n = 0
    ·have e : (if false = true then true else decide (0 < n) && decide (ds.getD (n - 1) 0 % 2 ≠ 0)) = false := by simp [h0]
     rw [e]
     exact sru_half_0 h hl n h0 h6 (by omega) rfl
    ·have hp := hL (n - 1) (by omega)
     have hq : ds.getD (n - 1) 0 < 10 := by
      rw [List.getD_eq_getElem?_getD, List.getElem?_eq_getElem (by omega)]
      exact hd _ (List.getElem_mem _)
     have e : (if false = true then true else decide (0 < n) && decide (ds.getD (n - 1) 0 % 2 ≠ 0)) = (((d (n - 1) : Int) - 48) % 2 != 0) := by
      rw [hp, if_neg (by simp), decide_eq_true (show 0 < n by omega), Bool.true_and, Bool.eq_iff_iff, decide_eq_true_iff, bne_iff_ne]
      omega
     rw [e]
     exact sru_half_k h hl n (by omega) h6 (by omega) rfl (by omega) (by omega)
  ·rw [if_neg (by omega), decide_eq_true (show 5 ≤ ds.getD n 0 by omega)]
   exact sru_five h hl n hn (by omega) h6
 ·rw [if_neg (by omega), show decide (5 ≤ ds.getD n 0) = decide (53 ≤ (d n : Int)) by rw [hdn, Bool.eq_iff_iff, decide_eq_true_iff, decide_eq_true_iff]; omega]
  exact sru_other h hl n hn (by omega)
namespace RI
theorem u64_step (N D : Nat) (h : N * 10 + D < 2 ^ 64) : IntKind.u64.wrap (IntKind.u64.wrap ((N : Int) * 10) + (D : Int)) = ((N * 10 + D : Nat) : Int) := by
 rw [wraps_u64 ((N : Int) * 10) (by omega) (by omega), wraps_u64 _ (by omega) (by omega)]; omega
theorem num_mono (ds : List Nat) (k : Nat) : FP.num (ds.take k) ≤ FP.num (ds.take (k + 1)) := by
 by_cases h : k < ds.length
 ·rw [FP.take_snoc ds h, FP.num_snoc]; omega
 ·rw [List.take_of_length_le (by omega), List.take_of_length_le (by omega)]; exact Nat.le_refl _
theorem num_mono' (ds : List Nat) {a b : Nat} (h : a ≤ b) : FP.num (ds.take a) ≤ FP.num (ds.take b) := by
 induction b with
 | zero => obtain rfl : a = 0 := by omega
           exact Nat.le_refl _
 | succ b ih =>
  by_cases e : a = b + 1
  ·rw [e]; exact Nat.le_refl _
  ·exact Nat.le_trans (ih (by omega)) (num_mono ds b)
def pad (n z : Nat) : Nat := n * 10 ^ z
end RI
theorem ri_calls {w : World} {g : Nat} {d : Nat → Nat} {ds : List Nat} {dp : Int} {neg tr : Bool} (h : Dec w g d ds.length dp neg tr) (hL : FP.Lst d ds) (hd : ∀ x ∈ ds, x < 10) (hl : ds.length ≤ 800) (hdp : dp ≤ 20) (hdp0 : -10000 ≤ dp)
  (hr : FP.rnd ds dp tr < 2 ^ 64) :
  Calls Tryz.prog 123 #[.pointer (some ⟨g, 0, none⟩)] w fun e w' => e = .returned (.int .u64 (FP.rnd ds dp tr : Int)) ∧ w' = w := by
 obtain ⟨k1, hk1⟩ : ∃ k1, k1 = min dp.toNat ds.length := ⟨_, rfl⟩
 have hfin : FP.num (ds.take k1) * 10 ^ (dp.toNat - k1) = FP.num (ds.take dp.toNat) * 10 ^ (dp.toNat - ds.length) := by
  by_cases e : dp.toNat ≤ ds.length
  ·rw [hk1, Nat.min_eq_left e, Nat.sub_self, Nat.sub_eq_zero_of_le e]
  ·rw [hk1, Nat.min_eq_right (by omega), List.take_of_length_le (by omega), List.take_of_length_le (by omega)]
 have hlim : FP.num (ds.take k1) * 10 ^ (dp.toNat - k1) < 2 ^ 64 := by rw [hfin]; unfold FP.rnd at hr; omega
 have hlim1 : FP.num (ds.take k1) < 2 ^ 64 := Nat.lt_of_le_of_lt (Nat.le_mul_of_pos_right _ (Nat.pow_pos (by omega))) hlim
 have c1 := h.cnd
 have c2 := h.cdp
 have t20 : decide (20 < dp) = false := dF
 have HR := sru_calls h hL hd hl dp
 have H := az h
 have HL := az hL
 have HF := az hfin
 have HLIM := az hlim
 have HLIM1 := az hlim1
 have HK := az hk1
 have HSR := az HR
 have HDS := az hd
 obtain ⟨rv, hrv⟩ : ∃ rv, rv = FP.rnd ds dp tr := ⟨_, rfl⟩
 rw [← hrv]
 have HRV := az hrv
 have HRR := az hr
 clear h hL hfin hlim hlim1 HR hk1 hr hrv hd
 go_enter Tryz.func123, Tryz.ntmps123
 go_wp2_with fail
 go_loop [3, 4] (fun i n => ∃ k : Nat, k ≤ k1 ∧ i = .int .i64 (k : Int) ∧ n = .int .u64 (FP.num (ds.take k) : Int)) (fun i _ => k1 - (intOf i).toNat)
 case atStart => exact ⟨0, Nat.zero_le _, rfl, rfl⟩
 case round =>
  obtain ⟨k, hk, rfl, rfl⟩ := hrel
  have HK' := HK.out
  by_cases hlt : k < k1
  ·have t1 : decide ((k : Int) < dp) = true := dT
   have t2 : decide ((k : Int) < (ds.length : Int)) = true := dT
   have t3 : decide (k < ds.length) = true := dT
   have ck := H.out.cell (i := k) (by omega)
   have hkk : (k : Int) < 800 := by omega
   have hdk := HL.out k (by omega)
   have hdd : ds.getD k 0 < 10 := by
    rw [List.getD_eq_getElem?_getD, List.getElem?_eq_getElem (by omega)]
    exact HDS.out _ (List.getElem_mem _)
   have q0 : 48 ≤ (d k : Int) := by omega
   have q1 : (d k : Int) ≤ 57 := by omega
   have hN := RI.num_mono' ds (show k + 1 ≤ k1 by omega)
   have hN2 := HLIM1.out
   have HN := az (show FP.num (ds.take (k + 1)) = FP.num (ds.take k) * 10 + (d k - 48) by rw [FP.take_snoc ds (by omega), FP.num_snoc, hdk]; omega)
   have HB := az (show FP.num (ds.take k) * 10 + (d k - 48) < 2 ^ 64 by rw [← HN.out]; omega)
   clear hN hN2 hdk hdd HK'
   have HT := az hlt
   clear hlt
   go_wp2_with fail
   go_round
   case rel =>
    refine ⟨k + 1, HT.out, by go_num, ?_⟩
    rw [HN.out, show (d k : Int) - 48 = ((d k - 48 : Nat) : Int) by omega, RI.u64_step _ _ HB.out]
   case measure => simp [intOf]; have := HT.out; omega
  ·obtain rfl : k = k1 := by omega
   rcases (show dp ≤ k ∨ ((k : Int) < dp ∧ k = ds.length) by omega) with hx | ⟨hx, hy⟩
   ·have t1 : decide ((k : Int) < dp) = false := dF
    clear hlt hx HK'
    go_wp2_with fail
    clear t1
    go_loop [3, 4] (fun i n => ∃ j : Nat, k ≤ j ∧ j ≤ dp.toNat ∧ i = .int .i64 (j : Int) ∧ n = .int .u64 (RI.pad (FP.num (ds.take k)) (j - k) : Int)) (fun i _ => dp.toNat - (intOf i).toNat)
    case atStart => exact ⟨k, Nat.le_refl _, by have := HK.out; omega, rfl, by unfold RI.pad; rw [Nat.sub_self, Nat.pow_zero, Nat.mul_one]⟩
    case round =>
     obtain ⟨j, hj0, hj, rfl, rfl⟩ := hrel
     by_cases hlt : j < dp.toNat
     ·have t1 : decide ((j : Int) < dp) = true := dT
      have HT := az hlt
      have hkk : (j : Int) < 800 := by omega
      have HP := az (show RI.pad (FP.num (ds.take k)) (j + 1 - k) = RI.pad (FP.num (ds.take k)) (j - k) * 10 by unfold RI.pad; rw [show j + 1 - k = (j - k) + 1 by omega, Nat.pow_succ, Nat.mul_assoc])
      have HB := az (show RI.pad (FP.num (ds.take k)) (j - k) * 10 < 2 ^ 64 by
       rw [← HP.out]
       unfold RI.pad
       exact Nat.lt_of_le_of_lt (Nat.mul_le_mul_left _ (Nat.pow_le_pow_right (by omega) (by omega))) HLIM.out)
      clear hlt
      go_wp2_with fail
      go_round
      case rel =>
       refine ⟨j + 1, by omega, HT.out, by go_num, ?_⟩
       have hb := HB.out
       rw [HP.out, wraps_u64 _ (by omega) (by omega)]
       rfl
      case measure => simp [intOf]; have := HT.out; omega
     ·have t1 : decide ((j : Int) < dp) = false := dF
      have HJ := az (show RI.pad (FP.num (ds.take k)) (j - k) = FP.num (ds.take dp.toNat) * 10 ^ (dp.toNat - ds.length) by unfold RI.pad; rw [← HF.out]; congr 2; omega)
      clear hlt
      cases hb : FP.roundUp ds dp tr with
      | false =>
       have HB := az hb
       clear hb
       have HSR := HSR.out
       rw [HB.out] at HSR
       have HSR := az HSR
       go_wp2_with fail
       go_call HSR.out as e w1 ⟨rfl, rfl⟩
       go_wp2_with fail
       go_ret
       refine ⟨?_, rfl⟩
       rw [HRV.out, HJ.out]
       unfold FP.rnd
       rw [HB.out]
       rfl
      | true =>
       have HB := az hb
       clear hb
       have HSR := HSR.out
       rw [HB.out] at HSR
       have HSR := az HSR
       go_wp2_with fail
       go_call HSR.out as e w1 ⟨rfl, rfl⟩
       go_wp2_with fail
       go_ret
       refine ⟨?_, rfl⟩
       have hr := HRR.out
       rw [HRV.out, HJ.out]
       unfold FP.rnd at hr ⊢
       rw [HB.out] at hr ⊢
       simp only [↓reduceIte] at hr ⊢
       rw [wraps_u64 _ (by omega) (by omega)]
       rfl
   ·have t1 : decide ((k : Int) < dp) = true := dT
    have t2 : decide ((k : Int) < (ds.length : Int)) = false := dF
    have t3 : decide (k < ds.length) = false := dF
    have HY := az hy
    clear hy
    clear hlt hx HK'
    go_wp2_with fail
    clear t1 t2 t3
    go_loop [3, 4] (fun i n => ∃ j : Nat, k ≤ j ∧ j ≤ dp.toNat ∧ i = .int .i64 (j : Int) ∧ n = .int .u64 (RI.pad (FP.num (ds.take k)) (j - k) : Int)) (fun i _ => dp.toNat - (intOf i).toNat)
    case atStart => exact ⟨k, Nat.le_refl _, by have := HK.out; omega, rfl, by unfold RI.pad; rw [Nat.sub_self, Nat.pow_zero, Nat.mul_one]⟩
    case round =>
     obtain ⟨j, hj0, hj, rfl, rfl⟩ := hrel
     by_cases hlt : j < dp.toNat
     ·have t1 : decide ((j : Int) < dp) = true := dT
      have HT := az hlt
      have hkk : (j : Int) < 800 := by omega
      have HP := az (show RI.pad (FP.num (ds.take k)) (j + 1 - k) = RI.pad (FP.num (ds.take k)) (j - k) * 10 by unfold RI.pad; rw [show j + 1 - k = (j - k) + 1 by omega, Nat.pow_succ, Nat.mul_assoc])
      have HB := az (show RI.pad (FP.num (ds.take k)) (j - k) * 10 < 2 ^ 64 by
       rw [← HP.out]
       unfold RI.pad
       exact Nat.lt_of_le_of_lt (Nat.mul_le_mul_left _ (Nat.pow_le_pow_right (by omega) (by omega))) HLIM.out)
      clear hlt
      go_wp2_with fail
      go_round
      case rel =>
       refine ⟨j + 1, by omega, HT.out, by go_num, ?_⟩
       have hb := HB.out
       rw [HP.out, wraps_u64 _ (by omega) (by omega)]
       rfl
      case measure => simp [intOf]; have := HT.out; omega
     ·have t1 : decide ((j : Int) < dp) = false := dF
      have HJ := az (show RI.pad (FP.num (ds.take k)) (j - k) = FP.num (ds.take dp.toNat) * 10 ^ (dp.toNat - ds.length) by unfold RI.pad; rw [← HF.out]; congr 2; omega)
      clear hlt
      cases hb : FP.roundUp ds dp tr with
      | false =>
       have HB := az hb
       clear hb
       have HSR := HSR.out
       rw [HB.out] at HSR
       have HSR := az HSR
       go_wp2_with fail
       go_call HSR.out as e w1 ⟨rfl, rfl⟩
       go_wp2_with fail
       go_ret
       refine ⟨?_, rfl⟩
       rw [HRV.out, HJ.out]
       unfold FP.rnd
       rw [HB.out]
       rfl
      | true =>
       have HB := az hb
       clear hb
       have HSR := HSR.out
       rw [HB.out] at HSR
       have HSR := az HSR
       go_wp2_with fail
       go_call HSR.out as e w1 ⟨rfl, rfl⟩
       go_wp2_with fail
       go_ret
       refine ⟨?_, rfl⟩
       have hr := HRR.out
       rw [HRV.out, HJ.out]
       unfold FP.rnd at hr ⊢
       rw [HB.out] at hr ⊢
       simp only [↓reduceIte] at hr ⊢
       rw [wraps_u64 _ (by omega) (by omega)]
       rfl
def Drew (w w' : World) : Prop := ∃ n, w' = w.drewN n
theorem Drew.refl (w : World) : Drew w w := ⟨0, rfl⟩
theorem Drew.step (w : World) (n : Nat) : Drew w (w.drewN n) := ⟨n, rfl⟩
theorem Drew.trans {a b c : World} (h : Drew a b) (k : Drew b c) : Drew a c := by
 obtain ⟨n, rfl⟩ := h
 obtain ⟨m, rfl⟩ := k
 exact ⟨n + m, by simp [World.drewN, Nat.add_assoc]⟩
def Let (s : ByteArray) (cs : List Nat) : Prop := s.size = cs.length ∧ ∀ i, i < cs.length → bt s (i : Int) = (cs.getD i 0 : Int) + 48
theorem pless_drop {ds cs : List Nat} {i : Nat} (h1 : i < ds.length) (h2 : i < cs.length) (e : ds.getD i 0 = cs.getD i 0) : FP.pless (ds.drop i) (cs.drop i) = FP.pless (ds.drop (i + 1)) (cs.drop (i + 1)) := by
 rw [FP.getD_drop ds i h1, FP.getD_drop cs i h2]
 simp only [FP.pless]
 rw [if_neg (by simpa using e)]
theorem pless_at {ds cs : List Nat} {i : Nat} (h1 : i < ds.length) (h2 : i < cs.length) (e : ds.getD i 0 ≠ cs.getD i 0) : FP.pless (ds.drop i) (cs.drop i) = decide (ds.getD i 0 < cs.getD i 0) := by
 rw [FP.getD_drop ds i h1, FP.getD_drop cs i h2]
 simp only [FP.pless]
 rw [if_pos e]
theorem pless_short {ds cs : List Nat} {i : Nat} (h1 : ds.length ≤ i) (h2 : i < cs.length) : FP.pless (ds.drop i) (cs.drop i) = true := by
 rw [List.drop_of_length_le h1, FP.getD_drop cs i h2]
 rfl
theorem pless_end {ds cs : List Nat} {i : Nat} (h2 : cs.length ≤ i) : FP.pless (ds.drop i) (cs.drop i) = false := by
 rw [List.drop_of_length_le h2]
 cases ds.drop i <;> rfl
theorem pless_calls {w : World} {g : Nat} {d : Nat → Nat} {ds : List Nat} {dp : Int} {neg tr : Bool} (h : Dec w g d ds.length dp neg tr) (hL : FP.Lst d ds) (hd : ∀ x ∈ ds, x < 10) (hl : ds.length ≤ 800)
  (s : ByteArray) (cs : List Nat) (hs : Let s cs) (hc : cs.length ≤ 100) (cap : Nat) :
  Calls Tryz.prog 135 #[.slice (some ⟨g, 0, none⟩) ds.length cap, .string s] w fun e w' => e = .returned (.bool (FP.pless ds cs)) ∧ Drew w w' := by
 obtain ⟨hs1, hs2⟩ := hs
 have H := az h
 have HL := az hL
 have HS := az hs2
 have HS1 := az hs1
 have hsz : (s.size : Int) ≤ 100 := by omega
 obtain ⟨r, hr⟩ : ∃ r, r = FP.pless ds cs := ⟨_, rfl⟩
 rw [← hr]
 have HR := az hr
 clear h hL hd hs1 hs2 hr
 go_enter Tryz.func135, Tryz.ntmps135
 go_wp2_with fail
 go_loopw [5] (fun i wr => Drew w wr ∧ ∃ k : Nat, k ≤ cs.length ∧ i = .int .i64 (k : Int) ∧ FP.pless (ds.drop k) (cs.drop k) = FP.pless ds cs) (fun i _ => cs.length - (intOf i).toNat)
 case atStart => exact ⟨⟨0, rfl⟩, 0, Nat.zero_le _, rfl, rfl⟩
 case round =>
  obtain ⟨⟨n, rfl⟩, k, hk, rfl, hp⟩ := hrel
  have HP := az hp
  clear hp
  by_cases hlt : k < cs.length
  ·have t1 : decide ((k : Int) < (s.size : Int)) = true := decide_eq_true (by have := HS1.out; omega)
   have t1n : decide (k < s.size) = true := decide_eq_true (by have := HS1.out; omega)
   by_cases hlt2 : k < ds.length
   ·have t2 : decide ((ds.length : Int) ≤ (k : Int)) = false := dF
    have t2n : decide (ds.length ≤ k) = false := dF
    have ck := H.out.cell (i := k) (by omega)
    have hdk := HL.out k hlt2
    have hsk := HS.out k hlt
    have hx : ∀ h : k < s.size, ((s[k]'h).toNat : Int) = bt s (k : Int) := fun h => bt_at s (k : Int) h
    have p0 : (k < s.size) = True := eq_true (by have := HS1.out; omega)
    have hk100 : (k : Int) < 100 := by omega
    by_cases e : ds.getD k 0 = cs.getD k 0
    ·have te : ((d k : Int) != bt s (k : Int)) = false := by rw [bne_eq_false_iff_eq]; omega
     have HN := az ((pless_drop hlt2 hlt e).symm.trans HP.out)
     have HT := az hlt
     have hlt2i : (k : Int) < (ds.length : Int) := by omega
     clear hdk hsk e hlt
     go_wp2_with fail
     go_quiet (fail)
     go_wp2_with fail
     refine ⟨⟨⟨n + nq, rfl⟩, k + 1, HT.out, by go_num, HN.out⟩, ?_⟩
     simp [intOf]; have := HT.out; omega
    ·have te : ((d k : Int) != bt s (k : Int)) = true := nT
     have HN := az ((HP.out.symm.trans (pless_at hlt2 hlt e)).trans (show decide (ds.getD k 0 < cs.getD k 0) = decide ((d k : Int) < bt s (k : Int)) by rw [Bool.eq_iff_iff, decide_eq_true_iff, decide_eq_true_iff]; omega))
     have hlt2i : (k : Int) < (ds.length : Int) := by omega
     clear hdk hsk e hlt
     go_wp2_with fail
     go_quiet (fail)
     go_wp2_with fail
     go_quiet (fail)
     go_wp2_with fail
     go_ret
     exact ⟨by rw [HR.out, HN.out]; rfl, (Drew.step w _).trans ((Drew.step _ _).trans (Drew.step _ _))⟩
   ·have t2 : decide ((ds.length : Int) ≤ (k : Int)) = true := dT
    have t2n : decide (ds.length ≤ k) = true := dT
    have HN := az (HP.out.symm.trans (pless_short (show ds.length ≤ k by omega) hlt))
    clear hlt hlt2
    go_wp2_with fail
    go_ret
    exact ⟨by rw [HR.out, HN.out]; rfl, n, rfl⟩
  ·have t1 : decide ((k : Int) < (s.size : Int)) = false := decide_eq_false (by have := HS1.out; omega)
   have t1n : decide (k < s.size) = false := decide_eq_false (by have := HS1.out; omega)
   have HN := az (HP.out.symm.trans (pless_end (show cs.length ≤ k by omega)))
   clear hlt
   go_wp2_with fail
   go_ret
   exact ⟨by rw [HR.out, HN.out]; rfl, n, rfl⟩
end Go.Proofs.YtbimfhaokgigkaaGreatDoor
