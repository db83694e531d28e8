/- Walks of functions of FnJpGetFloat (B14); conditions stand ahead of each theorem. -/
import Derived.Test.YtbimfhaokgigkaaGreatDoorT15
set_option linter.unusedVariables false
set_option linter.unusedSimpArgs false
set_option maxRecDepth 1000000
set_option maxHeartbeats 1000000
namespace Go.Proofs.YtbimfhaokgigkaaGreatDoor
open Go.RowKit Go.Proofs.YtbimfhaokgigkaaGreatDoorW.PrintWords Go.Proofs.YtbimfhaokgigkaaGreatDoorW.PrintLast
def fwd (P : Program) (c : Code) (Q : Exit → Act → World → Prop) : Exit → Act → World → Prop
 | .goto l, a, w => ∃ r, findLabel c l = some r ∧ r.wp P (Exit.noGoto Q) a w
 | e, a, w => Q e a w
theorem wp_scope_fwd {P : Program} {Q : Exit → Act → World → Prop} {a : Act} {w : World} {c : Code} (h : c.wp P (fwd P c Q) a w) : (Code.scope c).wp P Q a w := by
 intro b k cs
 obtain ⟨e, a₁, w₁, hq, harr⟩ := h b (.inScope c :: k) cs
 cases e with
 | normal => exact ⟨.normal, a₁, w₁, hq, .head step_scope (Steps.trans harr (.one step_inScope))⟩
 | exit id => exact ⟨.exit id, a₁, w₁, hq, fun k' hk => .head step_scope (harr k' (by simp [exitTo, hk]))⟩
 | goto l =>
  obtain ⟨r, hf, hr⟩ := hq
  have hg : gotoIn l (.inScope c :: k) = some (.code r :: .inScope c :: k) := by simp [gotoIn, hf]
  obtain ⟨e₂, a₂, w₂, hq₂, harr₂⟩ := hr b (.inScope c :: k) cs
  have st := Steps.head (step_scope (P := P) (b := b) (a := a) (k := k) (cs := cs) (w := w) (c := c)) (harr _ hg)
  cases e₂ with
  | normal => exact ⟨.normal, a₂, w₂, hq₂, Steps.trans st (Steps.trans harr₂ (.one step_inScope))⟩
  | exit id => exact ⟨.exit id, a₂, w₂, hq₂, fun k' hk => Steps.trans st (harr₂ k' (by simp [exitTo, hk]))⟩
  | goto l => exact hq₂.elim
  | ret => exact ⟨_, a₂, w₂, hq₂, .of_steps st harr₂⟩
  | panic ch => exact ⟨_, a₂, w₂, hq₂, .of_steps st harr₂⟩
  | outgrown => exact ⟨_, a₂, w₂, hq₂, .of_steps st harr₂⟩
 | ret => exact ⟨_, a₁, w₁, hq, .of_steps (.one step_scope) harr⟩
 | panic ch => exact ⟨_, a₁, w₁, hq, .of_steps (.one step_scope) harr⟩
 | outgrown => exact ⟨_, a₁, w₁, hq, .of_steps (.one step_scope) harr⟩
theorem fbR0_eq : fbR0 = .seq .skip fbT0 := by kernel_rfl
def FbPost (w0 : World) (g : Nat) (X : Rat) (neg : Bool) (e : Ending) (w' : World) : Prop := ∃ r, FP.Near X r ∧ e = .returned (.tuple #[.int .u64 (FP.wordOf neg r : Int), .bool (decide (r = FP.INF))]) ∧ Only g w0 w'
theorem fb_g0 {w0 : World} {g n : Nat} {X : Rat} {neg : Bool} (hE : FEnv n w0) (hg : n ≤ g) {c : Code} (hc : fbC = c) : G0 w0 g X neg (fwd Tryz.prog c (bodyPost Tryz.prog Tryz.f98 (FbPost w0 g X neg))) := by
 subst hc
 intro a w' m e x hm he hx hn hi cneg hO ha
 refine ⟨fbR0, by kernel_rfl, ?_⟩
 rw [fbR0_eq]
 refine wp_seq (wp_skip ?_)
 refine fb_out (g := g) (hE.only hO hg) cneg m e x hm he hx false (FbPost w0 g X neg) ?_ rfl rfl ha
 intro w'' hd
 obtain ⟨k, rfl⟩ := hd
 exact ⟨FP.rung e m, hn, by rw [decide_eq_false hi], hO.drewN k⟩
theorem fb_g1 {w0 : World} {g n : Nat} {X : Rat} {neg : Bool} (hE : FEnv n w0) (hg : n ≤ g) {c : Code} (hc : fbC = c) : G1 w0 g X neg (fwd Tryz.prog c (bodyPost Tryz.prog Tryz.f98 (FbPost w0 g X neg))) := by
 subst hc
 intro a w' p6 p7 hn cneg hO ha
 refine ⟨fbR1, by kernel_rfl, ?_⟩
 rw [ha]
 refine fb_over (g := g) (hE.only hO hg) cneg p6 p7 _ (FbPost w0 g X neg) ?_
 intro w'' hd
 obtain ⟨k, rfl⟩ := hd
 exact ⟨FP.INF, hn, by rw [decide_eq_true rfl], hO.drewN k⟩
theorem fb_zero {w : World} {g n : Nat} {X : Rat} {neg : Bool} (hE : FEnv n w) (hg : n ≤ g) {d : Nat → Nat} {nd : Nat} {dp : Int} {tr : Bool} (h : Dec w g d nd dp neg tr) (hnd : nd = 0) (hX : FP.Near X 0) :
  Calls Tryz.prog 98 #[.pointer (some ⟨g, 0, none⟩), .pointer (some ⟨17, 0, none⟩)] w (FbPost w g X neg) := by
 have c0 := hE.mant
 have c1 := hE.expb
 have c2 := hE.bias
 have cn := h.cnd
 have H := az h
 have HN := az (show FP.Near X (FP.rung 0 0) from hX)
 subst hnd
 have HE := az hE
 have HG := az hg
 refine byR fun R hR => ?_
 have HR := az hR
 clear hR
 clear h hX hE hg
 go_enter Tryz.func98, Tryz.ntmps98
 go_wp2_with fail
 apply wp_scope_fwd
 generalize hFW : fwd Tryz.prog _ _ = FW
 have HFW := az hFW
 clear hFW
 go_wp2_with fail
 go_step3
 simp only [Exit.then, Exit.inBlock]
 rw [← HFW.out, HR.out]
 exact fb_g0 HE.out HG.out (by kernel_rfl) _ w 0 0 (-1023) (by decide) (by decide) (by decide) HN.out (by decide) H.out.cneg (Only.refl g w) rfl
theorem fb_tiny {w : World} {g n : Nat} {X : Rat} {neg : Bool} (hE : FEnv n w) (hg : n ≤ g) {d : Nat → Nat} {nd : Nat} {dp : Int} {tr : Bool} (h : Dec w g d nd dp neg tr) (hnd : nd ≠ 0) (hdp : dp < -330) (hX : FP.Near X 0) :
  Calls Tryz.prog 98 #[.pointer (some ⟨g, 0, none⟩), .pointer (some ⟨17, 0, none⟩)] w (FbPost w g X neg) := by
 have c0 := hE.mant
 have c1 := hE.expb
 have c2 := hE.bias
 have cn := h.cnd
 have cp := h.cdp
 have H := az h
 have HN := az (show FP.Near X (FP.rung 0 0) from hX)
 have t0 : ((nd : Int) == 0) = false := bF
 have t1 : decide (310 < dp) = false := dF
 have t2 : decide (dp < -330) = true := dT
 have HE := az hE
 have HG := az hg
 refine byR fun R hR => ?_
 have HR := az hR
 clear hR
 clear h hX hE hg hnd hdp
 go_enter Tryz.func98, Tryz.ntmps98
 go_wp2_with fail
 apply wp_scope_fwd
 generalize hFW : fwd Tryz.prog _ _ = FW
 have HFW := az hFW
 clear hFW
 go_wp2_with fail
 go_step3
 simp only [Exit.then, Exit.inBlock]
 rw [← HFW.out, HR.out]
 exact fb_g0 HE.out HG.out (by kernel_rfl) _ w 0 0 (-1023) (by decide) (by decide) (by decide) HN.out (by decide) H.out.cneg (Only.refl g w) rfl
theorem fb_huge {w : World} {g n : Nat} {X : Rat} {neg : Bool} (hE : FEnv n w) (hg : n ≤ g) {d : Nat → Nat} {nd : Nat} {dp : Int} {tr : Bool} (h : Dec w g d nd dp neg tr) (hnd : nd ≠ 0) (hdp : 310 < dp) (hX : FP.Near X FP.INF) :
  Calls Tryz.prog 98 #[.pointer (some ⟨g, 0, none⟩), .pointer (some ⟨17, 0, none⟩)] w (FbPost w g X neg) := by
 have cn := h.cnd
 have cp := h.cdp
 have H := az h
 have HN := az hX
 have t0 : ((nd : Int) == 0) = false := bF
 have t1 : decide (310 < dp) = true := dT
 have HE := az hE
 have HG := az hg
 refine byR fun R hR => ?_
 have HR := az hR
 clear hR
 clear h hX hE hg hnd hdp
 go_enter Tryz.func98, Tryz.ntmps98
 go_wp2_with fail
 apply wp_scope_fwd
 generalize hFW : fwd Tryz.prog _ _ = FW
 have HFW := az hFW
 clear hFW
 go_wp2_with fail
 go_step3
 simp only [Exit.then, Exit.inBlock]
 rw [← HFW.out, HR.out]
 exact fb_g1 HE.out HG.out (by kernel_rfl) _ w _ _ HN.out H.out.cneg (Only.refl g w) rfl
theorem G0.later {w0 w1 : World} {g : Nat} {X : Rat} {neg : Bool} {Q : Exit → Act → World → Prop} (h : G0 w0 g X neg Q) (hO : Only g w0 w1) : G0 w1 g X neg Q :=
 fun a w' m e x h1 h2 h3 h4 h5 h6 h7 h8 => h a w' m e x h1 h2 h3 h4 h5 h6 (hO.trans h7) h8
theorem G1.later {w0 w1 : World} {g : Nat} {X : Rat} {neg : Bool} {Q : Exit → Act → World → Prop} (h : G1 w0 g X neg Q) (hO : Only g w0 w1) : G1 w1 g X neg Q :=
 fun a w' p6 p7 h1 h2 h3 h4 => h a w' p6 p7 h1 h2 (hO.trans h3) h4
theorem fbt_at {w : World} {g n : Nat} {X : Rat} {E : Int} {s : List Nat × Int × Bool} {neg : Bool} (hE : FEnv n w) (hg : n ≤ g) (hD : DecV w g X E (-(E + 1)) s neg) (hE3 : E ≤ 1200) (u : Nat → Value) (Q : Exit → Act → World → Prop) (h0 : G0 w g X neg Q) (h1 : G1 w g X neg Q) {c : Code} (hc : fbT2 = c) :
  Code.wp Tryz.prog c Q ⟨ffr (.pointer (some ⟨g, 0, none⟩)) (.pointer (some ⟨17, 0, none⟩)) (.int .u64 0) (.bool false) (.int .i64 (E + 1)) (.int .u64 0) u, []⟩ w := hc ▸ fbt_all hE hg hD hE3 u Q h0 h1
theorem fb_main {w : World} {g n : Nat} {X : Rat} {neg : Bool} (hE : FEnv n w) (hg : n ≤ g) {d : Nat → Nat} {nd : Nat} {dp : Int} {tr : Bool} (h : Dec w g d nd dp neg tr) (hnd : nd ≠ 0) (h310 : dp ≤ 310) (h330 : -330 ≤ dp) {E : Int} (hE1 : E ≤ 1200) {s : List Nat × Int × Bool} (hs : s.2.1 = dp) (hV : DecV w g X E 0 s neg) :
  Calls Tryz.prog 98 #[.pointer (some ⟨g, 0, none⟩), .pointer (some ⟨17, 0, none⟩)] w (FbPost w g X neg) := by
 have cn := h.cnd
 have cp := h.cdp
 have H := az h
 have HV := az hV
 have t0 : ((nd : Int) == 0) = false := bF
 have t1 : decide (310 < dp) = false := dF
 have t2 : decide (dp < -330) = false := dF
 have HE := az hE
 have HG := az hg
 refine byR fun R hR => ?_
 have HR := az hR
 clear hR
 clear h hV hE hg hnd h310 h330 hs
 go_enter Tryz.func98, Tryz.ntmps98
 go_wp2_with fail
 apply wp_scope_fwd
 generalize hFW : fwd Tryz.prog _ _ = FW
 have HFW := az hFW
 clear hFW
 go_wp2_with fail
 refine f1_loop (g := g) HE.out HG.out hE1 HV.out ?_ (by kernel_rfl) rfl
 intro a w1 s1 t h1 h2 h3 h4 h5 ha
 rw [ha]
 clear ha
 unfold ffr
 simp only [Exit.inBlock, Exit.then, ↓reduceIte]
 have H1 := az h1
 have H2 := az h2
 have H3 := az h3
 have H4 := az h4
 have H5 := az h5
 clear h1 h2 h3 h4 h5 cn cp
 go_wp2_with fail
 refine f2_loop (g := g) (HE.out.only H5.out HG.out) HG.out hE1 H1.out H2.out H4.out H3.out ?_ (by kernel_rfl) rfl
 intro a w2 s2 g1 g2 ha
 rw [ha]
 clear ha
 simp only [Exit.inBlock, Exit.then, ↓reduceIte]
 go_step
 have O2 := H5.out.trans g2
 refine fbt_at (HE.out.only O2 HG.out) HG.out g1 hE1 _ _ ?_ ?_ (by kernel_rfl)
 ·rw [← HFW.out, HR.out]
  exact (fb_g0 HE.out HG.out (by kernel_rfl)).later O2
 ·rw [← HFW.out, HR.out]
  exact (fb_g1 HE.out HG.out (by kernel_rfl)).later O2
theorem fb_calls {w : World} {g n : Nat} (hE : FEnv n w) (hg : n ≤ g) {L : List Nat} {dp : Int} {neg : Bool} (hL : ∀ d ∈ L, d < 10) (hl : L = [] ∨ FP.Lead L) (hm : DecL w g (L.take 800, dp, (L.drop 800).any (· ≠ 0)) neg) :
  Calls Tryz.prog 98 #[.pointer (some ⟨g, 0, none⟩), .pointer (some ⟨17, 0, none⟩)] w (FbPost w g (FP.dval L dp) neg) := by
 obtain ⟨d, m1, m2⟩ := hm
 rcases hl with rfl | hl
 ·have e : FP.dval [] dp = 0 := by unfold FP.dval; rw [FP.num_nil]; simp
  rw [e]
  exact fb_zero hE hg m1 rfl FP.near_zero
 ·have hne : (L.take 800).length ≠ 0 := by
   obtain ⟨x, t, e, _⟩ := hl
   rw [e]; simp
  by_cases c1 : 310 < dp
  ·exact fb_huge hE hg m1 hne c1 (FP.near_huge (Rat.le_trans (FP.p10_le (show (310 : Int) ≤ dp - 1 by omega)) (hl.ge dp)))
  ·by_cases c2 : dp < -330
   ·exact fb_tiny hE hg m1 hne c2 (FP.near_tiny (FP.lt_le (FP.dval_lt hL dp) (FP.p10_le (by omega))))
   ·obtain ⟨E, e1, e2⟩ := FP.DW.start (X := FP.dval L dp) hL hl rfl (by omega) (by omega)
    exact fb_main hE hg m1 hne (by show dp ≤ 310; omega) (by show -330 ≤ dp; omega) (E := E) (by omega) (s := (L.take 800, dp, (L.drop 800).any (· ≠ 0))) rfl ⟨⟨d, m1, m2⟩, e2⟩
end Go.Proofs.YtbimfhaokgigkaaGreatDoor
