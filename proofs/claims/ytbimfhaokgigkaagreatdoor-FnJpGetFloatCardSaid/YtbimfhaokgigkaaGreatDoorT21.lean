/- Walks of functions of FnJpGetFloat (C3, C4); conditions stand ahead of each theorem. -/
import Derived.Test.YtbimfhaokgigkaaGreatDoorT19
import Derived.Test.YtbimfhaokgigkaaGreatDoorT20
import Derived.Test.YtbimfhaokgigkaaGreatDoorT03
namespace Go.Proofs.YtbimfhaokgigkaaGreatDoor
open Go.RowKit Go.Proofs.YtbimfhaokgigkaaGreatDoorW.PrintWords Go.Proofs.YtbimfhaokgigkaaGreatDoorW.PrintLast
def PfPost (w0 : World) (neg : Bool) (X : Rat) (e : Ending) (w' : World) : Prop :=
 ∃ r, FP.Near X r ∧ ((r < FP.INF ∧ e = .returned (.tuple #[.float .f64 (FP.wordOf neg r), .nilIface])) ∨ (r = FP.INF ∧ ∃ t x, e = .returned (.tuple #[.float .f64 (FP.wordOf neg r), .iface t x]))) ∧ Below w0.heap.size w0 w'
section
variable {s : ByteArray} {neg : Bool} {m : Nat} {p : Int} {tr : Bool} {L : List Nat} {dp : Int} {n : Nat} {w : World}
theorem prefix_calls (h : NumIn s neg m p tr L dp) (hE : AEnv n w) :
  Calls Tryz.prog 72 #[.string s, .int .i64 64] w (AtofPost w s neg (FP.dval L dp)) := by
 have HA := az (atof_calls h hE)
 refine byR fun R hR => ?_
 have HR := az hR
 clear h hE hR
 go_enter Tryz.func72, Tryz.ntmps72
 go_wp2_with fail
 refine HA.out.mono ?_
 rintro e w1 ⟨r, h1, rfl, h2⟩
 generalize hr : FP.wordOf neg r = a1
 generalize he : errOf r = e1
 have H1 := az h1
 have H2 := az h2
 have H3 := az hr
 have H4 := az he
 clear h1 h2 hr he
 go_wp2_with fail
 rw [HR.out]
 exact ⟨r, H1.out, by rw [H3.out, H4.out]; rfl, H2.out⟩
theorem pfInner_calls (h : NumIn s neg m p tr L dp) (hE : AEnv n w) :
  Calls Tryz.prog 61 #[.string s, .int .i64 64] w fun e w' => ∃ r, FP.Near (FP.dval L dp) r ∧ e = .returned (.tuple #[.float .f64 (FP.wordOf neg r), errOf r]) ∧ Below w.heap.size w w' := by
 have HA := az (prefix_calls h hE)
 refine byR fun R hR => ?_
 have HR := az hR
 have hs8 : (s.size : Int) ≤ 800 := by have := h.sz; omega
 clear h hE hR
 go_enter Tryz.func61, Tryz.ntmps61
 go_wp2_with fail
 refine HA.out.mono ?_
 rintro e w1 ⟨r, h1, rfl, h2⟩
 generalize hr : FP.wordOf neg r = a1
 generalize he : errOf r = e1
 have H1 := az h1
 have H2 := az h2
 have H3 := az hr
 have H4 := az he
 clear h1 h2 hr he
 go_wp2_with fail
 rw [HR.out]
 exact ⟨r, H1.out, by rw [H3.out, H4.out]; rfl, H2.out⟩
theorem pf_calls (h : NumIn s neg m p tr L dp) (hE : AEnv n w) (v0 : 13 < w.heap.size) {ev : Value} (hv : w.cell? ⟨13, 0, none⟩ = some ev) (hev : ev = .nilIface ∨ ∃ te pe, ev = .iface te pe) :
  Calls Tryz.prog 49 #[.string s, .int .i64 64] w (PfPost w neg (FP.dval L dp)) := by
 have HA := az (pfInner_calls h hE)
 refine byR fun R hR => ?_
 have HR := az hR
 have HV := az hv
 have HEV := az hev
 have HV0 := az v0
 have hs8 : s.size ≤ 800 := h.sz
 clear h hE hR hv hev v0
 go_enter Tryz.func49, Tryz.ntmps49
 go_wp2_with fail
 refine HA.out.mono ?_
 rintro e w1 ⟨r, h1, rfl, h2⟩
 generalize hr : FP.wordOf neg r = a1
 have H1 := az h1
 have H2 := az h2
 have H3 := az hr
 have hv1 : w1.cell? ⟨13, 0, none⟩ = some ev := by rw [h2.cell (p := ⟨13, 0, none⟩) HV0.out]; exact HV.out
 have HV1 := az hv1
 clear h1 h2 hr hv1
 by_cases hi : r = FP.INF
 ·rw [hi, errOf_inf]
  have HI := az hi
  clear hi
  go_wp2_with fail
  refine (Tryz.strconv_toError_range _ s _ _ ev w1 (by omega) HV1.out HEV.out).mono ?_
  rintro e w2 ⟨N, rfl, _, _, hB⟩
  have HB := az hB
  clear hB
  go_wp2_with fail
  rw [HR.out]
  exact ⟨r, H1.out, .inr ⟨HI.out, _, _, by rw [H3.out]; rfl⟩, H2.out.trans (HB.out.mono H2.out.size)⟩
 ·have hf : r < FP.INF := by have := H1.out.1; omega
  rw [errOf_fin hf]
  have HF := az hf
  clear hi hf
  go_wp2_with fail
  rw [HR.out]
  exact ⟨r, H1.out, .inl ⟨HF.out, by rw [H3.out]; rfl⟩, H2.out⟩
end
def Dp0 (r : FP.RSt) : Int := if r.dotted then r.dp else r.nd
theorem digits_in {M : Nat} {g : Nat → Nat} (hg : ∀ j < M, g j = 46 ∨ (48 ≤ g j ∧ g j ≤ 57)) (hM : M ≤ 800) (e : Int) (he0 : -100000 ≤ e) (he1 : e ≤ 100000) :
  (FP.sds g M).length ≤ 800 ∧ (∀ d ∈ FP.sds g M, d < 10) ∧ (FP.sds g M = [] ∨ FP.Lead (FP.sds g M)) ∧ (FP.rst g M).mant < 10 ^ 19 ∧
  -200000 ≤ (if (FP.rst g M).mant = 0 then 0 else Dp0 (FP.rst g M) + e - (FP.rst g M).nm) ∧ (if (FP.rst g M).mant = 0 then 0 else Dp0 (FP.rst g M) + e - (FP.rst g M).nm) ≤ 200000 ∧
  ((FP.rst g M).mant = 0 → FP.dval (FP.sds g M) (Dp0 (FP.rst g M) + e) = 0) ∧
  ((FP.rst g M).mant : Rat) * FP.p10 (if (FP.rst g M).mant = 0 then 0 else Dp0 (FP.rst g M) + e - (FP.rst g M).nm) ≤ FP.dval (FP.sds g M) (Dp0 (FP.rst g M) + e) ∧
  FP.dval (FP.sds g M) (Dp0 (FP.rst g M) + e) ≤ (((FP.rst g M).mant + 1 : Nat) : Rat) * FP.p10 (if (FP.rst g M).mant = 0 then 0 else Dp0 (FP.rst g M) + e - (FP.rst g M).nm) ∧
  ((FP.rst g M).tr = false → FP.dval (FP.sds g M) (Dp0 (FP.rst g M) + e) = ((FP.rst g M).mant : Rat) * FP.p10 (if (FP.rst g M).mant = 0 then 0 else Dp0 (FP.rst g M) + e - (FP.rst g M).nm)) := by
 have hok := FP.rst_ok hg M (Nat.le_refl _)
 have hle := FP.sds_le (g := g) M
 have hlen := FP.sds_len (g := g) M
 have hdig := FP.sds_digit hg M (Nat.le_refl _)
 have hlead := FP.sds_lead hg M (Nat.le_refl _)
 obtain ⟨m1, m2⟩ := FP.rst_mant hg M (Nat.le_refl _)
 obtain ⟨f1, f2, f3, f4⟩ := FP.first_digits hdig hlead (Dp0 (FP.rst g M) + e)
 have hD : -800 ≤ Dp0 (FP.rst g M) ∧ Dp0 (FP.rst g M) ≤ 800 := by
  have a1 := hok.lo
  have a2 := hok.hi
  have a3 := hok.nd
  unfold Dp0
  split <;> omega
 have hnm : min 19 (FP.sds g M).length = (FP.rst g M).nm := by rw [hok.nm, hlen]
 rw [← m1, hnm] at f2 f3 f4
 rw [← m1] at f1
 rw [← m2] at f4
 have hnm2 : (FP.rst g M).nm ≤ 19 := by have := hok.nm; omega
 refine ⟨by omega, hdig, hlead, hok.mant_lt, by split <;> omega, by split <;> omega, ?_, ?_, ?_, ?_⟩
 ·intro h
  rw [f1 h]
  unfold FP.dval
  rw [FP.num_nil]; simp
 ·by_cases h : (FP.rst g M).mant = 0
  ·have e0 : FP.dval (FP.sds g M) (Dp0 (FP.rst g M) + e) = 0 := by rw [f1 h]; unfold FP.dval; rw [FP.num_nil]; simp
   rw [e0, h]; simp
  ·rw [if_neg h]; exact f2
 ·by_cases h : (FP.rst g M).mant = 0
  ·have e0 : FP.dval (FP.sds g M) (Dp0 (FP.rst g M) + e) = 0 := by rw [f1 h]; unfold FP.dval; rw [FP.num_nil]; simp
   rw [e0, h, if_pos rfl, FP.p10_zero]; decide +kernel
  ·rw [if_neg h]; exact f3
 ·intro ht
  by_cases h : (FP.rst g M).mant = 0
  ·have e0 : FP.dval (FP.sds g M) (Dp0 (FP.rst g M) + e) = 0 := by rw [f1 h]; unfold FP.dval; rw [FP.num_nil]; simp
   rw [e0, h]; simp
  ·rw [if_neg h]; exact f4 ht
theorem numIn_plain_true {s : ByteArray} {M : Nat} {g : Nat → Nat} (h : Front s true 1 M g) (hd0 : 48 ≤ g 0 ∧ g 0 ≤ 57) (hM : (1 : Int) + M = s.size) :
  NumIn s true (FP.rst g M).mant (if (FP.rst g M).mant = 0 then 0 else Dp0 (FP.rst g M) + 0 - (FP.rst g M).nm) (FP.rst g M).tr (FP.sds g M) (Dp0 (FP.rst g M) + 0) := by
 obtain ⟨a1, a2, a3, a4, a5, a6, a7, a8, a9, a10⟩ := digits_in h.kinds (by have := h.sz; omega) 0 (by omega) (by omega)
 refine ⟨by have := h.sz; omega, by have := h.one; omega, fun w => special_neg s w (by have := h.fits; have := h.one; omega) (by have := h.sz; omega) (beq_iff_eq.mp h.sgn.symm) (by have := h.bytes 0 (by have := h.one; omega); simp at this; omega) (by have := h.bytes 0 (by have := h.one; omega); simp at this; omega), fun w => ?_, fun w gb d0 hD => ?_, a1, a2, a3, a4, a5, a6, a7, a8, a9, a10⟩
 ·refine (read_plain_true s w M g h hM).mono ?_
  rintro e w' ⟨rfl, rfl⟩
  refine ⟨?_, rfl⟩
  unfold RPlain Dp0
  rw [Int.add_zero, hM]
 ·refine set_true s gb M g 0 (fun _ => 0) (x := 0) (esg := 0) h (.inl hM) hD _ (fun _ => ?_) (fun hb => absurd hb.one (by omega))
  unfold Dp0
  rw [Int.add_zero]
theorem numIn_exp_true {s : ByteArray} {M N : Nat} {g ge : Nat → Nat} {x esg : Int} (h : Front s true 1 M g) (hd0 : 48 ≤ g 0 ∧ g 0 ≤ 57) (hb : Back s (1 + (M : Int)) x esg N ge) :
  NumIn s true (FP.rst g M).mant (if (FP.rst g M).mant = 0 then 0 else Dp0 (FP.rst g M) + (FP.ecl ge N : Int) * esg - (FP.rst g M).nm) (FP.rst g M).tr (FP.sds g M) (Dp0 (FP.rst g M) + (FP.ecl ge N : Int) * esg) := by
 have hE := FP.ecl_lt hb.kinds N (Nat.le_refl _)
 have hes : -100000 ≤ (FP.ecl ge N : Int) * esg ∧ (FP.ecl ge N : Int) * esg ≤ 100000 := by
  rcases hb.sgn with ⟨_, e⟩ | ⟨_, _, e⟩ | ⟨_, _, e⟩ <;> rw [e] <;> omega
 obtain ⟨a1, a2, a3, a4, a5, a6, a7, a8, a9, a10⟩ := digits_in h.kinds (by have := h.sz; have := h.fits; omega) ((FP.ecl ge N : Int) * esg) hes.1 hes.2
 refine ⟨by have := h.sz; omega, by have := h.fits; have := h.one; omega, fun w => special_neg s w (by have := h.fits; have := h.one; omega) (by have := h.sz; omega) (beq_iff_eq.mp h.sgn.symm) (by have := h.bytes 0 (by have := h.one; omega); simp at this; omega) (by have := h.bytes 0 (by have := h.one; omega); simp at this; omega), fun w => ?_, fun w gb d0 hD => ?_, a1, a2, a3, a4, a5, a6, a7, a8, a9, a10⟩
 ·refine (read_exp_true s w M N g ge h hb).mono ?_
  rintro e w' ⟨rfl, rfl⟩
  refine ⟨?_, rfl⟩
  unfold RExp Dp0
  rw [hb.fin]
 ·refine set_true s gb M g N ge h (.inr hb) hD _ (fun hM => ?_) (fun _ => rfl)
  have := hb.fin
  have := hb.one
  rcases hb.sgn with ⟨e, _⟩ | ⟨e, _, _⟩ | ⟨e, _, _⟩ <;> omega
theorem numIn_plain_false {s : ByteArray} {M : Nat} {g : Nat → Nat} (h : Front s false 0 M g) (hd0 : 48 ≤ g 0 ∧ g 0 ≤ 57) (hM : (0 : Int) + M = s.size) :
  NumIn s false (FP.rst g M).mant (if (FP.rst g M).mant = 0 then 0 else Dp0 (FP.rst g M) + 0 - (FP.rst g M).nm) (FP.rst g M).tr (FP.sds g M) (Dp0 (FP.rst g M) + 0) := by
 obtain ⟨a1, a2, a3, a4, a5, a6, a7, a8, a9, a10⟩ := digits_in h.kinds (by have := h.sz; omega) 0 (by omega) (by omega)
 refine ⟨by have := h.sz; omega, by have := h.one; omega, fun w => special_pos s w (by have := h.fits; have := h.one; omega) (by have := h.sz; omega) (by have := h.bytes 0 (by have := h.one; omega); simp at this; omega) (by have := h.bytes 0 (by have := h.one; omega); simp at this; omega), fun w => ?_, fun w gb d0 hD => ?_, a1, a2, a3, a4, a5, a6, a7, a8, a9, a10⟩
 ·refine (read_plain_false s w M g h hM).mono ?_
  rintro e w' ⟨rfl, rfl⟩
  refine ⟨?_, rfl⟩
  unfold RPlain Dp0
  rw [Int.add_zero, hM]
 ·refine set_false s gb M g 0 (fun _ => 0) (x := 0) (esg := 0) h (.inl hM) hD _ (fun _ => ?_) (fun hb => absurd hb.one (by omega))
  unfold Dp0
  rw [Int.add_zero]
theorem numIn_exp_false {s : ByteArray} {M N : Nat} {g ge : Nat → Nat} {x esg : Int} (h : Front s false 0 M g) (hd0 : 48 ≤ g 0 ∧ g 0 ≤ 57) (hb : Back s (0 + (M : Int)) x esg N ge) :
  NumIn s false (FP.rst g M).mant (if (FP.rst g M).mant = 0 then 0 else Dp0 (FP.rst g M) + (FP.ecl ge N : Int) * esg - (FP.rst g M).nm) (FP.rst g M).tr (FP.sds g M) (Dp0 (FP.rst g M) + (FP.ecl ge N : Int) * esg) := by
 have hE := FP.ecl_lt hb.kinds N (Nat.le_refl _)
 have hes : -100000 ≤ (FP.ecl ge N : Int) * esg ∧ (FP.ecl ge N : Int) * esg ≤ 100000 := by
  rcases hb.sgn with ⟨_, e⟩ | ⟨_, _, e⟩ | ⟨_, _, e⟩ <;> rw [e] <;> omega
 obtain ⟨a1, a2, a3, a4, a5, a6, a7, a8, a9, a10⟩ := digits_in h.kinds (by have := h.sz; have := h.fits; omega) ((FP.ecl ge N : Int) * esg) hes.1 hes.2
 refine ⟨by have := h.sz; omega, by have := h.fits; have := h.one; omega, fun w => special_pos s w (by have := h.fits; have := h.one; omega) (by have := h.sz; omega) (by have := h.bytes 0 (by have := h.one; omega); simp at this; omega) (by have := h.bytes 0 (by have := h.one; omega); simp at this; omega), fun w => ?_, fun w gb d0 hD => ?_, a1, a2, a3, a4, a5, a6, a7, a8, a9, a10⟩
 ·refine (read_exp_false s w M N g ge h hb).mono ?_
  rintro e w' ⟨rfl, rfl⟩
  refine ⟨?_, rfl⟩
  unfold RExp Dp0
  rw [hb.fin]
 ·refine set_false s gb M g N ge h (.inr hb) hD _ (fun hM => ?_) (fun _ => rfl)
  have := hb.fin
  have := hb.one
  rcases hb.sgn with ⟨e, _⟩ | ⟨e, _, _⟩ | ⟨e, _, _⟩ <;> omega
end Go.Proofs.YtbimfhaokgigkaaGreatDoor
