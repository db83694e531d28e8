/- Walks of functions of FnFjFloatAll (C4); conditions stand ahead of each theorem. -/
import Derived.Test.YtodbjojglibniaaGreatDoorT22
import Derived.Test.YtodbjojglibniaaGreatDoorT03
set_option linter.unusedVariables false
set_option linter.unusedSimpArgs false
namespace Go.Proofs.YtodbjojglibniaaGreatDoor
open Go.RowKit Go.Proofs.YtodbjojglibniaaGreatDoorW.PrintWords Go.Proofs.YtodbjojglibniaaGreatDoorW.PrintLast

/-- The point's place ahead of the exponent. -/
def Dp0 (r : FP.RSt) : Int := if r.dotted then r.dp else r.nd
theorem digits_in {M : Nat} {g : Nat → Nat} (hg : ∀ j < M, g j = 46 ∨ (48 ≤ g j ∧ g j ≤ 57)) (hM : M ≤ 800) (e : Int) (he0 : -100000 ≤ e) (he1 : e ≤ 100000) :
    (FP.sds g M).length ≤ 800 ∧ (∀ d ∈ FP.sds g M, d < 10) ∧ (FP.sds g M = [] ∨ FP.Lead (FP.sds g M)) ∧ (FP.rst g M).mant < 10 ^ 19 ∧
    -200000 ≤ (if (FP.rst g M).mant = 0 then 0 else Dp0 (FP.rst g M) + e - (FP.rst g M).nm) ∧ (if (FP.rst g M).mant = 0 then 0 else Dp0 (FP.rst g M) + e - (FP.rst g M).nm) ≤ 200000 ∧
    ((FP.rst g M).mant = 0 → FP.dval (FP.sds g M) (Dp0 (FP.rst g M) + e) = 0) ∧
    ((FP.rst g M).mant : Rat) * FP.p10 (if (FP.rst g M).mant = 0 then 0 else Dp0 (FP.rst g M) + e - (FP.rst g M).nm) ≤ FP.dval (FP.sds g M) (Dp0 (FP.rst g M) + e) ∧
    FP.dval (FP.sds g M) (Dp0 (FP.rst g M) + e) ≤ (((FP.rst g M).mant + 1 : Nat) : Rat) * FP.p10 (if (FP.rst g M).mant = 0 then 0 else Dp0 (FP.rst g M) + e - (FP.rst g M).nm) ∧
    ((FP.rst g M).tr = false → FP.dval (FP.sds g M) (Dp0 (FP.rst g M) + e) = ((FP.rst g M).mant : Rat) * FP.p10 (if (FP.rst g M).mant = 0 then 0 else Dp0 (FP.rst g M) + e - (FP.rst g M).nm)) := by
  have hok := FP.rst_ok hg M (Nat.le_refl _)
  have hle := FP.sds_le (g := g) M
  have hlen := FP.sds_len (g := g) M
  have hdig := FP.sds_digit hg M (Nat.le_refl _)
  have hlead := FP.sds_lead hg M (Nat.le_refl _)
  obtain ⟨m1, m2⟩ := FP.rst_mant hg M (Nat.le_refl _)
  obtain ⟨f1, f2, f3, f4⟩ := FP.first_digits hdig hlead (Dp0 (FP.rst g M) + e)
  have hD : -800 ≤ Dp0 (FP.rst g M) ∧ Dp0 (FP.rst g M) ≤ 800 := by
    have a1 := hok.lo
    have a2 := hok.hi
    have a3 := hok.nd
    unfold Dp0
    split <;> omega
  have hnm : min 19 (FP.sds g M).length = (FP.rst g M).nm := by rw [hok.nm, hlen]
  rw [← m1, hnm] at f2 f3 f4
  rw [← m1] at f1
  rw [← m2] at f4
  have hnm2 : (FP.rst g M).nm ≤ 19 := by have := hok.nm; omega
  refine ⟨by omega, hdig, hlead, hok.mant_lt, by split <;> omega, by split <;> omega, ?_, ?_, ?_, ?_⟩
  · intro h
    rw [f1 h]
    unfold FP.dval
    rw [FP.num_nil]; simp
  · by_cases h : (FP.rst g M).mant = 0
    · have e0 : FP.dval (FP.sds g M) (Dp0 (FP.rst g M) + e) = 0 := by rw [f1 h]; unfold FP.dval; rw [FP.num_nil]; simp
      rw [e0, h]; simp
    · rw [if_neg h]; exact f2
  · by_cases h : (FP.rst g M).mant = 0
    · have e0 : FP.dval (FP.sds g M) (Dp0 (FP.rst g M) + e) = 0 := by rw [f1 h]; unfold FP.dval; rw [FP.num_nil]; simp
      rw [e0, h, if_pos rfl, FP.p10_zero]; decide +kernel
    · rw [if_neg h]; exact f3
  · intro ht
    by_cases h : (FP.rst g M).mant = 0
    · have e0 : FP.dval (FP.sds g M) (Dp0 (FP.rst g M) + e) = 0 := by rw [f1 h]; unfold FP.dval; rw [FP.num_nil]; simp
      rw [e0, h]; simp
    · rw [if_neg h]; exact f4 ht

theorem numIn_plain_true {s : ByteArray} {M : Nat} {g : Nat → Nat} (h : Front s true 1 M g) (hd0 : 48 ≤ g 0 ∧ g 0 ≤ 57) (hM : (1 : Int) + M = s.size) :
    NumIn s true (FP.rst g M).mant (if (FP.rst g M).mant = 0 then 0 else Dp0 (FP.rst g M) + 0 - (FP.rst g M).nm) (FP.rst g M).tr (FP.sds g M) (Dp0 (FP.rst g M) + 0) := by
  obtain ⟨a1, a2, a3, a4, a5, a6, a7, a8, a9, a10⟩ := digits_in h.kinds (by have := h.sz; omega) 0 (by omega) (by omega)
  refine ⟨by have := h.sz; omega, by have := h.one; omega, fun w => special_neg s w (by have := h.fits; have := h.one; omega) (by have := h.sz; omega) (beq_iff_eq.mp h.sgn.symm) (by have := h.bytes 0 (by have := h.one; omega); simp at this; omega) (by have := h.bytes 0 (by have := h.one; omega); simp at this; omega), fun w => ?_, fun w gb d0 hD => ?_, a1, a2, a3, a4, a5, a6, a7, a8, a9, a10⟩
  · refine (read_plain_true s w M g h hM).mono ?_
    rintro e w' ⟨rfl, rfl⟩
    refine ⟨?_, rfl⟩
    unfold RPlain Dp0
    rw [Int.add_zero, hM]
  · refine set_true s gb M g 0 (fun _ => 0) (x := 0) (esg := 0) h (.inl hM) hD _ (fun _ => ?_) (fun hb => absurd hb.one (by omega))
    unfold Dp0
    rw [Int.add_zero]
theorem numIn_exp_true {s : ByteArray} {M N : Nat} {g ge : Nat → Nat} {x esg : Int} (h : Front s true 1 M g) (hd0 : 48 ≤ g 0 ∧ g 0 ≤ 57) (hb : Back s (1 + (M : Int)) x esg N ge) :
    NumIn s true (FP.rst g M).mant (if (FP.rst g M).mant = 0 then 0 else Dp0 (FP.rst g M) + (FP.ecl ge N : Int) * esg - (FP.rst g M).nm) (FP.rst g M).tr (FP.sds g M) (Dp0 (FP.rst g M) + (FP.ecl ge N : Int) * esg) := by
  have hE := FP.ecl_lt hb.kinds N (Nat.le_refl _)
  have hes : -100000 ≤ (FP.ecl ge N : Int) * esg ∧ (FP.ecl ge N : Int) * esg ≤ 100000 := by
    rcases hb.sgn with ⟨_, e⟩ | ⟨_, _, e⟩ | ⟨_, _, e⟩ <;> rw [e] <;> omega
  obtain ⟨a1, a2, a3, a4, a5, a6, a7, a8, a9, a10⟩ := digits_in h.kinds (by have := h.sz; have := h.fits; omega) ((FP.ecl ge N : Int) * esg) hes.1 hes.2
  refine ⟨by have := h.sz; omega, by have := h.fits; have := h.one; omega, fun w => special_neg s w (by have := h.fits; have := h.one; omega) (by have := h.sz; omega) (beq_iff_eq.mp h.sgn.symm) (by have := h.bytes 0 (by have := h.one; omega); simp at this; omega) (by have := h.bytes 0 (by have := h.one; omega); simp at this; omega), fun w => ?_, fun w gb d0 hD => ?_, a1, a2, a3, a4, a5, a6, a7, a8, a9, a10⟩
  · refine (read_exp_true s w M N g ge h hb).mono ?_
    rintro e w' ⟨rfl, rfl⟩
    refine ⟨?_, rfl⟩
    unfold RExp Dp0
    rw [hb.fin]
  · refine set_true s gb M g N ge h (.inr hb) hD _ (fun hM => ?_) (fun _ => rfl)
    have := hb.fin
    have := hb.one
    rcases hb.sgn with ⟨e, _⟩ | ⟨e, _, _⟩ | ⟨e, _, _⟩ <;> omega

theorem numIn_plain_false {s : ByteArray} {M : Nat} {g : Nat → Nat} (h : Front s false 0 M g) (hd0 : 48 ≤ g 0 ∧ g 0 ≤ 57) (hM : (0 : Int) + M = s.size) :
    NumIn s false (FP.rst g M).mant (if (FP.rst g M).mant = 0 then 0 else Dp0 (FP.rst g M) + 0 - (FP.rst g M).nm) (FP.rst g M).tr (FP.sds g M) (Dp0 (FP.rst g M) + 0) := by
  obtain ⟨a1, a2, a3, a4, a5, a6, a7, a8, a9, a10⟩ := digits_in h.kinds (by have := h.sz; omega) 0 (by omega) (by omega)
  refine ⟨by have := h.sz; omega, by have := h.one; omega, fun w => special_pos s w (by have := h.fits; have := h.one; omega) (by have := h.sz; omega) (by have := h.bytes 0 (by have := h.one; omega); simp at this; omega) (by have := h.bytes 0 (by have := h.one; omega); simp at this; omega), fun w => ?_, fun w gb d0 hD => ?_, a1, a2, a3, a4, a5, a6, a7, a8, a9, a10⟩
  · refine (read_plain_false s w M g h hM).mono ?_
    rintro e w' ⟨rfl, rfl⟩
    refine ⟨?_, rfl⟩
    unfold RPlain Dp0
    rw [Int.add_zero, hM]
  · refine set_false s gb M g 0 (fun _ => 0) (x := 0) (esg := 0) h (.inl hM) hD _ (fun _ => ?_) (fun hb => absurd hb.one (by omega))
    unfold Dp0
    rw [Int.add_zero]
theorem numIn_exp_false {s : ByteArray} {M N : Nat} {g ge : Nat → Nat} {x esg : Int} (h : Front s false 0 M g) (hd0 : 48 ≤ g 0 ∧ g 0 ≤ 57) (hb : Back s (0 + (M : Int)) x esg N ge) :
    NumIn s false (FP.rst g M).mant (if (FP.rst g M).mant = 0 then 0 else Dp0 (FP.rst g M) + (FP.ecl ge N : Int) * esg - (FP.rst g M).nm) (FP.rst g M).tr (FP.sds g M) (Dp0 (FP.rst g M) + (FP.ecl ge N : Int) * esg) := by
  have hE := FP.ecl_lt hb.kinds N (Nat.le_refl _)
  have hes : -100000 ≤ (FP.ecl ge N : Int) * esg ∧ (FP.ecl ge N : Int) * esg ≤ 100000 := by
    rcases hb.sgn with ⟨_, e⟩ | ⟨_, _, e⟩ | ⟨_, _, e⟩ <;> rw [e] <;> omega
  obtain ⟨a1, a2, a3, a4, a5, a6, a7, a8, a9, a10⟩ := digits_in h.kinds (by have := h.sz; have := h.fits; omega) ((FP.ecl ge N : Int) * esg) hes.1 hes.2
  refine ⟨by have := h.sz; omega, by have := h.fits; have := h.one; omega, fun w => special_pos s w (by have := h.fits; have := h.one; omega) (by have := h.sz; omega) (by have := h.bytes 0 (by have := h.one; omega); simp at this; omega) (by have := h.bytes 0 (by have := h.one; omega); simp at this; omega), fun w => ?_, fun w gb d0 hD => ?_, a1, a2, a3, a4, a5, a6, a7, a8, a9, a10⟩
  · refine (read_exp_false s w M N g ge h hb).mono ?_
    rintro e w' ⟨rfl, rfl⟩
    refine ⟨?_, rfl⟩
    unfold RExp Dp0
    rw [hb.fin]
  · refine set_false s gb M g N ge h (.inr hb) hD _ (fun hM => ?_) (fun _ => rfl)
    have := hb.fin
    have := hb.one
    rcases hb.sgn with ⟨e, _⟩ | ⟨e, _, _⟩ | ⟨e, _, _⟩ <;> omega


end Go.Proofs.YtodbjojglibniaaGreatDoor
