/- Rungs of doubles, nearest rungs, the table of powers of ten: plain facts, no program; no condition. -/
import Ieee.Arith
import GoSem.PinnedTables
namespace FP
theorem two_ne : (2 : Rat) ≠ 0 := by decide
theorem ten_ne : (10 : Rat) ≠ 0 := by decide
def p2 (e : Int) : Rat := (2 : Rat) ^ e
def p10 (e : Int) : Rat := (10 : Rat) ^ e
theorem p2_pos (e : Int) : 0 < p2 e := Rat.zpow_pos (by decide)
theorem p10_pos (e : Int) : 0 < p10 e := Rat.zpow_pos (by decide)
theorem p2_add (a b : Int) : p2 (a + b) = p2 a * p2 b := Rat.zpow_add two_ne a b
theorem p10_add (a b : Int) : p10 (a + b) = p10 a * p10 b := Rat.zpow_add ten_ne a b
theorem p2_zero : p2 0 = 1 := by unfold p2; simp
theorem p10_zero : p10 0 = 1 := by unfold p10; simp
theorem p2_nat (n : Nat) : p2 (n : Int) = ((2 ^ n : Nat) : Rat) := by
 unfold p2; rw [Rat.zpow_natCast]; simp
theorem p10_nat (n : Nat) : p10 (n : Int) = ((10 ^ n : Nat) : Rat) := by
 unfold p10; rw [Rat.zpow_natCast]; simp
theorem p2_succ (e : Int) : p2 (e + 1) = 2 * p2 e := by
 rw [p2_add]; have : p2 1 = 2 := by unfold p2; simp
 rw [this, Rat.mul_comm]
theorem p2_pred (e : Int) : p2 e = 2 * p2 (e - 1) := by
 have := p2_succ (e - 1); rwa [show e - 1 + 1 = e by omega] at this
theorem p2_neg_mul (e : Int) : p2 (-e) * p2 e = 1 := by
 rw [← p2_add, show -e + e = 0 by omega, p2_zero]
theorem p10_neg_mul (e : Int) : p10 (-e) * p10 e = 1 := by
 rw [← p10_add, show -e + e = 0 by omega, p10_zero]
def INF : Nat := 2047 * 2 ^ 52
def sig (r : Nat) : Nat := if r < 2 ^ 52 then r else 2 ^ 52 + r % 2 ^ 52
def plc (r : Nat) : Int := if r < 2 ^ 52 then -1074 else ((r / 2 ^ 52 : Nat) : Int) - 1075
def val (r : Nat) : Rat := (sig r : Rat) * p2 (plc r)
def mid (r : Nat) : Rat := ((2 * sig r + 1 : Nat) : Rat) * p2 (plc r - 1)
theorem val_succ (r : Nat) : val (r + 1) = val r + p2 (plc r) := by
 have key : ∀ (a b : Nat) (e : Int), b = a + 1 → (b : Rat) * p2 e = (a : Rat) * p2 e + p2 e := by
  intro a b e h; subst h; rw [Rat.natCast_add, Rat.add_mul]; simp
 unfold val sig plc
 by_cases h1 : r + 1 < 2 ^ 52
 ·have h0 : r < 2 ^ 52 := by omega
  rw [if_pos h1, if_pos h1, if_pos h0, if_pos h0]
  exact key _ _ _ rfl
 ·by_cases h0 : r < 2 ^ 52
  ·rw [if_neg h1, if_neg h1, if_pos h0, if_pos h0]
   have e1 : r + 1 = 2 ^ 52 := by omega
   rw [e1]
   rw [show ((2 ^ 52 / 2 ^ 52 : Nat) : Int) - 1075 = -1074 by decide]
   exact key _ _ _ (by omega)
  ·rw [if_neg h1, if_neg h1, if_neg h0, if_neg h0]
   by_cases hm : r % 2 ^ 52 + 1 < 2 ^ 52
   ·have e1 : (r + 1) / 2 ^ 52 = r / 2 ^ 52 := by omega
    have e2 : (r + 1) % 2 ^ 52 = r % 2 ^ 52 + 1 := by omega
    rw [e1, e2]
    exact key _ _ _ (by omega)
   ·have e1 : (r + 1) / 2 ^ 52 = r / 2 ^ 52 + 1 := by omega
    have e2 : (r + 1) % 2 ^ 52 = 0 := by omega
    have e3 : r % 2 ^ 52 = 2 ^ 52 - 1 := by omega
    rw [e1, e2, e3]
    rw [show (((r / 2 ^ 52 + 1 : Nat) : Int) - 1075) = (((r / 2 ^ 52 : Nat) : Int) - 1075) + 1 by omega, p2_succ]
    have := key (2 ^ 53 - 1) (2 ^ 53) (((r / 2 ^ 52 : Nat) : Int) - 1075) (by decide)
    rw [show 2 ^ 52 + (2 ^ 52 - 1) = 2 ^ 53 - 1 by decide, ← this]
    rw [← Rat.mul_assoc]
    congr 1
    decide +kernel
theorem mid_val (r : Nat) : mid r + mid r = val r + val (r + 1) := by
 rw [val_succ]
 unfold mid val
 have h := p2_pred (plc r)
 generalize p2 (plc r - 1) = t at *
 rw [h, Rat.natCast_add, Rat.natCast_mul]
 have : ((2 : Nat) : Rat) = 2 := rfl
 rw [this]
 have : ((1 : Nat) : Rat) = 1 := rfl
 rw [this]
 generalize (sig r : Rat) = s
 grind
theorem val_lt_succ (r : Nat) : val r < val (r + 1) := by
 have := p2_pos (plc r); rw [val_succ]; grind
theorem val_lt_mid (r : Nat) : val r < mid r := by
 have := mid_val r; have := val_lt_succ r; grind
theorem mid_lt_val (r : Nat) : mid r < val (r + 1) := by
 have := mid_val r; have := val_lt_succ r; grind
theorem mid_lt_succ (r : Nat) : mid r < mid (r + 1) := by
 have := mid_lt_val r; have := val_lt_mid (r + 1); grind
theorem mid_mono {a b : Nat} (h : a < b) : mid a < mid b := by
 induction b with
 | zero => omega
 | succ b ih =>
  have h1 := mid_lt_succ b
  by_cases e : a = b
  ·subst e; exact h1
  ·have := ih (by omega); grind
theorem val_mono {a b : Nat} (h : a < b) : val a < val b := by
 induction b with
 | zero => omega
 | succ b ih =>
  have h1 := val_lt_succ b
  by_cases e : a = b
  ·subst e; exact h1
  ·have := ih (by omega); grind
theorem val_le {a b : Nat} (h : a ≤ b) : val a ≤ val b := by
 by_cases e : a = b
 ·subst e; exact Rat.le_refl
 ·exact Rat.le_of_lt (val_mono (by omega))
theorem val_lt_iff {a b : Nat} : val a < val b ↔ a < b := by
 constructor
 ·intro h
  by_cases c : a < b
  ·exact c
  ·have := val_le (show b ≤ a by omega); grind
 ·exact val_mono
theorem mid_le {a b : Nat} (h : a ≤ b) : mid a ≤ mid b := by
 by_cases e : a = b
 ·subst e; exact Rat.le_refl
 ·exact Rat.le_of_lt (mid_mono (by omega))
theorem val_zero : val 0 = 0 := by unfold val sig; simp
def Near (V : Rat) (r : Nat) : Prop :=
 r ≤ INF ∧ (r = 0 ∨ mid (r - 1) < V ∨ (mid (r - 1) = V ∧ r % 2 = 0)) ∧ (r = INF ∨ V < mid r ∨ (V = mid r ∧ r % 2 = 0))
theorem Near.le_aux {V : Rat} {r s : Nat} (hr : Near V r) (hs : Near V s) : ¬ r < s := by
 intro h
 obtain ⟨hr0, _, hr2⟩ := hr
 obtain ⟨hs0, hs1, _⟩ := hs
 have a : V < mid r ∨ (V = mid r ∧ r % 2 = 0) := by
  rcases hr2 with h1 | h1
  ·omega
  ·exact h1
 have b : mid (s - 1) < V ∨ (mid (s - 1) = V ∧ s % 2 = 0) := by
  rcases hs1 with h1 | h1
  ·omega
  ·exact h1
 have m := mid_le (show r ≤ s - 1 by omega)
 rcases a with a | ⟨a, ae⟩
 ·rcases b with b | ⟨b, be⟩ <;> grind
 ·rcases b with b | ⟨b, be⟩
  ·grind
  ·by_cases e : r = s - 1
   ·omega
   ·have := mid_mono (show r < s - 1 by omega); grind
theorem Near.unique {V : Rat} {r s : Nat} (hr : Near V r) (hs : Near V s) : r = s := by
 have := Near.le_aux hr hs
 have := Near.le_aux hs hr
 omega
theorem Near.between {U V W : Rat} {r : Nat} (hu : Near U r) (hw : Near W r) (h1 : U ≤ V) (h2 : V ≤ W) : Near V r := by
 refine ⟨hu.1, ?_, ?_⟩
 ·rcases hu.2.1 with h | h | ⟨h, e⟩
  ·exact .inl h
  ·exact .inr (.inl (by grind))
  ·by_cases c : mid (r - 1) = V
   ·exact .inr (.inr ⟨c, e⟩)
   ·exact .inr (.inl (by grind))
 ·rcases hw.2.2 with h | h | ⟨h, e⟩
  ·exact .inl h
  ·exact .inr (.inl (by grind))
  ·by_cases c : V = mid r
   ·exact .inr (.inr ⟨c, e⟩)
   ·exact .inr (.inl (by grind))
end FP
namespace FP
def RH (q : Rat) (k : Nat) : Prop :=
 (2 * q < 2 * (k : Rat) + 1 ∨ (2 * q = 2 * (k : Rat) + 1 ∧ k % 2 = 0)) ∧ (2 * (k : Rat) - 1 < 2 * q ∨ (2 * (k : Rat) - 1 = 2 * q ∧ k % 2 = 0))
theorem cast_succ (k : Nat) : ((k + 1 : Nat) : Rat) = (k : Rat) + 1 := by rw [Rat.natCast_add]; rfl
theorem cast_le {a b : Nat} (h : a ≤ b) : (a : Rat) ≤ (b : Rat) := Rat.natCast_le_natCast.mpr h
theorem cast_lt {a b : Nat} (h : a < b) : (a : Rat) < (b : Rat) := Rat.natCast_lt_natCast.mpr h
theorem val_at (b k : Nat) (h : b = 0 ∨ 2 ^ 52 ≤ k) (hk : k ≤ 2 ^ 53) : val (b * 2 ^ 52 + k) = (k : Rat) * p2 ((b : Int) - 1074) := by
 unfold val sig plc
 by_cases h0 : b * 2 ^ 52 + k < 2 ^ 52
 ·have hb : b = 0 := by omega
  subst hb
  rw [if_pos h0, if_pos h0]
  simp
 ·rw [if_neg h0, if_neg h0]
  by_cases h1 : k = 2 ^ 53
  ·subst h1
   rw [show (b * 2 ^ 52 + 2 ^ 53) / 2 ^ 52 = b + 2 by omega, show (b * 2 ^ 52 + 2 ^ 53) % 2 ^ 52 = 0 by omega]
   rw [show (((b + 2 : Nat) : Int) - 1075) = ((b : Int) - 1074) + 1 by omega, p2_succ, ← Rat.mul_assoc]
   congr 1
   decide +kernel
  ·have hk2 : 2 ^ 52 ≤ k := by omega
   rw [show (b * 2 ^ 52 + k) / 2 ^ 52 = b + 1 by omega, show 2 ^ 52 + (b * 2 ^ 52 + k) % 2 ^ 52 = k by omega]
   rw [show (((b + 1 : Nat) : Int) - 1075) = (b : Int) - 1074 by omega]
theorem mid_at (b k : Nat) (h : b = 0 ∨ 2 ^ 52 ≤ k) (hk : k < 2 ^ 53) : 2 * mid (b * 2 ^ 52 + k) = (2 * (k : Rat) + 1) * p2 ((b : Int) - 1074) := by
 have h1 := mid_val (b * 2 ^ 52 + k)
 rw [val_at b k h (by omega), show b * 2 ^ 52 + k + 1 = b * 2 ^ 52 + (k + 1) by omega, val_at b (k + 1) (by omega) (by omega), cast_succ] at h1
 grind
theorem near_of_scaled {V q : Rat} {b k : Nat} (hV : V = q * p2 ((b : Int) - 1074)) (h1 : b = 0 ∨ ((2 ^ 52 : Nat) : Rat) ≤ q) (h2 : q < ((2 ^ 53 : Nat) : Rat)) (hk : RH q k) :
  Near V (min (b * 2 ^ 52 + k) INF) := by
 have hp := p2_pos ((b : Int) - 1074)
 have hkb : k ≤ 2 ^ 53 := by
  rcases Nat.lt_or_ge (2 ^ 53) k with h | h
  ·have := cast_le (show 2 ^ 53 + 1 ≤ k by omega)
   rw [cast_succ] at this
   rcases hk.2 with h3 | ⟨h3, _⟩ <;> grind
  ·exact h
 have hkl : b = 0 ∨ 2 ^ 52 ≤ k := by
  rcases h1 with h | h
  ·exact .inl h
  ·right
   rcases Nat.lt_or_ge k (2 ^ 52) with h3 | h3
   ·have := cast_le (show k + 1 ≤ 2 ^ 52 by omega)
    rw [cast_succ] at this
    rcases hk.1 with h4 | ⟨h4, _⟩ <;> grind
   ·exact h3
 have par : (b * 2 ^ 52 + k) % 2 = k % 2 := by omega
 have lo : b * 2 ^ 52 + k = 0 ∨ mid (b * 2 ^ 52 + k - 1) < V ∨ (mid (b * 2 ^ 52 + k - 1) = V ∧ k % 2 = 0) := by
  by_cases h0 : b * 2 ^ 52 + k = 0
  ·exact .inl h0
  right
  by_cases hc : b = 0 ∨ 2 ^ 52 ≤ k - 1
  ·have hk0 : 0 < k := by omega
   have hm := mid_at b (k - 1) hc (by omega)
   rw [show b * 2 ^ 52 + (k - 1) = b * 2 ^ 52 + k - 1 by omega] at hm
   have e : (k : Rat) = ((k - 1 : Nat) : Rat) + 1 := by rw [← cast_succ]; congr 1; omega
   generalize ((k - 1 : Nat) : Rat) = j at *
   generalize p2 ((b : Int) - 1074) = t at *
   generalize mid (b * 2 ^ 52 + k - 1) = M at *
   rcases hk.2 with h3 | ⟨h3, h4⟩
   ·left
    have : (2 * j + 1) * t < (2 * q) * t := Rat.mul_lt_mul_of_pos_right (by grind) hp
    grind
   ·right
    refine ⟨?_, h4⟩
    have : (2 * j + 1) * t = (2 * q) * t := by rw [show 2 * j + 1 = 2 * q by grind]
    grind
  ·have hk0 : k = 2 ^ 52 := by omega
   have hq : ((2 ^ 52 : Nat) : Rat) ≤ q := by rcases h1 with h | h; omega; exact h
   left
   have hv := val_at b k hkl hkb
   have hlt := mid_lt_val (b * 2 ^ 52 + k - 1)
   rw [show b * 2 ^ 52 + k - 1 + 1 = b * 2 ^ 52 + k by omega, hv] at hlt
   have : (k : Rat) * p2 ((b : Int) - 1074) ≤ q * p2 ((b : Int) - 1074) := Rat.mul_le_mul_of_nonneg_right (by rw [hk0]; exact hq) (Rat.le_of_lt hp)
   grind
 have hi : V < mid (b * 2 ^ 52 + k) ∨ (V = mid (b * 2 ^ 52 + k) ∧ k % 2 = 0) := by
  by_cases hc : k < 2 ^ 53
  ·have hm := mid_at b k hkl hc
   generalize p2 ((b : Int) - 1074) = t at *
   generalize mid (b * 2 ^ 52 + k) = M at *
   rcases hk.1 with h3 | ⟨h3, h4⟩
   ·left
    have : (2 * q) * t < (2 * (k : Rat) + 1) * t := Rat.mul_lt_mul_of_pos_right h3 hp
    grind
   ·right
    refine ⟨?_, h4⟩
    have : (2 * q) * t = (2 * (k : Rat) + 1) * t := by rw [h3]
    grind
  ·have hk0 : k = 2 ^ 53 := by omega
   left
   have hv := val_at b k hkl hkb
   have hlt := val_lt_mid (b * 2 ^ 52 + k)
   rw [hv] at hlt
   have : q * p2 ((b : Int) - 1074) < (k : Rat) * p2 ((b : Int) - 1074) := Rat.mul_lt_mul_of_pos_right (by rw [hk0]; exact h2) hp
   grind
 by_cases hI : b * 2 ^ 52 + k < INF
 ·rw [Nat.min_eq_left (by omega)]
  refine ⟨by omega, ?_, ?_⟩
  ·rw [par]; exact lo
  ·rw [par]; exact .inr hi
 ·rw [Nat.min_eq_right (by omega)]
  refine ⟨Nat.le_refl _, ?_, .inl rfl⟩
  right
  by_cases e : b * 2 ^ 52 + k = INF
  ·rw [← e]
   rcases lo with h | h
   ·unfold INF at e; omega
   ·rw [par]; exact h
  ·have := mid_mono (show INF - 1 < b * 2 ^ 52 + k - 1 by unfold INF at *; omega)
   rcases lo with h | h | ⟨h, _⟩
   ·unfold INF at hI; omega
   ·left; grind
   ·left; grind
end FP
namespace FP
open Ieee
theorem mul_cancel {a b c : Rat} (hc : c ≠ 0) (h : a * c = b * c) : a = b := by
 have := congrArg (· * c⁻¹) h
 simp only [Rat.mul_assoc, Rat.mul_inv_cancel _ hc, Rat.mul_one] at this
 exact this
theorem RH_of_nat {q : Rat} {n g k : Nat} (hg : 0 < g) (hq : q * (g : Rat) = (n : Rat))
  (h1 : 2 * n < (2 * k + 1) * g ∨ (2 * n = (2 * k + 1) * g ∧ k % 2 = 0)) (h2 : 2 * k * g < 2 * n + g ∨ (2 * k * g = 2 * n + g ∧ k % 2 = 0)) : RH q k := by
 have hgp : (0 : Rat) < (g : Rat) := Rat.natCast_pos.mpr hg
 have up : ∀ a b : Nat, a < b → (a : Rat) < (b : Rat) := fun a b h => cast_lt h
 constructor
 ·rcases h1 with h | ⟨h, e⟩
  ·left
   have := up _ _ h
   simp only [Rat.natCast_mul, Rat.natCast_add, Rat.natCast_ofNat] at this
   rw [← hq] at this
   apply Rat.lt_of_mul_lt_mul_right (c := (g : Rat)) _ (Rat.le_of_lt hgp)
   grind
  ·right
   refine ⟨?_, e⟩
   have : ((2 * n : Nat) : Rat) = (((2 * k + 1) * g : Nat) : Rat) := by rw [h]
   simp only [Rat.natCast_mul, Rat.natCast_add, Rat.natCast_ofNat] at this
   rw [← hq] at this
   have h3 : (2 * q) * (g : Rat) = (2 * (k : Rat) + 1) * (g : Rat) := by grind
   exact mul_cancel (Rat.ne_of_gt hgp) h3
 ·rcases h2 with h | ⟨h, e⟩
  ·left
   have := up _ _ h
   simp only [Rat.natCast_mul, Rat.natCast_add, Rat.natCast_ofNat] at this
   rw [← hq] at this
   apply Rat.lt_of_mul_lt_mul_right (c := (g : Rat)) _ (Rat.le_of_lt hgp)
   grind
  ·right
   refine ⟨?_, e⟩
   have : ((2 * k * g : Nat) : Rat) = ((2 * n + g : Nat) : Rat) := by rw [h]
   simp only [Rat.natCast_mul, Rat.natCast_add, Rat.natCast_ofNat] at this
   rw [← hq] at this
   have h3 : (2 * (k : Rat) - 1) * (g : Rat) = (2 * q) * (g : Rat) := by grind
   exact mul_cancel (Rat.ne_of_gt hgp) h3
theorem cut_RH (neg : Bool) (n drop : Nat) : RH ((n : Rat) * p2 (-(drop : Int))) (Toward.even.cut neg n drop) := by
 have hq : (n : Rat) * p2 (-(drop : Int)) * ((2 ^ drop : Nat) : Rat) = (n : Rat) := by
  rw [← p2_nat, Rat.mul_assoc, p2_neg_mul, Rat.mul_one]
 have hn : n < 2 ^ (n.log2 + 1) := Nat.lt_log2_self
 by_cases hd : drop ≤ n.log2 + 2
 ·unfold Toward.cut
  rw [Nat.min_eq_left hd]
  simp only [Nat.one_shiftLeft]
  have hg : 0 < 2 ^ drop := Nat.two_pow_pos drop
  generalize hG : 2 ^ drop = g at *
  have hdm := Nat.div_add_mod n g
  have hml := Nat.mod_lt n hg
  generalize hL : n / g = low at *
  generalize hR : n % g = rest at *
  have m1 : (2 * low + 1) * g = 2 * (g * low) + g := by grind
  have m2 : 2 * low * g = 2 * (g * low) := by grind
  have m3 : (2 * (low + 1) + 1) * g = 2 * (g * low) + 3 * g := by grind
  have m4 : 2 * (low + 1) * g = 2 * (g * low) + 2 * g := by grind
  by_cases c1 : g < 2 * rest
  ·have hm : (decide (g < 2 * rest) || (g == 2 * rest && low % 2 == 1)) = true := by simp [c1]
   rw [hm, Bool.toNat_true]
   exact RH_of_nat hg hq (.inl (by omega)) (.inl (by omega))
  ·by_cases c2 : g = 2 * rest
   ·by_cases c3 : low % 2 = 1
    ·have hm : (decide (g < 2 * rest) || (g == 2 * rest && low % 2 == 1)) = true := by simp [c2, c3]
     rw [hm, Bool.toNat_true]
     exact RH_of_nat hg hq (.inl (by omega)) (.inr ⟨by omega, by omega⟩)
    ·have hm : (decide (g < 2 * rest) || (g == 2 * rest && low % 2 == 1)) = false := by simp [c2, c3]
     rw [hm, Bool.toNat_false, Nat.add_zero]
     exact RH_of_nat hg hq (.inr ⟨by omega, by omega⟩) (.inl (by omega))
   ·have hm : (decide (g < 2 * rest) || (g == 2 * rest && low % 2 == 1)) = false := by simp [c1, c2]
    rw [hm, Bool.toNat_false, Nat.add_zero]
    exact RH_of_nat hg hq (.inl (by omega)) (.inl (by omega))
 ·have hz : Toward.even.cut neg n drop = 0 := by
   unfold Toward.cut
   rw [Nat.min_eq_right (by omega)]
   simp only [Nat.one_shiftLeft]
   have h4 : 2 ^ (n.log2 + 2) = 2 * 2 ^ (n.log2 + 1) := by rw [Nat.pow_succ]; omega
   have h5 : n / 2 ^ (n.log2 + 2) = 0 := Nat.div_eq_of_lt (by omega)
   have h6 : n % 2 ^ (n.log2 + 2) = n := Nat.mod_eq_of_lt (by omega)
   rw [h5, h6]
   have h7 : ¬ 2 ^ (n.log2 + 2) < 2 * n := by omega
   simp [h7]
  rw [hz]
  apply RH_of_nat (Nat.two_pow_pos drop) hq
  ·left
   have : 2 ^ (n.log2 + 2) ≤ 2 ^ drop := Nat.pow_le_pow_right (by omega) (by omega)
   have h4 : 2 ^ (n.log2 + 2) = 2 * 2 ^ (n.log2 + 1) := by rw [Nat.pow_succ]; omega
   omega
  ·left
   have := Nat.two_pow_pos drop
   omega
theorem leastPlace_double : double.leastPlace = -1074 := by decide
theorem binade_double : double.binade = 2 ^ 52 := by decide
theorem infRung_double : double.infRung = INF := by decide +kernel
theorem signWeight_double : double.signWeight = 2 ^ 63 := by decide +kernel
def wordOf (neg : Bool) (r : Nat) : Nat := if neg then 2 ^ 63 + r else r
theorem word_double (neg : Bool) (r : Nat) : double.word neg r = wordOf neg r := by
 unfold Format.word wordOf; rw [signWeight_double]
theorem near_zero : Near 0 0 := by
 refine ⟨by unfold INF; omega, .inl rfl, .inr (.inl ?_)⟩
 have := val_lt_mid 0
 rw [val_zero] at this
 exact this
theorem nearest_near (neg : Bool) (mag : Nat) (place : Int) : ∃ r, double.nearest neg mag place = wordOf neg r ∧ Near ((mag : Rat) * p2 place) r := by
 unfold Format.nearest
 by_cases h0 : mag = 0
 ·subst h0
  refine ⟨0, by rw [if_pos rfl, word_double], ?_⟩
  rw [show ((0 : Nat) : Rat) = 0 from rfl, Rat.zero_mul]
  exact near_zero
 rw [if_neg h0]
 simp only [leastPlace_double, binade_double, infRung_double, word_double]
 rw [show (double.fractionBits : Int) = 52 from rfl]
 have hl1 : 2 ^ mag.log2 ≤ mag := Nat.log2_self_le h0
 have hl2 : mag < 2 ^ (mag.log2 + 1) := Nat.lt_log2_self
 generalize hlg : mag.log2 = lg at *
 obtain ⟨last, hlast⟩ : ∃ last : Int, last = max (place + lg - 52) (-1074) := ⟨_, rfl⟩
 rw [← hlast]
 refine ⟨_, rfl, ?_⟩
 have hb : last = (((last - -1074).toNat : Nat) : Int) - 1074 := by omega
 have hq : ((mag <<< (place - last).toNat : Nat) : Rat) * p2 (-((last - place).toNat : Int)) = (mag : Rat) * p2 (place - last) := by
  rw [Nat.shiftLeft_eq, Rat.natCast_mul, ← p2_nat, Rat.mul_assoc, ← p2_add]
  congr 2
  omega
 have hk := cut_RH neg (mag <<< (place - last).toNat) (last - place).toNat
 rw [hq] at hk
 apply near_of_scaled (q := (mag : Rat) * p2 (place - last)) _ _ _ hk
 ·rw [Rat.mul_assoc, ← p2_add]
  congr 2
  omega
 ·by_cases hc : last = -1074
  ·left; omega
  ·right
   have : last = place + lg - 52 := by omega
   rw [show place - last = 52 - lg by omega]
   have h1 : ((2 ^ lg : Nat) : Rat) ≤ (mag : Rat) := cast_le hl1
   rw [← p2_nat] at h1 ⊢
   rw [show ((52 : Nat) : Int) = lg + (52 - lg) by omega, p2_add]
   exact Rat.mul_le_mul_of_nonneg_right h1 (Rat.le_of_lt (p2_pos _))
 ·have h1 : (mag : Rat) < ((2 ^ (lg + 1) : Nat) : Rat) := cast_lt hl2
  rw [← p2_nat] at h1 ⊢
  have h2 : (mag : Rat) * p2 (place - last) < p2 ((lg + 1 : Nat) : Int) * p2 (place - last) := Rat.mul_lt_mul_of_pos_right h1 (p2_pos _)
  rw [← p2_add] at h2
  have h3 : p2 (((lg + 1 : Nat) : Int) + (place - last)) ≤ p2 ((53 : Nat) : Int) := by
   rw [show ((53 : Nat) : Int) = (((lg + 1 : Nat) : Int) + (place - last)) + ((53 - (lg + 1) - (place - last)).toNat : Int) by omega, p2_add (((lg + 1 : Nat) : Int) + (place - last)), p2_nat]
   have h4 : (1 : Rat) ≤ ((2 ^ (53 - ((lg : Int) + 1) - (place - last)).toNat : Nat) : Rat) := cast_le (Nat.two_pow_pos _)
   have h5 := p2_pos (((lg + 1 : Nat) : Int) + (place - last))
   have := Rat.mul_le_mul_of_nonneg_left h4 (Rat.le_of_lt h5)
   rw [Rat.mul_one] at this
   exact this
  grind
end FP
namespace FP
structure Conv (N M : Nat) (q0 r0 q1 r1 : Nat) (s : Bool) : Prop where
 ex : ∃ p0 p1 : Int, (q0 : Int) * N - p0 * M = (if s then -(r0 : Int) else r0) ∧ (q1 : Int) * N - p1 * M = (if s then (r1 : Int) else -r1) ∧
  (q1 : Int) * p0 - q0 * p1 = (if s then 1 else -1)
theorem Conv.start (N M : Nat) : Conv N M 0 M 1 N true := ⟨1, 0, by simp, by simp, by simp⟩
theorem Conv.step {N M q0 r0 q1 r1 : Nat} {s : Bool} (h : Conv N M q0 r0 q1 r1 s) : Conv N M q1 r1 (q0 + r0 / r1 * q1) (r0 % r1) (!s) := by
 obtain ⟨p0, p1, h0, h1, hd⟩ := h.ex
 have hm : (r0 : Int) = r1 * (r0 / r1 : Nat) + (r0 % r1 : Nat) := by
  have := Nat.div_add_mod r0 r1
  have h2 : ((r1 * (r0 / r1) + r0 % r1 : Nat) : Int) = (r0 : Int) := by rw [this]
  rw [← h2]; push_cast; rfl
 refine ⟨p1, p0 + (r0 / r1 : Nat) * p1, ?_, ?_, ?_⟩
 ·rw [h1]; cases s <;> rfl
 ·generalize (r0 / r1 : Nat) = a at *
  generalize (r0 % r1 : Nat) = b at *
  have e : ((q0 + a * q1 : Nat) : Int) * N - (p0 + a * p1) * M = ((q0 : Int) * N - p0 * M) + a * ((q1 : Int) * N - p1 * M) := by
   push_cast
   grind
  rw [e, h0, h1]
  cases s <;> simp <;> grind
 ·generalize (r0 / r1 : Nat) = a at *
  have e : ((q0 + a * q1 : Nat) : Int) * p1 - (q1 : Int) * (p0 + a * p1) = -((q1 : Int) * p0 - q0 * p1) := by
   push_cast
   grind
  rw [e, hd]
  cases s <;> simp
theorem Conv.split {N M A rA B rB : Nat} {s : Bool} (h : Conv N M A rA B rB s) (x y : Int) :
  ∃ u v : Int, x = u * A + v * B ∧ x * N - y * M = (if s then v * rB - u * rA else u * rA - v * rB) := by
 obtain ⟨p0, p1, h0, h1, hd⟩ := h.ex
 cases s
 ·simp only [Bool.false_eq_true, if_false] at *
  refine ⟨x * p1 - y * B, -(x * p0 - y * A), ?_, ?_⟩
  ·have : (x * p1 - y * B) * A + -(x * p0 - y * A) * B = x * -((B : Int) * p0 - A * p1) := by grind
   rw [this, hd]; grind
  ·have e : x * N - y * M = (x * p1 - y * B) * ((A : Int) * N - p0 * M) + -(x * p0 - y * A) * ((B : Int) * N - p1 * M) := by
    have : (x * p1 - y * B) * ((A : Int) * N - p0 * M) + -(x * p0 - y * A) * ((B : Int) * N - p1 * M) = (x * N - y * M) * -((B : Int) * p0 - A * p1) := by grind
    rw [this, hd]; grind
   rw [e, h0, h1]; grind
 ·simp only [if_true] at *
  refine ⟨-(x * p1 - y * B), x * p0 - y * A, ?_, ?_⟩
  ·have : -(x * p1 - y * B) * A + (x * p0 - y * A) * B = x * ((B : Int) * p0 - A * p1) := by grind
   rw [this, hd]; grind
  ·have e : x * N - y * M = -(x * p1 - y * B) * ((A : Int) * N - p0 * M) + (x * p0 - y * A) * ((B : Int) * N - p1 * M) := by
    have : -(x * p1 - y * B) * ((A : Int) * N - p0 * M) + (x * p0 - y * A) * ((B : Int) * N - p1 * M) = (x * N - y * M) * ((B : Int) * p0 - A * p1) := by grind
    rw [this, hd]; grind
   rw [e, h0, h1]; grind
def Gap (N M : Nat) : Prop := ∀ x y : Int, 2 ^ 63 ≤ x → x < 2 ^ 64 → x * N - y * M = 0 ∨ (M : Int) < (x * N - y * M) * 2 ^ 72 ∨ (x * N - y * M) * 2 ^ 71 ≤ -(M : Int)
def good (M A rA B : Nat) (s : Bool) : Bool :=
 let u0 := (2 ^ 63 + A - 1) / A
 let u1 := (B - 2 ^ 64 + 1 + A - 1) / A
 decide (M ≤ u1 * rA * 2 ^ 71) && (if s then decide (M ≤ u0 * rA * 2 ^ 71) else decide (M < u0 * rA * 2 ^ 72))
theorem ceil_le {a u : Nat} {A : Nat} (hA : 0 < A) (h : (a : Int) ≤ (u : Int) * A) : (a + A - 1) / A ≤ u := by
 have h1 : a ≤ u * A := by exact_mod_cast h
 rw [Nat.div_le_iff_le_mul_add_pred hA]
 have : A * u = u * A := Nat.mul_comm _ _
 omega
theorem gap_of_good {N M A rA B rB : Nat} {s : Bool} (h : Conv N M A rA B rB s) (hA : 0 < A) (hB : 2 ^ 64 ≤ B) (g : good M A rA B s = true) : Gap N M := by
 intro x y hx0 hx1
 obtain ⟨u, v, hx, hD⟩ := h.split x y
 unfold good at g
 simp only [Bool.and_eq_true, decide_eq_true_eq] at g
 obtain ⟨g1, g0⟩ := g
 have key1 : ∀ n : Nat, (2 ^ 63 : Int) ≤ (n : Int) * A → (2 ^ 63 + A - 1) / A ≤ n := fun n hn => ceil_le hA (by exact_mod_cast hn)
 have key2 : ∀ n : Nat, ((B - 2 ^ 64 + 1 : Nat) : Int) ≤ (n : Int) * A → (B - 2 ^ 64 + 1 + A - 1) / A ≤ n := fun n hn => ceil_le hA hn
 have hApos : (0 : Int) < (A : Int) := by exact_mod_cast hA
 have hBpos : (2 ^ 64 : Int) ≤ (B : Int) := by exact_mod_cast hB
 have big : ∀ n : Nat, ((B - 2 ^ 64 + 1 : Nat) : Int) ≤ (n : Int) * A → (M : Int) ≤ (n : Int) * rA * 2 ^ 71 := by
  intro n hn
  have k := key2 n hn
  have k2 : (B - 2 ^ 64 + 1 + A - 1) / A * rA * 2 ^ 71 ≤ n * rA * 2 ^ 71 := Nat.mul_le_mul_right _ (Nat.mul_le_mul_right _ k)
  exact_mod_cast Nat.le_trans g1 k2
 have hcast : ((B - 2 ^ 64 + 1 : Nat) : Int) = (B : Int) - 2 ^ 64 + 1 := by omega
 rcases Int.lt_trichotomy v 0 with hv | hv | hv
 ·
  have hvB : v * B ≤ -(B : Int) := by
   have : (v + 1) * (B : Int) ≤ 0 := Int.mul_nonpos_of_nonpos_of_nonneg (by omega) (by omega)
   grind
  have huA : (B : Int) + x ≤ u * A := by grind
  have hu : 0 < u := by
   by_cases h1 : 0 < u
   ·exact h1
   ·replace h1 : u ≤ 0 := by omega
    have : u * (A : Int) ≤ 0 := Int.mul_nonpos_of_nonpos_of_nonneg h1 (by omega)
    omega
  obtain ⟨n, rfl⟩ := Int.eq_ofNat_of_zero_le (Int.le_of_lt hu)
  have hb := big n (by rw [hcast]; omega)
  have hvr : v * (rB : Int) ≤ 0 := Int.mul_nonpos_of_nonpos_of_nonneg (by omega) (by omega)
  cases s
  ·simp only [Bool.false_eq_true, if_false] at hD
   rw [hD]
   by_cases h0 : (n : Int) * rA - v * rB = 0
   ·exact .inl h0
   ·right; left
    have hnr : 0 ≤ (n : Int) * rA := Int.mul_nonneg (by omega) (by omega)
    grind
  ·simp only [if_true] at hD
   rw [hD]
   right; right
   grind
 ·
  subst hv
  have hxu : x = u * A := by grind
  have hu : 0 < u := by
   by_cases h1 : 0 < u
   ·exact h1
   ·replace h1 : u ≤ 0 := by omega
    have : u * (A : Int) ≤ 0 := Int.mul_nonpos_of_nonpos_of_nonneg h1 (by omega)
    omega
  obtain ⟨n, rfl⟩ := Int.eq_ofNat_of_zero_le (Int.le_of_lt hu)
  have k := key1 n (by omega)
  have k2 : (2 ^ 63 + A - 1) / A * rA ≤ n * rA := Nat.mul_le_mul_right _ k
  cases s
  ·simp only [Bool.false_eq_true, if_false] at hD g0
   rw [hD]
   right; left
   have k3 : (2 ^ 63 + A - 1) / A * rA * 2 ^ 72 ≤ n * rA * 2 ^ 72 := Nat.mul_le_mul_right _ k2
   have := Nat.lt_of_lt_of_le (by simpa using g0) k3
   have h4 : (M : Int) < (n : Int) * rA * 2 ^ 72 := by exact_mod_cast this
   grind
  ·simp only [if_true] at hD g0
   rw [hD]
   right; right
   have k3 : (2 ^ 63 + A - 1) / A * rA * 2 ^ 71 ≤ n * rA * 2 ^ 71 := Nat.mul_le_mul_right _ k2
   have := Nat.le_trans (by simpa using g0) k3
   have h4 : (M : Int) ≤ (n : Int) * rA * 2 ^ 71 := by exact_mod_cast this
   grind
 ·
  have hvB : (B : Int) ≤ v * B := by
   have : 0 ≤ (v - 1) * (B : Int) := Int.mul_nonneg (by omega) (by omega)
   grind
  have huA : (-u) * A = v * B - x := by grind
  have hu : 0 < -u := by
   by_cases h1 : 0 < -u
   ·exact h1
   ·replace h1 : -u ≤ 0 := by omega
    have : (-u) * (A : Int) ≤ 0 := Int.mul_nonpos_of_nonpos_of_nonneg h1 (by omega)
    omega
  obtain ⟨n, hn⟩ := Int.eq_ofNat_of_zero_le (Int.le_of_lt hu)
  obtain rfl : u = -(n : Int) := by omega
  have hb := big n (by rw [hcast]; grind)
  have hvr : 0 ≤ v * (rB : Int) := Int.mul_nonneg (by omega) (by omega)
  have hnr : 0 ≤ (n : Int) * rA := Int.mul_nonneg (by omega) (by omega)
  clear key1 key2 big g1 g0
  rw [Int.neg_mul] at hD
  cases s
  ·simp only [Bool.false_eq_true, if_false] at hD
   rw [hD]
   right; right
   omega
  ·simp only [if_true] at hD
   rw [hD]
   by_cases h0 : v * rB - -((n : Int) * rA) = 0
   ·exact .inl h0
   ·right; left
    omega
theorem gap_of_end {N M A rA B : Nat} {s : Bool} (h : Conv N M A rA B 0 s) (g : M ≤ rA * 2 ^ 71) (h0 : 0 < rA) : Gap N M := by
 intro x y _ _
 obtain ⟨u, v, _, hD⟩ := h.split x y
 have g' : (M : Int) ≤ (rA : Int) * 2 ^ 71 := by exact_mod_cast g
 have r0 : (0 : Int) < (rA : Int) := by exact_mod_cast h0
 have main : ∀ d : Int, (∃ t : Int, d = t * rA) → d = 0 ∨ (M : Int) < d * 2 ^ 72 ∨ d * 2 ^ 71 ≤ -(M : Int) := by
  rintro d ⟨t, rfl⟩
  rcases Int.lt_trichotomy t 0 with ht | ht | ht
  ·right; right
   have : (t + 1) * (rA : Int) ≤ 0 := Int.mul_nonpos_of_nonpos_of_nonneg (by omega) (by omega)
   grind
  ·left; subst ht; simp
  ·right; left
   have : 0 ≤ (t - 1) * (rA : Int) := Int.mul_nonneg (by omega) (by omega)
   grind
 apply main
 cases s
 ·exact ⟨u, by simp only [Bool.false_eq_true, if_false] at hD; rw [hD]; simp⟩
 ·exact ⟨-u, by simp only [if_true] at hD; rw [hD]; grind⟩
def run (M : Nat) : (fuel q0 r0 q1 r1 : Nat) → Bool → Bool
 | 0, _, _, _, _, _ => false
 | fuel + 1, q0, r0, q1, r1, s =>
  if r1 = 0 then decide (M ≤ r0 * 2 ^ 71) && decide (0 < r0)
  else
   let q2 := q0 + r0 / r1 * q1
   if 2 ^ 64 ≤ q2 then decide (0 < q1) && good M q1 r1 q2 (!s)
   else run M fuel q1 r1 q2 (r0 % r1) (!s)
theorem run_gap (N M : Nat) : ∀ (fuel q0 r0 q1 r1 : Nat) (s : Bool), Conv N M q0 r0 q1 r1 s → run M fuel q0 r0 q1 r1 s = true → Gap N M
 | 0, _, _, _, _, _, _, h => by simp [run] at h
 | fuel + 1, q0, r0, q1, r1, s, hc, h => by
  unfold run at h
  by_cases h0 : r1 = 0
  ·rw [if_pos h0] at h
   simp only [Bool.and_eq_true, decide_eq_true_eq] at h
   subst h0
   exact gap_of_end hc h.1 h.2
  ·rw [if_neg h0] at h
   simp only at h
   split at h
   ·rename_i hq
    simp only [Bool.and_eq_true, decide_eq_true_eq] at h
    exact gap_of_good hc.step h.1 hq h.2
   ·exact run_gap N M fuel _ _ _ _ _ hc.step h
theorem gap_of_run {N M : Nat} (h : run M 200 0 M 1 N true = true) : Gap N M := run_gap N M 200 _ _ _ _ _ (Conv.start N M) h
end FP
namespace FP
def lg10 (p : Int) : Int := p * 108853 / 32768
def numN (p : Int) : Nat := 10 ^ p.toNat * 2 ^ (-9 - lg10 p).toNat
def denM (p : Int) : Nat := 10 ^ (-p).toNat * 2 ^ (9 + lg10 p).toNat
def rowOk (p : Int) (hi lo : Nat) : Bool :=
 let N := numN p
 let M := denM p
 let P := hi * 2 ^ 64 - lo
 run M 200 0 M 1 N true && (decide (P * M < N * 2 ^ 136 + M) && (decide (N * 2 ^ 136 ≤ P * M) && (decide (2 ^ 127 * M ≤ N * 2 ^ 136) &&
  (decide (P + 2 ^ 80 ≤ 2 ^ 128) && (decide (hi < 2 ^ 64) && decide (lo < 2 ^ 64))))))
def allRows : Nat → List (Nat × Nat) → Bool
 | _, [] => true
 | i, (hi, lo) :: t => (if 3 ≤ i ∧ i ≤ 658 then rowOk ((i : Int) - 348) hi lo else true) && allRows (i + 1) t
set_option maxRecDepth 100000 in
theorem rows_ok : allRows 0 Go.Pinned.pow10Rows = true := by decide +kernel
set_option maxRecDepth 100000 in
theorem rows_len : Go.Pinned.pow10Rows.length = 696 := by decide +kernel
theorem allRows_get : ∀ (l : List (Nat × Nat)) (b i : Nat), allRows b l = true → ∀ x, l[i]? = some x → 3 ≤ b + i → b + i ≤ 658 → rowOk (((b + i : Nat) : Int) - 348) x.1 x.2 = true
 | [], _, _, _, _, h, _, _ => by simp at h
 | (hi, lo) :: t, b, 0, h, x, hx, h1, h2 => by
  simp at hx; subst hx
  unfold allRows at h
  rw [if_pos (by omega)] at h
  simp only [Bool.and_eq_true] at h
  simpa using h.1
 | (hi, lo) :: t, b, i + 1, h, x, hx, h1, h2 => by
  unfold allRows at h
  simp only [Bool.and_eq_true] at h
  have := allRows_get t (b + 1) i h.2 x (by simpa using hx) (by omega) (by omega)
  rw [show b + (i + 1) = b + 1 + i by omega]
  exact this
def rowAt (p : Int) : Nat × Nat := Go.Pinned.pow10Rows.getD (p + 348).toNat (0, 0)
structure Row (p : Int) (hi lo : Nat) : Prop where
 gap : Gap (numN p) (denM p)
 over : (hi * 2 ^ 64 - lo) * denM p < numN p * 2 ^ 136 + denM p
 under : numN p * 2 ^ 136 ≤ (hi * 2 ^ 64 - lo) * denM p
 first : 2 ^ 127 * denM p ≤ numN p * 2 ^ 136
 last : hi * 2 ^ 64 - lo + 2 ^ 80 ≤ 2 ^ 128
 hi : hi < 2 ^ 64
 lo : lo < 2 ^ 64
theorem row_at (p : Int) (h1 : -345 ≤ p) (h2 : p ≤ 310) : Row p (rowAt p).1 (rowAt p).2 := by
 have hlt : (p + 348).toNat < Go.Pinned.pow10Rows.length := by rw [rows_len]; omega
 have hx : Go.Pinned.pow10Rows[(p + 348).toNat]? = some (rowAt p) := by
  unfold rowAt
  rw [List.getD_eq_getElem?_getD, List.getElem?_eq_getElem hlt]
  rfl
 have h := allRows_get _ 0 (p + 348).toNat rows_ok _ hx (by omega) (by omega)
 rw [show (((0 + (p + 348).toNat : Nat) : Int) - 348) = p by omega] at h
 unfold rowOk at h
 simp only [Bool.and_eq_true, decide_eq_true_eq] at h
 obtain ⟨a, b, c, d, e, f, g⟩ := h
 exact ⟨gap_of_run a, b, c, d, e, f, g⟩
theorem denM_pos (p : Int) : 0 < denM p := Nat.mul_pos (Nat.pow_pos (by omega)) (Nat.two_pow_pos _)
theorem frac (p : Int) : (numN p : Rat) = p10 p * p2 (-9 - lg10 p) * (denM p : Rat) := by
 unfold numN denM
 rw [Rat.natCast_mul, Rat.natCast_mul, ← p10_nat, ← p2_nat, ← p10_nat, ← p2_nat]
 have h1 : p10 ((p.toNat : Nat) : Int) = p10 p * p10 (((-p).toNat : Nat) : Int) := by rw [← p10_add]; congr 1; omega
 have h2 : p2 (((-9 - lg10 p).toNat : Nat) : Int) = p2 (-9 - lg10 p) * p2 (((9 + lg10 p).toNat : Nat) : Int) := by rw [← p2_add]; congr 1; omega
 rw [h1, h2]
 grind
end FP
namespace FP
def SF (t : Rat) (u : Nat) : Prop := t = (u : Rat) ∨ (u % 2 = 1 ∧ (u : Rat) - 1 < t ∧ t < (u : Rat) + 1)
theorem or_one (k : Nat) : k ||| 1 = if k % 2 = 1 then k else k + 1 := by
 apply Nat.eq_of_testBit_eq
 intro i
 cases i with
 | zero => simp; split <;> omega
 | succ i =>
  rw [Nat.testBit_or, Nat.testBit_succ, Nat.testBit_succ, Nat.testBit_succ]
  split
  ·simp
  ·rw [show (k + 1) / 2 = k / 2 by omega]; simp
theorem SF.of_between {t : Rat} {k : Nat} (h1 : (k : Rat) < t) (h2 : t < (k : Rat) + 1) : SF t (k ||| 1) := by
 rw [or_one]
 split
 ·rename_i h; exact .inr ⟨h, by grind, by grind⟩
 ·refine .inr ⟨by omega, ?_, ?_⟩ <;> rw [cast_succ] <;> grind
theorem SF.of_eq {t : Rat} {k : Nat} (h : t = (k : Rat)) : SF t (k ||| 0) := by rw [Nat.or_zero]; exact .inl h
def uscaleN (x hi lo s : Nat) : Nat :=
 let h := x * hi / 2 ^ 64
 let m := x * hi % 2 ^ 64
 if h / 2 ^ s * 2 ^ s ≠ h then h / 2 ^ s ||| 1
 else
  let m2 := x * lo / 2 ^ 64
  (h - (if m < m2 then 1 else 0)) / 2 ^ s ||| (if 1 < (m + 2 ^ 64 - m2) % 2 ^ 64 then 1 else 0)
theorem c2n (n : Nat) : ((2 ^ n : Nat) : Rat) = 2 ^ n := by rw [Rat.natCast_pow]; rfl
theorem c2i (n : Nat) : (((2 : Int) ^ n : Int) : Rat) = 2 ^ n := by rw [Rat.intCast_pow]; rfl
theorem c2p (n : Nat) : ((2 ^ n : Nat) : Rat) = p2 (n : Int) := (p2_nat n).symm
theorem aux1 {j Z h r : Rat} (e : h = (j + 1) * (256 * Z)) (b : h - 1 < r * 2 ^ 8) (z : 1 ≤ Z) : j * Z < r := by
 have : h = 256 * (j * Z) + 256 * Z := by grind
 generalize j * Z = y at *
 grind
theorem aux2 {j Z r : Rat} (h : (r - (j + 1) * Z) * 2 ^ 71 ≤ -1) : r < (j + 1) * Z := by
 generalize (j + 1) * Z = y at *
 grind
theorem uscale_sf {p : Int} {hi lo x s : Nat} (row : Row p hi lo) (hx0 : 2 ^ 63 ≤ x) (hx1 : x < 2 ^ 64) (hs : 8 ≤ s) :
  SF ((x : Rat) * (p10 p * p2 (-9 - lg10 p)) * p2 (8 - (s : Int))) (uscaleN x hi lo s) := by
 obtain ⟨a, ha⟩ : ∃ a, a = p10 p * p2 (-9 - lg10 p) := ⟨_, rfl⟩
 rw [← ha]
 have hfrac := frac p
 rw [← ha] at hfrac
 have hM : (0 : Rat) < (denM p : Rat) := Rat.natCast_pos.mpr (denM_pos p)
 have hfirst : 2 ^ 127 ≤ hi * 2 ^ 64 - lo := by
  have := Nat.le_trans row.first row.under
  exact Nat.le_of_mul_le_mul_right this (denM_pos p)
 have hP : ((hi * 2 ^ 64 - lo : Nat) : Rat) = (hi : Rat) * 2 ^ 64 - (lo : Rat) := by
  have : ((hi * 2 ^ 64 - lo + lo : Nat) : Rat) = ((hi * 2 ^ 64 : Nat) : Rat) := by rw [Nat.sub_add_cancel (by omega)]
  rw [Rat.natCast_add, Rat.natCast_mul] at this
  have e : ((2 ^ 64 : Nat) : Rat) = 2 ^ 64 := c2n 64
  rw [e] at this
  grind
 have hover : (hi : Rat) * 2 ^ 64 - (lo : Rat) < a * 2 ^ 136 + 1 := by
  have := cast_lt row.over
  rw [Rat.natCast_mul, Rat.natCast_add, Rat.natCast_mul, hP, hfrac] at this
  have e : ((2 ^ 136 : Nat) : Rat) = 2 ^ 136 := c2n 136
  rw [e] at this
  apply Rat.lt_of_mul_lt_mul_right (c := (denM p : Rat)) _ (Rat.le_of_lt hM)
  grind
 have hunder : a * 2 ^ 136 ≤ (hi : Rat) * 2 ^ 64 - (lo : Rat) := by
  have := cast_le row.under
  rw [Rat.natCast_mul, Rat.natCast_mul, hP, hfrac] at this
  have e : ((2 ^ 136 : Nat) : Rat) = 2 ^ 136 := c2n 136
  rw [e] at this
  apply Rat.le_of_mul_le_mul_right (c := (denM p : Rat)) _ hM
  grind
 obtain ⟨r, hr⟩ : ∃ r, r = (x : Rat) * a := ⟨_, rfl⟩
 rw [← hr]
 have hxp : (0 : Rat) < (x : Rat) := Rat.natCast_pos.mpr (by omega)
 obtain ⟨h, hh⟩ : ∃ h, h = x * hi / 2 ^ 64 := ⟨_, rfl⟩
 obtain ⟨m, hm⟩ : ∃ m, m = x * hi % 2 ^ 64 := ⟨_, rfl⟩
 obtain ⟨L, hL⟩ : ∃ L, L = x * lo := ⟨_, rfl⟩
 have hHn : x * hi = 2 ^ 64 * h + m := by rw [hh, hm]; exact (Nat.div_add_mod _ _).symm
 have hmlt : m < 2 ^ 64 := by rw [hm]; exact Nat.mod_lt _ (by omega)
 have hH : (x : Rat) * (hi : Rat) = 2 ^ 64 * (h : Rat) + (m : Rat) := by
  have : ((x * hi : Nat) : Rat) = ((2 ^ 64 * h + m : Nat) : Rat) := by rw [hHn]
  rw [Rat.natCast_mul, Rat.natCast_add, Rat.natCast_mul] at this
  rw [this, c2n]
 have hLr : (x : Rat) * (lo : Rat) = (L : Rat) := by rw [hL, Rat.natCast_mul]
 have hLx : L + x ≤ 2 ^ 128 := by
  have h1 := row.lo
  have : x * (lo + 1) ≤ 2 ^ 64 * 2 ^ 64 := Nat.mul_le_mul (by omega) (by omega)
  have e : x * (lo + 1) = L + x := by rw [hL]; grind
  omega
 have up : r * 2 ^ 136 ≤ 2 ^ 128 * (h : Rat) + 2 ^ 64 * (m : Rat) - (L : Rat) := by
  have := Rat.mul_le_mul_of_nonneg_left hunder (Rat.le_of_lt hxp)
  grind
 have down : 2 ^ 128 * (h : Rat) + 2 ^ 64 * (m : Rat) - (L : Rat) < r * 2 ^ 136 + (x : Rat) := by
  have := Rat.mul_lt_mul_of_pos_left hover hxp
  grind
 have hLxr : (L : Rat) + (x : Rat) ≤ 2 ^ 128 := by
  have := cast_le hLx
  rw [Rat.natCast_add] at this
  have e : ((2 ^ 128 : Nat) : Rat) = 2 ^ 128 := c2n 128
  rw [e] at this; exact this
 have hmr : (m : Rat) + 1 ≤ 2 ^ 64 := by
  have := cast_le (show m + 1 ≤ 2 ^ 64 from hmlt)
  rw [cast_succ] at this
  have e : ((2 ^ 64 : Nat) : Rat) = 2 ^ 64 := c2n 64
  rw [e] at this; exact this
 have hL0 : (0 : Rat) ≤ (L : Rat) := Rat.natCast_nonneg
 have hm0 : (0 : Rat) ≤ (m : Rat) := Rat.natCast_nonneg
 have b1 : (h : Rat) - 1 < r * 2 ^ 8 := by grind
 have b2 : r * 2 ^ 8 < (h : Rat) + 1 := by grind
 obtain ⟨Z, hZ⟩ : ∃ Z, Z = 2 ^ (s - 8) := ⟨_, rfl⟩
 have hZ0 : 0 < Z := by rw [hZ]; exact Nat.two_pow_pos _
 have hsZ : 2 ^ s = 256 * Z := by rw [hZ, show s = 8 + (s - 8) by omega, Nat.pow_add, show 8 + (s - 8) - 8 = s - 8 by omega]
 have hZr : (0 : Rat) < (Z : Rat) := Rat.natCast_pos.mpr hZ0
 obtain ⟨t, ht⟩ : ∃ t, t = r * p2 (8 - (s : Int)) := ⟨_, rfl⟩
 rw [← ht]
 have htZ : t * (Z : Rat) = r := by
  rw [ht, hZ, c2p, Rat.mul_assoc, ← p2_add, show (8 - (s : Int)) + ((s - 8 : Nat) : Int) = 0 by omega, p2_zero, Rat.mul_one]
 have lt_of : ∀ k : Nat, (k : Rat) * (Z : Rat) < r → (k : Rat) < t := by
  intro k hk
  apply Rat.lt_of_mul_lt_mul_right (c := (Z : Rat)) _ (Rat.le_of_lt hZr)
  rw [htZ]; exact hk
 have of_lt : ∀ k : Nat, r < ((k : Rat) + 1) * (Z : Rat) → t < (k : Rat) + 1 := by
  intro k hk
  apply Rat.lt_of_mul_lt_mul_right (c := (Z : Rat)) _ (Rat.le_of_lt hZr)
  rw [htZ]; exact hk
 unfold uscaleN
 simp only [← hh, ← hm, ← hL]
 obtain ⟨k, hk⟩ : ∃ k, k = h / 2 ^ s := ⟨_, rfl⟩
 obtain ⟨rho, hrho⟩ : ∃ rho, rho = h % 2 ^ s := ⟨_, rfl⟩
 have hkr : h = k * (256 * Z) + rho := by rw [← hsZ, hk, hrho]; have := Nat.div_add_mod h (2 ^ s); grind
 have hrl : rho < 256 * Z := by rw [← hsZ, hrho]; exact Nat.mod_lt _ (Nat.two_pow_pos _)
 have hhr : (h : Rat) = (k : Rat) * (256 * (Z : Rat)) + (rho : Rat) := by
  rw [hkr, Rat.natCast_add, Rat.natCast_mul, Rat.natCast_mul]; rfl
 have hrr : (rho : Rat) + 1 ≤ 256 * (Z : Rat) := by
  have := cast_le (show rho + 1 ≤ 256 * Z from hrl)
  rw [cast_succ, Rat.natCast_mul] at this; exact this
 rw [← hk, hsZ]
 by_cases hc : k * (256 * Z) ≠ h
 ·rw [if_pos hc]
  have hr1 : 1 ≤ rho := by omega
  have hr1r : (1 : Rat) ≤ (rho : Rat) := cast_le hr1
  exact SF.of_between (lt_of k (by grind)) (of_lt k (by grind))
 ·rw [if_neg hc]
  have hc' : rho = 0 := by omega
  have hhk : (h : Rat) = (k : Rat) * (256 * (Z : Rat)) := by rw [hhr, hc', show ((0 : Nat) : Rat) = 0 from rfl, Rat.add_zero]
  have hg := row.gap (x : Int) ((k * Z : Nat) : Int) (by exact_mod_cast hx0) (by exact_mod_cast hx1)
  have hD : (((x : Int) * (numN p : Int) - ((k * Z : Nat) : Int) * (denM p : Int) : Int) : Rat) = (r - (k : Rat) * (Z : Rat)) * (denM p : Rat) := by
   rw [Rat.intCast_sub, Rat.intCast_mul, Rat.intCast_mul, Rat.intCast_natCast, Rat.intCast_natCast, Rat.intCast_natCast, Rat.intCast_natCast, Rat.natCast_mul, hfrac, hr]
   grind
  obtain ⟨m2, hm2⟩ : ∃ m2, m2 = L / 2 ^ 64 := ⟨_, rfl⟩
  rw [← hm2]
  have hLm : L = 2 ^ 64 * m2 + L % 2 ^ 64 := by rw [hm2]; exact (Nat.div_add_mod _ _).symm
  have hLl : L % 2 ^ 64 < 2 ^ 64 := Nat.mod_lt _ (by omega)
  have hm2lt : m2 + 2 ≤ 2 ^ 64 := by
   have h1 := row.lo
   have : L ≤ (2 ^ 64 - 1) * (2 ^ 64 - 1) := by rw [hL]; exact Nat.mul_le_mul (by omega) (by omega)
   have e : (2 ^ 64 - 1) * (2 ^ 64 - 1) = 2 ^ 64 * (2 ^ 64 - 2) + 1 := by decide
   omega
  have nat_lt : ∀ A B : Nat, (A : Rat) < (B : Rat) → A < B := fun A B h => Rat.natCast_lt_natCast.mp h
  have nat_le : ∀ A B : Nat, (A : Rat) ≤ (B : Rat) → A ≤ B := fun A B h => Rat.natCast_le_natCast.mp h
  have e64 : ((2 ^ 64 : Nat) : Rat) = 2 ^ 64 := c2n 64
  rcases hg with hg | hg | hg
  ·
   have h0 : (r - (k : Rat) * (Z : Rat)) * (denM p : Rat) = 0 := by rw [← hD, hg]; rfl
   have hrk : r = (k : Rat) * (Z : Rat) := by
    rcases Rat.mul_eq_zero.mp h0 with h1 | h1
    ·grind
    ·rw [h1] at hM; exact absurd hM (by decide)
   have c1 : L ≤ 2 ^ 64 * m := nat_le _ _ (by rw [Rat.natCast_mul, e64]; grind)
   have c2 : 2 ^ 64 * m < L + x := nat_lt _ _ (by rw [Rat.natCast_mul, Rat.natCast_add, e64]; grind)
   have d1 : ¬ m < m2 := by omega
   have d2 : m ≤ m2 + 1 := by omega
   rw [if_neg d1, if_neg (show ¬ 1 < (m + 2 ^ 64 - m2) % 2 ^ 64 by omega), Nat.sub_zero, ← hsZ, ← hk]
   apply SF.of_eq
   have : t * (Z : Rat) = (k : Rat) * (Z : Rat) := by rw [htZ, hrk]
   have hz := congrArg (· * (Z : Rat)⁻¹) this
   simp only [Rat.mul_assoc, Rat.mul_inv_cancel _ (Rat.ne_of_gt hZr), Rat.mul_one] at hz
   exact hz
  ·
   have h1 : (denM p : Rat) < (r - (k : Rat) * (Z : Rat)) * (denM p : Rat) * 2 ^ 72 := by
    rw [← hD]
    have := Rat.intCast_lt_intCast.mpr hg
    rw [Rat.intCast_mul, Rat.intCast_natCast] at this
    have e : (((2 : Int) ^ 72 : Int) : Rat) = 2 ^ 72 := c2i 72
    rw [e] at this; exact this
   have h2 : 1 < (r - (k : Rat) * (Z : Rat)) * 2 ^ 72 := by
    apply Rat.lt_of_mul_lt_mul_right (c := (denM p : Rat)) _ (Rat.le_of_lt hM)
    grind
   have c1 : L + 2 ^ 64 < 2 ^ 64 * m := nat_lt _ _ (by rw [Rat.natCast_mul, Rat.natCast_add, e64]; grind)
   have d1 : ¬ m < m2 := by omega
   have d2 : m2 + 2 ≤ m := by omega
   rw [if_neg d1, if_pos (show 1 < (m + 2 ^ 64 - m2) % 2 ^ 64 by omega), Nat.sub_zero, ← hsZ, ← hk]
   exact SF.of_between (lt_of k (by grind)) (of_lt k (by grind))
  ·
   have h1 : (r - (k : Rat) * (Z : Rat)) * (denM p : Rat) * 2 ^ 71 ≤ -(denM p : Rat) := by
    rw [← hD]
    have := Rat.intCast_le_intCast.mpr hg
    rw [Rat.intCast_mul, Rat.intCast_neg, Rat.intCast_natCast] at this
    have e : (((2 : Int) ^ 71 : Int) : Rat) = 2 ^ 71 := c2i 71
    rw [e] at this; exact this
   have h2 : (r - (k : Rat) * (Z : Rat)) * 2 ^ 71 ≤ -1 := by
    apply Rat.le_of_mul_le_mul_right (c := (denM p : Rat)) _ hM
    grind
   have c1 : 2 ^ 64 * m + 2 ^ 65 < L + x := nat_lt _ _ (by
    rw [Rat.natCast_add, Rat.natCast_add, Rat.natCast_mul, e64]
    have e65 : ((2 ^ 65 : Nat) : Rat) = 2 ^ 65 := c2n 65
    rw [e65]; grind)
   have d1 : m < m2 := by omega
   have hk0 : 0 < k := by
    rcases Nat.eq_zero_or_pos k with h3 | h3
    ·exfalso
     have hr0 : 0 ≤ r := by
      rw [hr, ha]
      exact Rat.mul_nonneg (Rat.le_of_lt hxp) (Rat.mul_nonneg (Rat.le_of_lt (p10_pos _)) (Rat.le_of_lt (p2_pos _)))
     rw [h3] at h2
     simp only [show ((0 : Nat) : Rat) = 0 from rfl, Rat.zero_mul] at h2
     grind
    ·exact h3
   rw [if_pos d1, if_pos (show 1 < (m + 2 ^ 64 - m2) % 2 ^ 64 by omega)]
   have hdiv : (h - 1) / (256 * Z) = k - 1 := by
    have : h = k * (256 * Z) := by omega
    rw [this]
    have e : k * (256 * Z) - 1 = (k - 1) * (256 * Z) + (256 * Z - 1) := by
     have : k * (256 * Z) = (k - 1) * (256 * Z) + 256 * Z := by
      have : k = k - 1 + 1 := by omega
      rw [this, Nat.add_mul]; simp
     omega
    rw [e, Nat.add_comm, Nat.add_mul_div_right _ _ (by omega), Nat.div_eq_of_lt (by omega), Nat.zero_add]
   rw [hdiv]
   suffices hs : ((k - 1 : Nat) : Rat) * (Z : Rat) < r ∧ r < (((k - 1 : Nat) : Rat) + 1) * (Z : Rat) from SF.of_between (lt_of (k - 1) hs.1) (of_lt (k - 1) hs.2)
   have ek : (k : Rat) = ((k - 1 : Nat) : Rat) + 1 := by rw [← cast_succ]; congr 1; omega
   have hZ1 : (1 : Rat) ≤ (Z : Rat) := cast_le hZ0
   rw [ek] at hhk h2
   generalize ((k - 1 : Nat) : Rat) = j at *
   have g1 : j * (Z : Rat) < r := aux1 hhk b1 hZ1
   have g2 : r < (j + 1) * (Z : Rat) := aux2 h2
   exact ⟨g1, g2⟩
end FP
namespace FP
open Ieee
theorem RH_sticky {W : Rat} {n drop k : Nat} (h : SF W n) (hd : W = (n : Rat) ∨ 2 ≤ drop) (hk : RH ((n : Rat) * p2 (-(drop : Int))) k) : RH (W * p2 (-(drop : Int))) k := by
 by_cases hw : W = (n : Rat)
 ·rw [hw]; exact hk
 have hd2 : 2 ≤ drop := by rcases hd with h1 | h1; exact absurd h1 hw; exact h1
 obtain ⟨hodd, h1, h2⟩ : n % 2 = 1 ∧ (n : Rat) - 1 < W ∧ W < (n : Rat) + 1 := by
  rcases h with h | h
  ·exact absurd h hw
  ·exact h
 obtain ⟨g, hg⟩ : ∃ g, g = 2 ^ (drop - 2) := ⟨_, rfl⟩
 have hg0 : 0 < g := by rw [hg]; exact Nat.two_pow_pos _
 have hg4 : ((4 * g : Nat) : Rat) * p2 (-(drop : Int)) = 1 := by
  have : 4 * g = 2 ^ drop := by rw [hg, show drop = 2 + (drop - 2) by omega, Nat.pow_add, show 2 + (drop - 2) - 2 = drop - 2 by omega]
  rw [this, c2p, ← p2_add, show (drop : Int) + -(drop : Int) = 0 by omega, p2_zero]
 have ht := p2_pos (-(drop : Int))
 generalize p2 (-(drop : Int)) = t at *
 rw [Rat.natCast_mul, show ((4 : Nat) : Rat) = 4 from rfl] at hg4
 have un : ∀ A B : Nat, (A : Rat) * t < (B : Rat) * t → A < B := fun A B hh => Rat.natCast_lt_natCast.mp (Rat.lt_of_mul_lt_mul_right hh (Rat.le_of_lt ht))
 have une : ∀ A B : Nat, (A : Rat) * t = (B : Rat) * t → A = B := by
  intro A B hh
  exact Rat.natCast_inj.mp (mul_cancel (Rat.ne_of_gt ht) hh)
 have one_t : ∀ j : Rat, j = j * (4 * (g : Rat)) * t := by intro j; rw [Rat.mul_assoc, hg4, Rat.mul_one]
 constructor
 ·rcases hk.1 with h3 | ⟨h3, _⟩
  ·left
   have h4 : 2 * n < (2 * k + 1) * (4 * g) := un _ _ (by
    simp only [Rat.natCast_mul, Rat.natCast_add, Rat.natCast_ofNat]
    have := one_t (2 * (k : Rat) + 1)
    grind)
   have h5 : n + 1 ≤ (2 * k + 1) * (2 * g) := by
    have : (2 * k + 1) * (4 * g) = 2 * ((2 * k + 1) * (2 * g)) := by grind
    omega
   have h6 := cast_le h5
   rw [cast_succ, Rat.natCast_mul, cast_succ, Rat.natCast_mul, Rat.natCast_mul, show ((2 : Nat) : Rat) = 2 from rfl] at h6
   have h7 : (2 * W) * t < ((2 * (k : Rat) + 1) * (4 * (g : Rat))) * t := Rat.mul_lt_mul_of_pos_right (by grind) ht
   rw [← one_t] at h7
   grind
  ·exfalso
   have h4 : 2 * n = (2 * k + 1) * (4 * g) := une _ _ (by
    simp only [Rat.natCast_mul, Rat.natCast_add, Rat.natCast_ofNat]
    have := one_t (2 * (k : Rat) + 1)
    grind)
   have : (2 * k + 1) * (4 * g) = 2 * (2 * ((2 * k + 1) * g)) := by grind
   omega
 ·have lowkey : ∀ A B : Int, (A : Rat) * t < (B : Rat) * t → A < B := fun A B hh => Rat.intCast_lt_intCast.mp (Rat.lt_of_mul_lt_mul_right hh (Rat.le_of_lt ht))
  have ck : (((2 * (k : Int) - 1) * (4 * (g : Int)) : Int) : Rat) = (2 * (k : Rat) - 1) * (4 * (g : Rat)) := by
   rw [Rat.intCast_mul, Rat.intCast_sub, Rat.intCast_mul, Rat.intCast_mul, Rat.intCast_natCast, Rat.intCast_natCast]; rfl
  have cn : (((2 * (n : Int)) : Int) : Rat) = 2 * (n : Rat) := by
   rw [Rat.intCast_mul, Rat.intCast_natCast]; rfl
  rcases hk.2 with h3 | ⟨h3, _⟩
  ·left
   have h4 : (2 * (k : Int) - 1) * (4 * (g : Int)) < 2 * (n : Int) := lowkey _ _ (by
    rw [ck, cn]
    have := one_t (2 * (k : Rat) - 1)
    grind)
   have h5 : (2 * (k : Int) - 1) * (2 * (g : Int)) ≤ (n : Int) - 1 := by
    have : (2 * (k : Int) - 1) * (4 * (g : Int)) = 2 * ((2 * (k : Int) - 1) * (2 * (g : Int))) := by grind
    omega
   have h6 : (((2 * (k : Int) - 1) * (2 * (g : Int)) : Int) : Rat) ≤ (((n : Int) - 1 : Int) : Rat) := Rat.intCast_le_intCast.mpr h5
   rw [Rat.intCast_mul, Rat.intCast_sub, Rat.intCast_mul, Rat.intCast_mul, Rat.intCast_sub, Rat.intCast_natCast, Rat.intCast_natCast, Rat.intCast_natCast, show ((2 : Int) : Rat) = 2 from rfl, show ((1 : Int) : Rat) = 1 from rfl] at h6
   have h7 : ((2 * (k : Rat) - 1) * (4 * (g : Rat))) * t < (2 * W) * t := Rat.mul_lt_mul_of_pos_right (by grind) ht
   rw [← one_t] at h7
   grind
  ·exfalso
   have h4 : (2 * (k : Int) - 1) * (4 * (g : Int)) = 2 * (n : Int) := by
    have : (((2 * (k : Int) - 1) * (4 * (g : Int)) : Int) : Rat) * t = (((2 * (n : Int)) : Int) : Rat) * t := by
     rw [ck, cn]
     have := one_t (2 * (k : Rat) - 1)
     grind
    exact Rat.intCast_inj.mp (mul_cancel (Rat.ne_of_gt ht) this)
   have : (2 * (k : Int) - 1) * (4 * (g : Int)) = 2 * (2 * ((2 * (k : Int) - 1) * g)) := by grind
   omega
theorem nearest_sticky (neg : Bool) (mag : Nat) (place : Int) (W : Rat) (h : SF W mag) (hm : W = (mag : Rat) ∨ 2 ^ 54 ≤ mag) :
  ∃ r, double.nearest neg mag place = wordOf neg r ∧ Near (W * p2 place) r := by
 by_cases hw : W = (mag : Rat)
 ·rw [hw]; exact nearest_near neg mag place
 have hbig : 2 ^ 54 ≤ mag := by rcases hm with h1 | h1; exact absurd h1 hw; exact h1
 obtain ⟨hodd, hl, hu⟩ : mag % 2 = 1 ∧ (mag : Rat) - 1 < W ∧ W < (mag : Rat) + 1 := by
  rcases h with h | h
  ·exact absurd h hw
  ·exact h
 unfold Format.nearest
 have h0 : mag ≠ 0 := by omega
 rw [if_neg h0]
 simp only [leastPlace_double, binade_double, infRung_double, word_double]
 rw [show (double.fractionBits : Int) = 52 from rfl]
 have hl1 : 2 ^ mag.log2 ≤ mag := Nat.log2_self_le h0
 have hl2 : mag < 2 ^ (mag.log2 + 1) := Nat.lt_log2_self
 have hlg54 : 54 ≤ mag.log2 := (Nat.le_log2 h0).mpr hbig
 generalize hlg : mag.log2 = lg at *
 obtain ⟨last, hlast⟩ : ∃ last : Int, last = max (place + lg - 52) (-1074) := ⟨_, rfl⟩
 rw [← hlast]
 refine ⟨_, rfl, ?_⟩
 have hsh : (place - last).toNat = 0 := by omega
 have hb : last = (((last - -1074).toNat : Nat) : Int) - 1074 := by omega
 have hk := cut_RH neg mag (last - place).toNat
 have hk2 := RH_sticky h (.inr (by omega)) hk
 rw [hsh, Nat.shiftLeft_zero]
 rw [show (-(((last - place).toNat : Nat) : Int)) = place - last by omega] at hk2
 have w1 : p2 (lg : Int) ≤ W := by
  have : 2 ^ lg + 1 ≤ mag := by
   have e : 2 ^ lg = 2 * 2 ^ (lg - 1) := by rw [show lg = (lg - 1) + 1 by omega, Nat.pow_succ]; simp; omega
   omega
  have := cast_le this
  rw [cast_succ, c2p] at this
  grind
 have w2 : W < p2 ((lg + 1 : Nat) : Int) := by
  have := cast_le (show mag + 1 ≤ 2 ^ (lg + 1) from hl2)
  rw [cast_succ, c2p] at this
  grind
 have wpos : 0 < W := by have := p2_pos (lg : Int); grind
 apply near_of_scaled (q := W * p2 (place - last)) _ _ _ hk2
 ·rw [Rat.mul_assoc, ← p2_add]
  congr 2
  omega
 ·by_cases hc : last = -1074
  ·left; omega
  ·right
   rw [show place - last = 52 - lg by omega, c2p]
   have := Rat.mul_le_mul_of_nonneg_right w1 (Rat.le_of_lt (p2_pos (52 - (lg : Int))))
   rw [← p2_add, show (lg : Int) + (52 - lg) = ((52 : Nat) : Int) by omega] at this
   exact this
 ·rw [c2p]
  have h2 : W * p2 (place - last) < p2 ((lg + 1 : Nat) : Int) * p2 (place - last) := Rat.mul_lt_mul_of_pos_right w2 (p2_pos _)
  rw [← p2_add] at h2
  have h3 : p2 (((lg + 1 : Nat) : Int) + (place - last)) ≤ p2 ((53 : Nat) : Int) := by
   rw [show ((53 : Nat) : Int) = (((lg + 1 : Nat) : Int) + (place - last)) + ((53 - (lg + 1) - (place - last)).toNat : Int) by omega, p2_add (((lg + 1 : Nat) : Int) + (place - last)), p2_nat]
   have h4 : (1 : Rat) ≤ ((2 ^ (53 - ((lg : Int) + 1) - (place - last)).toNat : Nat) : Rat) := cast_le (Nat.two_pow_pos _)
   have h5 := p2_pos (((lg + 1 : Nat) : Int) + (place - last))
   have := Rat.mul_le_mul_of_nonneg_left h4 (Rat.le_of_lt h5)
   rw [Rat.mul_one] at this
   exact this
  grind
theorem read_word (neg : Bool) (r : Nat) (hr : r < INF) : double.read (wordOf neg r) = .number neg (sig r) (plc r) := by
 unfold Format.read
 rw [signWeight_double]
 have h63 : r < 2 ^ 63 := by unfold INF at hr; omega
 have e1 : (wordOf neg r / 2 ^ 63 % 2 == 1) = neg := by
  cases neg
  ·simp only [wordOf, Bool.false_eq_true, if_false]; rw [Nat.div_eq_of_lt h63]; rfl
  ·simp only [wordOf, if_true]; rw [show (2 ^ 63 + r) / 2 ^ 63 = 1 by omega]; rfl
 have e2 : wordOf neg r % 2 ^ 63 = r := by
  cases neg
  ·simp only [wordOf, Bool.false_eq_true, if_false]; exact Nat.mod_eq_of_lt h63
  ·simp only [wordOf, if_true]; omega
 simp only [e1, e2, binade_double, infRung_double, leastPlace_double]
 unfold sig plc
 by_cases c : r < 2 ^ 52
 ·rw [if_pos c, if_pos c, if_pos c]
 ·rw [if_neg c, if_neg c, if_neg c, if_pos hr]
  congr 1
  omega
theorem mul_near (s t : Bool) {a b : Nat} (ha : a < INF) (hb : b < INF) :
  ∃ r, double.mul (wordOf s a) (wordOf t b) = some (wordOf (s ^^ t) r) ∧ Near (val a * val b) r := by
 unfold Format.mul
 rw [read_word s a ha, read_word t b hb]
 simp only [Datum.product, Option.map_some, Format.write]
 obtain ⟨r, h1, h2⟩ := nearest_near (s ^^ t) (sig a * sig b) (plc a + plc b)
 refine ⟨r, by rw [h1], ?_⟩
 have : val a * val b = ((sig a * sig b : Nat) : Rat) * p2 (plc a + plc b) := by
  unfold val; rw [Rat.natCast_mul, p2_add]; grind
 rw [this]; exact h2
theorem div_near (s t : Bool) {a b : Nat} (ha : a < INF) (hb : b < INF) (hb0 : sig b ≠ 0) :
  ∃ r, double.div (wordOf s a) (wordOf t b) = some (wordOf (s ^^ t) r) ∧ Near (val a / val b) r := by
 unfold Format.div
 rw [read_word s a ha, read_word t b hb]
 simp only [Datum.quotient, Option.map_some, Format.write, if_neg hb0]
 rw [show double.fractionBits + 2 = 54 from rfl]
 obtain ⟨m, hm⟩ : ∃ m, m = sig a := ⟨_, rfl⟩
 obtain ⟨n, hn⟩ : ∃ n, n = sig b := ⟨_, rfl⟩
 rw [← hm, ← hn]
 have hn0 : 0 < n := by omega
 have hnr : (0 : Rat) < (n : Rat) := Rat.natCast_pos.mpr hn0
 obtain ⟨more, hmore⟩ : ∃ more, more = 54 + n.log2 - m.log2 := ⟨_, rfl⟩
 rw [← hmore]
 obtain ⟨D, hD⟩ : ∃ D, D = m <<< more := ⟨_, rfl⟩
 rw [← hD]
 have hDm : D = m * 2 ^ more := by rw [hD, Nat.shiftLeft_eq]
 obtain ⟨W, hW⟩ : ∃ W, W = 2 * ((D : Rat) / (n : Rat)) := ⟨_, rfl⟩
 have hWn : W * (n : Rat) = 2 * (D : Rat) := by
  rw [hW, Rat.mul_assoc, Rat.div_mul_cancel (Rat.ne_of_gt hnr)]
 have hdm : (D : Rat) = (n : Rat) * ((D / n : Nat) : Rat) + ((D % n : Nat) : Rat) := by
  have : ((n * (D / n) + D % n : Nat) : Rat) = (D : Rat) := by rw [Nat.div_add_mod]
  rw [Rat.natCast_add, Rat.natCast_mul] at this; exact this.symm
 have hml : ((D % n : Nat) : Rat) < (n : Rat) := cast_lt (Nat.mod_lt _ hn0)
 have hsf : SF W (2 * (D / n) + (D % n != 0).toNat) := by
  by_cases c : D % n = 0
  ·rw [c] at hdm ⊢
   left
   have : W * (n : Rat) = ((2 * (D / n) + ((0 : Nat) != 0).toNat : Nat) : Rat) * (n : Rat) := by
    rw [hWn, hdm, show ((0 : Nat) != 0).toNat = 0 by rfl, Nat.add_zero, Rat.natCast_mul]
    have e0 : ((0 : Nat) : Rat) = 0 := rfl
    have e2 : ((2 : Nat) : Rat) = 2 := rfl
    rw [e0, e2]; grind
   exact mul_cancel (Rat.ne_of_gt hnr) this
  ·have hb1 : (D % n != 0).toNat = 1 := by
    have : (D % n != 0) = true := by simpa using c
    rw [this]; rfl
   rw [hb1]
   right
   have hpos : (0 : Rat) < ((D % n : Nat) : Rat) := Rat.natCast_pos.mpr (by omega)
   have ec : ((2 * (D / n) + 1 : Nat) : Rat) = 2 * ((D / n : Nat) : Rat) + 1 := by rw [cast_succ, Rat.natCast_mul]; rfl
   rw [ec]
   refine ⟨by omega, ?_, ?_⟩
   ·apply Rat.lt_of_mul_lt_mul_right (c := (n : Rat)) _ (Rat.le_of_lt hnr)
    rw [hWn]; grind
   ·apply Rat.lt_of_mul_lt_mul_right (c := (n : Rat)) _ (Rat.le_of_lt hnr)
    rw [hWn]; grind
 have hbig : W = ((2 * (D / n) + (D % n != 0).toNat : Nat) : Rat) ∨ 2 ^ 54 ≤ 2 * (D / n) + (D % n != 0).toNat := by
  by_cases hm0 : m = 0
  ·left
   have : D = 0 := by rw [hDm, hm0, Nat.zero_mul]
   subst this
   have h0 : W * (n : Rat) = 0 := by rw [hWn]; decide +kernel
   have : W = 0 := by
    rcases Rat.mul_eq_zero.mp h0 with h | h
    ·exact h
    ·rw [h] at hnr; exact absurd hnr (by decide)
   rw [this]; simp
  ·right
   have h1 : 2 ^ m.log2 ≤ m := Nat.log2_self_le hm0
   have h2 : n < 2 ^ (n.log2 + 1) := Nat.lt_log2_self
   have h3 : 2 ^ 53 ≤ D / n := by
    rw [Nat.le_div_iff_mul_le hn0, hDm]
    have h4 : 2 ^ 53 * n ≤ 2 ^ 53 * 2 ^ (n.log2 + 1) := Nat.mul_le_mul_left _ (Nat.le_of_lt h2)
    have h5 : 2 ^ m.log2 * 2 ^ more ≤ m * 2 ^ more := Nat.mul_le_mul_right _ h1
    rw [← Nat.pow_add] at h4 h5
    have h6 : 2 ^ (53 + (n.log2 + 1)) ≤ 2 ^ (m.log2 + more) := Nat.pow_le_pow_right (by omega) (by omega)
    omega
   omega
 obtain ⟨r, h1, h2⟩ := nearest_sticky (s ^^ t) _ (plc a - plc b - more - 1) W hsf hbig
 refine ⟨r, by rw [h1], ?_⟩
 have : val a / val b = W * p2 (plc a - plc b - more - 1) := by
  have hvb : val b ≠ 0 := by
   unfold val
   rw [← hn]
   exact Rat.ne_of_gt (Rat.mul_pos hnr (p2_pos _))
  apply mul_cancel hvb
  rw [Rat.div_mul_cancel hvb]
  unfold val
  rw [← hm, ← hn]
  have e1 : W * p2 (plc a - plc b - more - 1) * ((n : Rat) * p2 (plc b)) = (W * (n : Rat)) * (p2 (plc a - plc b - more - 1) * p2 (plc b)) := by grind
  rw [e1, hWn, ← p2_add, hDm, Rat.natCast_mul, c2p]
  have e2 : plc a - plc b - more - 1 + plc b = plc a - more - 1 := by omega
  rw [e2]
  have e3 : 2 * p2 (plc a - more - 1) = p2 (plc a - more) := by rw [← p2_succ]; congr 1; omega
  have e4 : p2 (more : Int) * p2 (plc a - more) = p2 (plc a) := by rw [← p2_add]; congr 1; omega
  grind
 rw [this]; exact h2
end FP
namespace FP
def roundU (u : Nat) : Nat := (u + 1 + u / 4 % 2) / 4
theorem SF.round {q : Rat} {u : Nat} (h : SF (4 * q) u) : RH q (roundU u) := by
 obtain ⟨k, j, hj, hu⟩ : ∃ k j, j < 4 ∧ u = 4 * k + j := ⟨u / 4, u % 4, by omega, by omega⟩
 subst hu
 have hc : ((4 * k + j : Nat) : Rat) = 4 * (k : Rat) + (j : Rat) := by rw [Rat.natCast_add, Rat.natCast_mul]; rfl
 unfold SF at h
 rw [hc] at h
 unfold roundU
 rw [show (4 * k + j) / 4 = k by omega]
 have hj' : j = 0 ∨ j = 1 ∨ j = 2 ∨ j = 3 := by omega
 rcases hj' with rfl | rfl | rfl | rfl
 ·rw [show (4 * k + 0 + 1 + k % 2) / 4 = k by omega]
  rw [show ((0 : Nat) : Rat) = 0 from rfl] at h
  rcases h with h | ⟨h, _⟩
  ·exact ⟨.inl (by grind), .inl (by grind)⟩
  ·omega
 ·rw [show (4 * k + 1 + 1 + k % 2) / 4 = k by omega]
  rw [show ((1 : Nat) : Rat) = 1 from rfl] at h
  rcases h with h | ⟨_, h1, h2⟩
  ·exact ⟨.inl (by grind), .inl (by grind)⟩
  ·exact ⟨.inl (by grind), .inl (by grind)⟩
 ·rw [show ((2 : Nat) : Rat) = 2 from rfl] at h
  rcases h with h | ⟨h, _⟩
  ·by_cases hk : k % 2 = 0
   ·rw [show (4 * k + 2 + 1 + k % 2) / 4 = k by omega]
    exact ⟨.inr ⟨by grind, hk⟩, .inl (by grind)⟩
   ·rw [show (4 * k + 2 + 1 + k % 2) / 4 = k + 1 by omega]
    refine ⟨.inl ?_, .inr ⟨?_, by omega⟩⟩ <;> rw [cast_succ] <;> grind
  ·omega
 ·rw [show (4 * k + 3 + 1 + k % 2) / 4 = k + 1 by omega]
  rw [show ((3 : Nat) : Rat) = 3 from rfl] at h
  rcases h with h | ⟨_, h1, h2⟩
  ·refine ⟨.inl ?_, .inl ?_⟩ <;> rw [cast_succ] <;> grind
  ·refine ⟨.inl ?_, .inl ?_⟩ <;> rw [cast_succ] <;> grind
def packN (m : Nat) (e : Int) : Nat := if m < 2 ^ 52 then m else if 972 ≤ e then INF else m - 2 ^ 52 + (1075 + e).toNat * 2 ^ 52
def parseE (b : Nat) (p : Int) : Int := min 1074 (53 - (b : Int) - lg10 p)
def parseS (b : Nat) (p : Int) : Int := 61 - parseE b p - (b : Int) - lg10 p
def parseN (d b : Nat) (p : Int) : Nat :=
 if 64 ≤ parseS b p then 0
 else
  let u := uscaleN (d * 2 ^ (64 - b)) (rowAt p).1 (rowAt p).2 (parseS b p).toNat
  if 2 ^ 55 - 2 ≤ u then packN (roundU (u / 2 ||| u % 2)) (1 - parseE b p) else packN (roundU u) (-parseE b p)
theorem pack_near {V q : Rat} {m : Nat} {e : Int} (he : e ≤ 1074) (hV : V = q * p2 (-e)) (h1 : e = 1074 ∨ ((2 ^ 52 : Nat) : Rat) ≤ q) (h2 : q < ((2 ^ 53 : Nat) : Rat)) (hm : m < 2 ^ 53) (hk : RH q m) :
  Near V (packN m (-e)) := by
 have hb : ((1074 - e).toNat : Int) - 1074 = -e := by omega
 have hn := near_of_scaled (V := V) (q := q) (b := (1074 - e).toNat) (k := m) (by rw [hb]; exact hV) (by rcases h1 with h | h; left; omega; right; exact h) h2 hk
 unfold packN
 by_cases c1 : m < 2 ^ 52
 ·rw [if_pos c1]
  have e0 : e = 1074 := by
   rcases h1 with h | h
   ·exact h
   ·exfalso
    have := cast_le (show m + 1 ≤ 2 ^ 52 from c1)
    rw [cast_succ] at this
    rcases hk.1 with h3 | ⟨h3, _⟩ <;> grind
  subst e0
  rw [show (1074 - (1074 : Int)).toNat = 0 by decide, Nat.zero_mul, Nat.zero_add, Nat.min_eq_left (by unfold INF; omega)] at hn
  exact hn
 ·rw [if_neg c1]
  by_cases c2 : 972 ≤ -e
  ·rw [if_pos c2]
   rw [Nat.min_eq_right (by unfold INF; omega)] at hn
   exact hn
  ·rw [if_neg c2]
   rw [Nat.min_eq_left (by unfold INF; omega)] at hn
   rw [show m - 2 ^ 52 + (1075 + -e).toNat * 2 ^ 52 = (1074 - e).toNat * 2 ^ 52 + m by omega]
   exact hn
theorem parse_near_and {d b : Nat} {p : Int} (hb0 : 1 ≤ b) (hb1 : b ≤ 64) (hd0 : 2 ^ (b - 1) ≤ d) (hd1 : d < 2 ^ b) (hp0 : -345 ≤ p) (hp1 : p ≤ 310) :
  Near ((d : Rat) * p10 p) (parseN d b p) ∧ (¬ 64 ≤ parseS b p → uscaleN (d * 2 ^ (64 - b)) (rowAt p).1 (rowAt p).2 (parseS b p).toNat + 100 ≤ 2 ^ 56) := by
 have row := row_at p hp0 hp1
 obtain ⟨a, ha⟩ : ∃ a, a = p10 p * p2 (-9 - lg10 p) := ⟨_, rfl⟩
 have hM : (0 : Rat) < (denM p : Rat) := Rat.natCast_pos.mpr (denM_pos p)
 have hfrac := frac p
 rw [← ha] at hfrac
 have alo : 1 ≤ a * 2 ^ 9 := by
  have := cast_le row.first
  rw [Rat.natCast_mul, Rat.natCast_mul, hfrac, c2n, c2n] at this
  apply Rat.le_of_mul_le_mul_right (c := (denM p : Rat) * 2 ^ 127) _ (Rat.mul_pos hM (by decide))
  grind
 have ahi : a * 2 ^ 136 + 2 ^ 80 ≤ 2 ^ 128 := by
  have h1 : a * 2 ^ 136 ≤ (((rowAt p).1 * 2 ^ 64 - (rowAt p).2 : Nat) : Rat) := by
   have := cast_le row.under
   rw [Rat.natCast_mul, Rat.natCast_mul, hfrac, c2n] at this
   apply Rat.le_of_mul_le_mul_right (c := (denM p : Rat)) _ hM
   grind
  have h2 := cast_le row.last
  rw [Rat.natCast_add, c2n, c2n] at h2
  grind
 have apos : 0 < a := by rw [ha]; exact Rat.mul_pos (p10_pos _) (p2_pos _)
 obtain ⟨V, hV⟩ : ∃ V, V = (d : Rat) * p10 p := ⟨_, rfl⟩
 rw [← hV]
 obtain ⟨e, he⟩ : ∃ e, e = parseE b p := ⟨_, rfl⟩
 obtain ⟨s, hs⟩ : ∃ s, s = parseS b p := ⟨_, rfl⟩
 have he' : e = min 1074 (53 - (b : Int) - lg10 p) := he
 have hs' : s = 61 - e - (b : Int) - lg10 p := by rw [hs, he]; rfl
 obtain ⟨x, hx⟩ : ∃ x, x = d * 2 ^ (64 - b) := ⟨_, rfl⟩
 have hx0 : 2 ^ 63 ≤ x := by
  rw [hx]
  have : 2 ^ (b - 1) * 2 ^ (64 - b) ≤ d * 2 ^ (64 - b) := Nat.mul_le_mul_right _ hd0
  rw [← Nat.pow_add, show b - 1 + (64 - b) = 63 by omega] at this
  exact this
 have hx1 : x < 2 ^ 64 := by
  rw [hx]
  have : d * 2 ^ (64 - b) < 2 ^ b * 2 ^ (64 - b) := Nat.mul_lt_mul_of_pos_right hd1 (Nat.two_pow_pos _)
  rw [← Nat.pow_add, show b + (64 - b) = 64 by omega] at this
  exact this
 have hxr0 : (2 : Rat) ^ 63 ≤ (x : Rat) := by have := cast_le hx0; rw [c2n] at this; exact this
 have hxr1 : (x : Rat) + 1 ≤ 2 ^ 64 := by have := cast_le (show x + 1 ≤ 2 ^ 64 from hx1); rw [c2n, cast_succ] at this; exact this
 obtain ⟨q, hq⟩ : ∃ q, q = V * p2 e := ⟨_, rfl⟩
 have hVq : V = q * p2 (-e) := by rw [hq, Rat.mul_assoc, ← p2_add, show e + -e = 0 by omega, p2_zero, Rat.mul_one]
 have hT : (x : Rat) * a * p2 (8 - s) = 4 * q := by
  rw [hx, Rat.natCast_mul, c2p, ha, hq, hV]
  have h4 : (4 : Rat) = p2 2 := by decide +kernel
  rw [h4]
  have : p2 ((64 - b : Nat) : Int) * p2 (-9 - lg10 p) * p2 (8 - s) = p2 2 * p2 e := by
   rw [← p2_add, ← p2_add, ← p2_add]; congr 1; omega
  grind
 have hxa_hi : (x : Rat) * a + 2 ^ 7 ≤ 2 ^ 56 := by
  have h1 : (x : Rat) * a ≤ (2 ^ 64) * a := Rat.mul_le_mul_of_nonneg_right (by grind) (Rat.le_of_lt apos)
  grind
 have hxa_lo : 2 ^ 54 ≤ (x : Rat) * a := by
  have h1 : (2 ^ 63) * a ≤ (x : Rat) * a := Rat.mul_le_mul_of_nonneg_right hxr0 (Rat.le_of_lt apos)
  grind
 have hs8 : 8 ≤ s := by omega
 have e1074 : e ≤ 1074 := by omega
 have hsc : p2 (8 - s) ≤ 1 := by
  have h1 : p2 (8 - s) * p2 (((s - 8).toNat : Nat) : Int) = 1 := by rw [← p2_add, show 8 - s + ((s - 8).toNat : Int) = 0 by omega, p2_zero]
  rw [p2_nat] at h1
  have h2 : (1 : Rat) ≤ ((2 ^ (s - 8).toNat : Nat) : Rat) := cast_le (Nat.two_pow_pos _)
  have h3 := Rat.mul_le_mul_of_nonneg_left h2 (Rat.le_of_lt (p2_pos (8 - s)))
  grind
 have hxa0 : 0 ≤ (x : Rat) * a := by grind
 have q_hi : 4 * q + 2 ^ 7 ≤ 2 ^ 56 := by
  have := Rat.mul_le_mul_of_nonneg_left hsc hxa0
  rw [hT] at this
  grind
 have q_lo : e = 1074 ∨ 2 ^ 52 ≤ q := by
  by_cases c : e = 1074
  ·exact .inl c
  ·right
   have hs0 : s = 8 := by omega
   rw [hs0, show (8 : Int) - 8 = 0 by decide, p2_zero, Rat.mul_one] at hT
   grind
 have hub : uscaleN x (rowAt p).1 (rowAt p).2 s.toNat + 100 ≤ 2 ^ 56 := by
  have hsf := uscale_sf row hx0 hx1 (show 8 ≤ s.toNat by omega)
  rw [← ha, show ((s.toNat : Nat) : Int) = s by omega, hT] at hsf
  generalize uscaleN x (rowAt p).1 (rowAt p).2 s.toNat = u at *
  by_cases c : u + 100 ≤ 2 ^ 56
  ·exact c
  ·exfalso
   have := cast_le (show 2 ^ 56 ≤ u + 99 by omega)
   rw [Rat.natCast_add, c2n, show ((99 : Nat) : Rat) = 99 from rfl] at this
   rcases hsf with h | ⟨_, h0, h1⟩ <;> grind
 unfold parseN
 simp only [← hs, ← he, ← hx]
 refine ⟨?_, fun _ => hub⟩
 by_cases c64 : 64 ≤ s
 ·rw [if_pos c64]
  have ee : e = 1074 := by omega
  have hsmall : 4 * q < 1 := by
   have h1 : p2 (8 - s) ≤ p2 (-56) := by
    have h2 : p2 (-56) = p2 (8 - s) * p2 (((s - 64).toNat : Nat) : Int) := by rw [← p2_add]; congr 1; omega
    rw [p2_nat] at h2
    have h3 : (1 : Rat) ≤ ((2 ^ (s - 64).toNat : Nat) : Rat) := cast_le (Nat.two_pow_pos _)
    have h4 := Rat.mul_le_mul_of_nonneg_left h3 (Rat.le_of_lt (p2_pos (8 - s)))
    grind
   have h5 := Rat.mul_le_mul_of_nonneg_left h1 hxa0
   rw [hT] at h5
   have h6 : (x : Rat) * a * p2 (-56) < 2 ^ 56 * p2 (-56) := Rat.mul_lt_mul_of_pos_right (by grind) (p2_pos _)
   have h7 : (2 : Rat) ^ 56 * p2 (-56) = 1 := by decide +kernel
   grind
  have hq0 : 0 ≤ q := by rw [hq, hV]; exact Rat.mul_nonneg (Rat.mul_nonneg Rat.natCast_nonneg (Rat.le_of_lt (p10_pos _))) (Rat.le_of_lt (p2_pos _))
  have hr : RH q 0 := by
   refine ⟨.inl ?_, .inl ?_⟩ <;> rw [show ((0 : Nat) : Rat) = 0 from rfl] <;> grind
  have := pack_near e1074 hVq (.inl ee) (by rw [c2n]; grind) (by omega) hr
  unfold packN at this
  simpa using this
 ·rw [if_neg c64]
  obtain ⟨u, hu⟩ : ∃ u, u = uscaleN x (rowAt p).1 (rowAt p).2 s.toNat := ⟨_, rfl⟩
  rw [← hu]
  have hsf := uscale_sf row hx0 hx1 (show 8 ≤ s.toNat by omega)
  rw [← ha, ← hu, show ((s.toNat : Nat) : Int) = s by omega, hT] at hsf
  by_cases cu : 2 ^ 55 - 2 ≤ u
  ·rw [if_pos cu]
   have hur : (2 : Rat) ^ 55 - 2 ≤ (u : Rat) := by
    have := cast_le cu
    have e1 : ((2 ^ 55 - 2 : Nat) : Rat) = 2 ^ 55 - 2 := by decide +kernel
    rw [e1] at this; exact this
   have hq53 : 2 ^ 55 - 2 ≤ 4 * q := by
    rcases hsf with h | ⟨h0, h1, _⟩
    ·grind
    ·have : 2 ^ 55 - 1 ≤ u := by omega
     have := cast_le this
     have e1 : ((2 ^ 55 - 1 : Nat) : Rat) = 2 ^ 55 - 1 := by decide +kernel
     rw [e1] at this; grind
   obtain ⟨q', hq'⟩ : ∃ q', q' = q / 2 := ⟨_, rfl⟩
   have hqq : q = 2 * q' := by rw [hq']; grind
   have hsf' : SF (4 * q') (u / 2 ||| u % 2) := by
    have hu2 : (u : Rat) = 2 * ((u / 2 : Nat) : Rat) + ((u % 2 : Nat) : Rat) := by
     have : ((2 * (u / 2) + u % 2 : Nat) : Rat) = (u : Rat) := by rw [Nat.div_add_mod]
     rw [Rat.natCast_add, Rat.natCast_mul] at this
     exact this.symm
    rcases Nat.mod_two_eq_zero_or_one u with h2 | h2
    ·rw [h2] at hu2 ⊢
     apply SF.of_eq
     rcases hsf with h | ⟨h0, _⟩
     ·rw [show ((0 : Nat) : Rat) = 0 from rfl] at hu2; grind
     ·omega
    ·rw [h2] at hu2 ⊢
     rw [show ((1 : Nat) : Rat) = 1 from rfl] at hu2
     apply SF.of_between
     ·rcases hsf with h | ⟨_, h0, h1⟩ <;> grind
     ·rcases hsf with h | ⟨_, h0, h1⟩ <;> grind
   have hr := hsf'.round
   generalize hm : roundU (u / 2 ||| u % 2) = m at *
   have hm53 : m < 2 ^ 53 := by
    rcases Nat.lt_or_ge m (2 ^ 53) with h | h
    ·exact h
    ·exfalso
     have := cast_le h
     rw [c2n] at this
     rcases hr.2 with h3 | ⟨h3, _⟩ <;> grind
   have hV' : V = q' * p2 (-(e - 1)) := by
    rw [hVq, hqq, show -(e - 1) = -e + 1 by omega, p2_succ]; grind
   rw [show 1 - e = -(e - 1) by omega]
   by_cases c52 : 2 ^ 52 ≤ q'
   ·exact pack_near (by omega) hV' (.inr (by rw [c2n]; exact c52)) (by rw [c2n]; grind) hm53 hr
   ·
    have hm52 : m = 2 ^ 52 := by
     apply Nat.le_antisymm
     ·rcases Nat.lt_or_ge (2 ^ 52) m with h | h
      ·exfalso
       have := cast_le (show 2 ^ 52 + 1 ≤ m from h)
       rw [cast_succ, c2n] at this
       rcases hr.2 with h3 | ⟨h3, _⟩ <;> grind
      ·exact h
     ·rcases Nat.lt_or_ge m (2 ^ 52) with h | h
      ·exfalso
       have := cast_le (show m + 1 ≤ 2 ^ 52 from h)
       rw [cast_succ, c2n] at this
       rcases hr.1 with h3 | ⟨h3, _⟩ <;> grind
      ·exact h
    have hr2 : RH q (2 ^ 53) := by
     refine ⟨.inl ?_, ?_⟩
     ·rw [c2n]; grind
     ·rw [c2n]
      by_cases c : 4 * q = 2 ^ 55 - 2
      ·exact .inr ⟨by grind, by decide⟩
      ·exact .inl (by grind)
    have hb : ((1074 - e).toNat : Int) - 1074 = -e := by omega
    have hn := near_of_scaled (V := V) (q := q) (b := (1074 - e).toNat) (k := 2 ^ 53) (by rw [hb]; exact hVq) (.inr (by rw [c2n]; grind)) (by rw [c2n]; grind) hr2
    rw [hm52]
    unfold packN
    rw [if_neg (by omega)]
    by_cases c2 : 972 ≤ -(e - 1)
    ·rw [if_pos c2]
     rw [Nat.min_eq_right (by unfold INF; omega)] at hn
     exact hn
    ·rw [if_neg c2]
     rw [Nat.min_eq_left (by unfold INF; omega)] at hn
     rw [show 2 ^ 52 - 2 ^ 52 + (1075 + -(e - 1)).toNat * 2 ^ 52 = (1074 - e).toNat * 2 ^ 52 + 2 ^ 53 by omega]
     exact hn
  ·rw [if_neg cu]
   have hr := hsf.round
   have hur : (u : Rat) + 3 ≤ 2 ^ 55 := by
    have := cast_le (show u + 3 ≤ 2 ^ 55 by omega)
    rw [Rat.natCast_add, c2n] at this; exact this
   have hq53 : 4 * q + 2 ≤ 2 ^ 55 := by
    rcases hsf with h | ⟨h0, _, h1⟩ <;> grind
   have hm53 : roundU u < 2 ^ 53 := by unfold roundU; omega
   exact pack_near e1074 hVq (by rcases q_lo with h | h; exact .inl h; right; rw [c2n]; exact h) (by rw [c2n]; grind) hm53 hr
theorem parse_near {d b : Nat} {p : Int} (hb0 : 1 ≤ b) (hb1 : b ≤ 64) (hd0 : 2 ^ (b - 1) ≤ d) (hd1 : d < 2 ^ b) (hp0 : -345 ≤ p) (hp1 : p ≤ 310) :
  Near ((d : Rat) * p10 p) (parseN d b p) := (parse_near_and hb0 hb1 hd0 hd1 hp0 hp1).1
end FP
