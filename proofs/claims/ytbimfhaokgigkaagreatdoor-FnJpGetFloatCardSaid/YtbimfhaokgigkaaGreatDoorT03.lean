/- Powers of ten, digits of texts, big whole numbers: plain facts, no program; no condition. -/
import Derived.Test.YtbimfhaokgigkaaGreatDoorT02
set_option linter.unusedVariables false
set_option linter.unusedSimpArgs false
namespace FP
open Ieee
end FP
namespace FP
def dnum (a : Nat) (g : Nat → Nat) : Nat → Nat
 | 0 => a
 | k + 1 => dnum a g k * 10 + (g k - 48)
theorem dnum_lt {a : Nat} {g : Nat → Nat} {j n : Nat} (ha : a < 10 ^ j) (h : ∀ k < n, g k ≤ 57) : ∀ k ≤ n, dnum a g k < 10 ^ (j + k)
 | 0, _ => ha
 | k + 1, hk => by
  have ih := dnum_lt ha h k (by omega)
  have := h k (by omega)
  show dnum a g k * 10 + (g k - 48) < 10 ^ (j + k + 1)
  rw [Nat.pow_succ]
  omega
theorem dnum_mono (a : Nat) (g : Nat → Nat) {j n : Nat} (h : j ≤ n) : dnum a g j ≤ dnum a g n := by
 induction n with
 | zero => have : j = 0 := by omega
           rw [this]; exact Nat.le_refl _
 | succ n ih =>
  by_cases hj : j = n + 1
  ·rw [hj]; exact Nat.le_refl _
  ·refine Nat.le_trans (ih (by omega)) ?_
   show dnum a g n ≤ dnum a g n * 10 + (g n - 48)
   omega
end FP
namespace FP
open Ieee
end FP
namespace FP
def Lst (d : Nat → Nat) (ds : List Nat) : Prop := ∀ i, i < ds.length → d i = ds.getD i 0 + 48
theorem trimZ_zero (l : List Nat) : trimZ (l ++ [0]) = trimZ l := by
 induction l with
 | nil => rfl
 | cons d t ih => simp only [List.cons_append, trimZ, ih]
theorem trimZ_stay (l : List Nat) {d : Nat} (h : d ≠ 0) : trimZ (l ++ [d]) = l ++ [d] := by
 induction l with
 | nil => simp [trimZ, h]
 | cons x t ih =>
  simp only [List.cons_append, trimZ, ih]
  rw [if_neg (by simp)]
theorem trimZ_take (l : List Nat) : l.take (trimZ l).length = trimZ l := by
 induction l with
 | nil => rfl
 | cons d t ih =>
  unfold trimZ
  split
  ·rfl
  ·simp [ih]
theorem take_snoc (l : List Nat) {n : Nat} (h : n < l.length) : l.take (n + 1) = l.take n ++ [l.getD n 0] := by
 rw [List.take_succ_eq_append_getElem h, List.getD_eq_getElem?_getD, List.getElem?_eq_getElem h]; rfl
theorem Lst.take {d : Nat → Nat} {ds : List Nat} (h : Lst d ds) (n : Nat) : Lst d (ds.take n) := by
 intro i hi
 rw [List.length_take] at hi
 rw [h i (by omega), List.getD_eq_getElem?_getD, List.getD_eq_getElem?_getD, List.getElem?_take, if_pos (by omega)]
theorem Lst.trim {d : Nat → Nat} {ds : List Nat} (h : Lst d ds) : Lst d (trimZ ds) := by
 have := h.take (trimZ ds).length
 rwa [trimZ_take] at this
def Placed (d : Nat → Nat) (W : Nat) (S : List Nat) : Prop := ∀ i, i < S.length → W + i < 800 → d (W + i) = S.getD i 0 + 48
def lost (W : Nat) (S : List Nat) : Bool := (S.drop (800 - W)).any (· ≠ 0)
theorem Placed.nil (d : Nat → Nat) (W : Nat) : Placed d W [] := fun i hi => by simp at hi
theorem lost_nil (W : Nat) : lost W [] = false := by simp [lost]
theorem Placed.cons {d e : Nat → Nat} {W x : Nat} {S : List Nat} (h : Placed d (W + 1) S) (he : ∀ i, i ≠ W → e i = d i) (h0 : W < 800 → e W = x + 48) : Placed e W (x :: S) := by
 intro i hi hw
 cases i with
 | zero => simpa using h0 (by omega)
 | succ j =>
  have := h j (by simpa using hi) (by omega)
  rw [he _ (by omega), show W + (j + 1) = W + 1 + j by omega, this]
  simp
theorem lost_in {W x : Nat} {S : List Nat} (h : W < 800) : lost W (x :: S) = lost (W + 1) S := by
 unfold lost
 rw [show 800 - W = (800 - (W + 1)) + 1 by omega]
 rfl
theorem lost_out {W x : Nat} {S : List Nat} (h : 800 ≤ W) : lost W (x :: S) = (decide (x ≠ 0) || lost (W + 1) S) := by
 unfold lost
 rw [show 800 - W = 0 by omega, show 800 - (W + 1) = 0 by omega]
 simp
theorem Placed.lst {d : Nat → Nat} {S : List Nat} (h : Placed d 0 S) : Lst d (S.take 800) := by
 intro i hi
 rw [List.length_take] at hi
 have := h i (by omega) (by omega)
 rw [Nat.zero_add] at this
 rw [this, List.getD_eq_getElem?_getD, List.getD_eq_getElem?_getD, List.getElem?_take, if_pos (by omega)]
theorem getD_drop (l : List Nat) (n : Nat) (h : n < l.length) : l.drop n = l.getD n 0 :: l.drop (n + 1) := by
 rw [List.getD_eq_getElem?_getD, List.getElem?_eq_getElem h]
 exact List.drop_eq_getElem_cons h
theorem lmul_drop (M : Nat) (ds : List Nat) (r : Nat) (h : r < ds.length) : lmul M (ds.drop r) = (((lmul M (ds.drop (r + 1))).1 + ds.getD r 0 * M) / 10, ((lmul M (ds.drop (r + 1))).1 + ds.getD r 0 * M) % 10 :: (lmul M (ds.drop (r + 1))).2) := by
 rw [getD_drop ds r h]; rfl
theorem lmul_small (M : Nat) (hM : 0 < M) (ds : List Nat) (h : ∀ d ∈ ds, d < 10) : (lmul M ds).1 < M := by
 rw [lmul_carry]
 have h1 := num_lt h
 exact Nat.div_lt_of_lt_mul (by rw [Nat.mul_comm]; exact Nat.mul_lt_mul_of_pos_right h1 hM |> fun h => by rw [Nat.mul_comm] at h; omega)
end FP
namespace FP
theorem Placed.snoc {d e : Nat → Nat} {x : Nat} {S : List Nat} (h : Placed d 0 S) (he : ∀ i, i ≠ S.length → e i = d i) (h0 : S.length < 800 → e S.length = x + 48) : Placed e 0 (S ++ [x]) := by
 intro i hi hw
 rw [List.length_append, List.length_singleton] at hi
 rw [Nat.zero_add] at hw ⊢
 by_cases c : i = S.length
 ·rw [c, h0 (by omega)]; simp
 ·have := h i (by omega) (by omega)
  rw [Nat.zero_add] at this
  rw [he i c, this, List.getD_eq_getElem?_getD, List.getD_eq_getElem?_getD, List.getElem?_append_left (by omega)]
theorem lost_snoc_in {x : Nat} {S : List Nat} (h : S.length < 800) : lost 0 (S ++ [x]) = lost 0 S := by
 unfold lost
 rw [List.drop_of_length_le (by simp; omega), List.drop_of_length_le (by omega)]
theorem lost_snoc_out {x : Nat} {S : List Nat} (h : 800 ≤ S.length) : lost 0 (S ++ [x]) = (lost 0 S || decide (x ≠ 0)) := by
 unfold lost
 rw [List.drop_append_of_le_length (by omega), List.any_append]
 simp
theorem takeUp_stop {M n : Nat} (h : M ≤ n) (l : List Nat) (r : Nat) : takeUp M l n r = (n, l, r) := by
 cases l with
 | nil =>
  have : padUp M M n r = (n, r) := by
   cases M with
   | zero => rfl
   | succ m => unfold padUp; rw [if_neg (by omega)]
  simp only [takeUp, this]
 | cons c t => unfold takeUp; rw [if_neg (by omega)]
theorem takeUp_step {M n : Nat} (h : n < M) (ds : List Nat) (r : Nat) (hr : r < ds.length) : takeUp M (ds.drop r) n r = takeUp M (ds.drop (r + 1)) (10 * n + ds.getD r 0) (r + 1) := by
 rw [getD_drop ds r hr]
 conv => lhs; unfold takeUp
 rw [if_pos h]
theorem takeUp_end {M n : Nat} (ds : List Nat) : takeUp M (ds.drop ds.length) n ds.length = ((padUp M M n ds.length).1, [], (padUp M M n ds.length).2) := by
 rw [List.drop_length]; rfl
theorem take_pos {n : Nat} (ds : List Nat) (r : Nat) (hr : r < ds.length) (h : 1 ≤ n * 10 ^ (ds.length - r) + num (ds.drop r)) : 1 ≤ (10 * n + ds.getD r 0) * 10 ^ (ds.length - (r + 1)) + num (ds.drop (r + 1)) := by
 rw [getD_drop ds r hr, num_cons, List.length_drop, show ds.length - r = ds.length - (r + 1) + 1 by omega, Nat.pow_succ] at h
 have : n * (10 ^ (ds.length - (r + 1)) * 10) + (ds.getD r 0 * 10 ^ (ds.length - (r + 1)) + num (ds.drop (r + 1))) = (10 * n + ds.getD r 0) * 10 ^ (ds.length - (r + 1)) + num (ds.drop (r + 1)) := by grind
 omega
theorem padUp_stop {M n : Nat} (h : M ≤ n) (f r : Nat) : padUp M f n r = (n, r) := by
 cases f with
 | zero => rfl
 | succ f => unfold padUp; rw [if_neg (by omega)]
theorem padUp_step {M n : Nat} (h : n < M) (f r : Nat) : padUp M (f + 1) n r = padUp M f (10 * n) (r + 1) := by
 conv => lhs; unfold padUp
 rw [if_pos h]
theorem rdiv_step (M : Nat) (ds : List Nat) (r n : Nat) (hr : r < ds.length) : rdiv M (ds.drop r) n = (n / M :: (rdiv M (ds.drop (r + 1)) (n % M * 10 + ds.getD r 0)).1, (rdiv M (ds.drop (r + 1)) (n % M * 10 + ds.getD r 0)).2) := by
 rw [getD_drop ds r hr]; rfl
theorem rdiv_end (M : Nat) (ds : List Nat) (n : Nat) {r : Nat} (h : ds.length ≤ r) : rdiv M (ds.drop r) n = ([], n) := by
 rw [List.drop_of_length_le h]; rfl
theorem rfin_zero (M f : Nat) : rfin M f 0 = [] := by cases f <;> simp [rfin]
theorem rfin_step {M f n : Nat} (h : n ≠ 0) : rfin M (f + 1) n = n / M :: rfin M f (n % M * 10) := by
 conv => lhs; unfold rfin
 rw [if_neg h]
def Fin (k f n : Nat) : Prop := ∃ e, k + 1 ≤ f + e ∧ (e ≤ k ∨ n = 0) ∧ 2 ^ e ∣ n
theorem Fin.start (k n : Nat) : Fin k (k + 1) n := ⟨0, by omega, .inl (by omega), by simp⟩
theorem Fin.step {k f n : Nat} (h : Fin k f n) (h0 : n ≠ 0) : ∃ f', f = f' + 1 ∧ Fin k f' (n % 2 ^ k * 10) := by
 obtain ⟨e, h1, h2, h3⟩ := h
 have h2 : e ≤ k := by omega
 refine ⟨f - 1, by omega, e + 1, by omega, ?_, ?_⟩
 ·by_cases c : e = k
  ·right
   rw [c] at h3
   rw [Nat.mod_eq_zero_of_dvd h3, Nat.zero_mul]
  ·left; omega
 ·have hdv : 2 ^ e ∣ n % 2 ^ k := (Nat.dvd_mod_iff (Nat.pow_dvd_pow 2 h2)).mpr h3
  obtain ⟨q, hq⟩ := hdv
  exact ⟨q * 5, by rw [hq, Nat.pow_succ]; grind⟩
end FP
namespace FP
theorem p10_inv {m u : Int} (h : p2 u < p10 m) : p10 (-m) < p2 (-u) := by
 have a1 := p10_neg_mul m
 have a2 := p2_neg_mul u
 by_cases c : p10 (-m) < p2 (-u)
 ·exact c
 ·exfalso
  have h1 : p2 (-u) ≤ p10 (-m) := Rat.not_lt.mp c
  have h2 := Rat.mul_le_mul_of_nonneg_right h1 (Rat.le_of_lt (p2_pos u))
  have h3 := Rat.mul_lt_mul_of_pos_left h (p10_pos (-m))
  grind
theorem DV.bounds {X : Rat} {E t : Int} {ds : List Nat} {dp : Int} {tr : Bool} (h : DV X E t ds dp tr) (h1 : -3000 ≤ E + t) (h2 : E + t ≤ 3000) : -2000 ≤ dp ∧ dp ≤ 2000 := by
 have a := ten_two h.below
 have b1 := h.above
 have b2 := dval_lt h.digs.1 dp
 have b := ten_two (p10_inv (lt_le (show p2 (E + t) < p10 dp by grind) (Rat.le_refl)))
 omega
def rung (e m : Nat) : Nat := e * 2 ^ 52 + m % 2 ^ 52
theorem DV.rung {X : Rat} {E : Int} {ds : List Nat} {dp : Int} {tr : Bool} (h : DV X E (52 - max E (-1022)) ds dp tr) (hE : E ≤ 1200) :
  rnd ds dp tr ≤ 2 ^ 53 ∧ (1024 ≤ E → Near X INF) ∧ (E < 1024 →
   (rnd ds dp tr = 2 ^ 53 → (max E (-1022) + 1 + 1023 < 2047 → Near X (FP.rung (max E (-1022) + 1 + 1023).toNat (2 ^ 52)) ∧ FP.rung (max E (-1022) + 1 + 1023).toNat (2 ^ 52) ≠ INF) ∧ (2047 ≤ max E (-1022) + 1 + 1023 → Near X INF)) ∧
   (rnd ds dp tr < 2 ^ 53 → 2 ^ 52 ≤ rnd ds dp tr → Near X (FP.rung (max E (-1022) + 1023).toNat (rnd ds dp tr)) ∧ FP.rung (max E (-1022) + 1023).toNat (rnd ds dp tr) ≠ INF) ∧
   (rnd ds dp tr < 2 ^ 52 → Near X (FP.rung 0 (rnd ds dp tr)) ∧ FP.rung 0 (rnd ds dp tr) ≠ INF)) := by
 obtain ⟨h1, h2, h3⟩ := h.last hE
 refine ⟨h1, fun hc => near_over h.lo hc, fun hc => ⟨fun e => ⟨fun c => ?_, fun c => ?_⟩, fun c1 c2 => ?_, fun c1 => ?_⟩⟩
 ·rw [e] at h3
  have : min ((max E (-1022) + 1022).toNat * 2 ^ 52 + 2 ^ 53) INF = FP.rung (max E (-1022) + 1 + 1023).toNat (2 ^ 52) := by unfold FP.rung INF; omega
  rw [← this]
  exact ⟨h3, by unfold INF; omega⟩
 ·rw [e] at h3
  have : min ((max E (-1022) + 1022).toNat * 2 ^ 52 + 2 ^ 53) INF = INF := by unfold INF; omega
  rwa [this] at h3
 ·generalize rnd ds dp tr = m at *
  have : min ((max E (-1022) + 1022).toNat * 2 ^ 52 + m) INF = FP.rung (max E (-1022) + 1023).toNat m := by unfold FP.rung INF; omega
  rw [← this]
  exact ⟨h3, by unfold INF; omega⟩
 ·generalize rnd ds dp tr = m at *
  have hE2 : E < -1022 := by omega
  have : min ((max E (-1022) + 1022).toNat * 2 ^ 52 + m) INF = FP.rung 0 m := by unfold FP.rung INF; omega
  rw [← this]
  exact ⟨h3, by unfold INF; omega⟩
end FP
namespace FP
structure DW (X : Rat) (E t : Int) (ds : List Nat) (dp : Int) (tr : Bool) : Prop where
 dv : DV X E t (trimZ ds) dp tr
 digs : ∀ d ∈ ds, d < 10
 lead : Lead ds
 len : ds.length ≤ 800
theorem trimZ_digs {ds : List Nat} (h : Digs ds) : trimZ ds = ds := by
 rcases List.eq_nil_or_concat ds with rfl | ⟨a, d, rfl⟩
 ·rfl
 ·rw [List.concat_eq_append] at *
  exact trimZ_stay a (h.2 a d rfl)
section
variable {X : Rat} {E t : Int} {ds : List Nat} {dp : Int} {tr : Bool}
theorem DV.weak (h : DV X E t ds dp tr) : DW X E t ds dp tr := ⟨by rw [trimZ_digs h.digs]; exact h, h.digs.1, h.lead, h.len⟩
theorem DW.El (h : DW X E t ds dp tr) : -1100 ≤ E := h.dv.El
theorem DW.lo (h : DW X E t ds dp tr) : p2 E ≤ X := h.dv.lo
theorem DW.bounds (h : DW X E t ds dp tr) (h1 : -3000 ≤ E + t) (h2 : E + t ≤ 3000) : -2000 ≤ dp ∧ dp ≤ 2000 := h.dv.bounds h1 h2
theorem DW.below (h : DW X E t ds dp tr) : p10 (dp - 1) < p2 (E + 1 + t) := h.dv.below
theorem DW.pos (h : DW X E t ds dp tr) (hdp : 0 < dp) : 0 ≤ E + t := h.dv.pos hdp
theorem DW.any (h : DW X E t ds dp tr) {L : List Nat} {dp' j : Int} (hL : ∀ d ∈ L, d < 10) (hl : Lead L) (hv : dval L dp' = dval ds dp * p2 j) (hr : Range E (t + j)) :
  DV X E (t + j) (trimZ (L.take 800)) dp' (tr || (L.drop 800).any (· ≠ 0)) := h.dv.any hL hl (by rw [dval_trim]; exact hv) hr
theorem DW.shl (h : DW X E t ds dp tr) (k : Nat) (hr : Range E (t + k)) : DV X E (t + k) (shlD k (ds, dp, tr)).1 (shlD k (ds, dp, tr)).2.1 (shlD k (ds, dp, tr)).2.2 :=
 h.any (leftD_lt k ds) (lead_left h.lead h.digs) (leftD_val k ds dp) hr
theorem DW.shr (h : DW X E t ds dp tr) (k : Nat) (hr : Range E (t - k)) : DV X E (t - k) (shrD k (ds, dp, tr)).1 (shrD k (ds, dp, tr)).2.1 (shrD k (ds, dp, tr)).2.2 := by
 obtain ⟨a, b, c⟩ := rightD_ok (k := k) h.digs (lead_num h.lead)
 exact h.any (j := -(k : Int)) a c (b dp) hr
theorem small_trim (hl : Lead ds) : small (trimZ ds) dp ↔ small ds dp := by
 obtain ⟨d, u, rfl, hd⟩ := hl
 unfold small
 have : (trimZ (d :: u)).getD 0 0 = (d :: u).getD 0 0 := by
  unfold trimZ
  rw [if_neg (by omega)]; simp
 rw [this]
theorem DW.second (h : DW X E t ds dp tr) (hs : small ds dp) (ht : 0 ≤ t ∨ -1000 ≤ E + t) :
  let n := stepN (-dp).toNat
  E + t + n < 0 ∧ DV X E (t + n) (shlD n (ds, dp, tr)).1 (shlD n (ds, dp, tr)).2.1 (shlD n (ds, dp, tr)).2.2 ∧ (shlD n (ds, dp, tr)).2.1 ≤ 0 := by
 simp only
 have hn := stepN_le (-dp).toNat
 have h1 := h.dv.above
 have h2 := small_lt h.dv.digs ((small_trim h.lead).mpr hs)
 rw [dval_trim] at h1 h2
 have h3 : p2 (E + t) < p2 (-(stepN (-dp).toNat : Int)) := by grind
 have h4 := p2_lt h3
 have h5 := h.shl (stepN (-dp).toNat) (by unfold Range; omega)
 refine ⟨by omega, h5, ?_⟩
 have h6 := lead_left (k := stepN (-dp).toNat) h.lead h.digs
 have h7 := h6.ge (dp + (FP.digs (lmul (2 ^ stepN (-dp).toNat) ds).1).length)
 rw [leftD_val] at h7
 have h8 := Rat.mul_lt_mul_of_pos_right h2 (p2_pos (stepN (-dp).toNat : Int))
 rw [p2_neg_mul] at h8
 have h9 : p10 (dp + (FP.digs (lmul (2 ^ stepN (-dp).toNat) ds).1).length - 1) < p2 0 := by rw [p2_zero]; grind
 have h10 := (ten_two h9)
 unfold shlD
 simp only
 omega
theorem DW.mid (h : DW X E t ds dp tr) (hs : ¬ small ds dp) (hdp : dp ≤ 0) : dp = 0 ∧ t = -(E + 1) := h.dv.mid (fun c => hs ((small_trim h.lead).mp c)) hdp
theorem DW.start {X : Rat} {L : List Nat} {dp : Int} (hL : ∀ d ∈ L, d < 10) (hl : Lead L) (h : dval L dp = X) (h1 : -330 ≤ dp) (h2 : dp ≤ 310) :
  ∃ E, E ≤ 1030 ∧ DW X E 0 (L.take 800) dp ((L.drop 800).any (· ≠ 0)) := by
 obtain ⟨E, e1, e2⟩ := DV.start hL hl h h1 h2
 refine ⟨E, e1, e2, fun d hd => hL d (List.mem_of_mem_take hd), ?_, by rw [List.length_take]; omega⟩
 obtain ⟨d, u, rfl, hd⟩ := hl
 exact ⟨d, u.take 799, rfl, hd⟩
end
end FP
namespace FP
def n32 : List Nat → Nat
 | [] => 0
 | d :: t => d + 2 ^ 32 * n32 t
def tcar (l : List Nat) (m a : Nat) : Nat → Nat
 | 0 => a
 | k + 1 => (tcar l m a k + l.getD k 0 * m) / 2 ^ 32
def tout (l : List Nat) (m a : Nat) : Nat → List Nat
 | 0 => []
 | k + 1 => tout l m a k ++ [(tcar l m a k + l.getD k 0 * m) % 2 ^ 32]
def mulAdd (l : List Nat) (m a : Nat) : List Nat := tout l m a l.length ++ (if tcar l m a l.length = 0 then [] else [tcar l m a l.length])
def Nrm (l : List Nat) : Prop := (∀ d ∈ l, d < 2 ^ 32) ∧ (l ≠ [] → 1 ≤ l.getD (l.length - 1) 0)
theorem getD_in {l : List Nat} {k : Nat} (h : k < l.length) : l.getD k 0 = l[k] := by simp [List.getD, h]
theorem getD_out {l : List Nat} {k : Nat} (h : l.length ≤ k) : l.getD k 0 = 0 := by simp [List.getD, h]
theorem n32_append (a b : List Nat) : n32 (a ++ b) = n32 a + 2 ^ (32 * a.length) * n32 b := by
 induction a with
 | nil => simp [n32]
 | cons d t ih =>
  rw [List.cons_append, n32, ih, n32, List.length_cons, show 32 * (t.length + 1) = 32 + 32 * t.length by omega, Nat.pow_add, Nat.mul_add, Nat.mul_assoc, Nat.add_assoc]
theorem n32_lt {l : List Nat} (h : ∀ d ∈ l, d < 2 ^ 32) : n32 l < 2 ^ (32 * l.length) := by
 induction l with
 | nil => simp [n32]
 | cons d t ih =>
  have h1 := ih (fun x hx => h x (List.mem_cons_of_mem _ hx))
  have h2 := h d List.mem_cons_self
  rw [n32, List.length_cons, Nat.mul_add, Nat.pow_add]
  rw [Nat.mul_comm (2 ^ (32 * t.length))]
  have h3 : n32 t + 1 ≤ 2 ^ (32 * t.length) := h1
  have h4 := Nat.mul_le_mul_left (2 ^ 32) h3
  rw [Nat.mul_add] at h4
  omega
theorem tout_len (l : List Nat) (m a k : Nat) : (tout l m a k).length = k := by
 induction k with
 | zero => rfl
 | succ k ih => rw [tout, List.length_append, ih]; rfl
theorem getD_lt {l : List Nat} (h : ∀ d ∈ l, d < 2 ^ 32) (k : Nat) : l.getD k 0 < 2 ^ 32 := by
 by_cases hk : k < l.length
 ·rw [getD_in hk]; exact h _ (List.getElem_mem hk)
 ·rw [getD_out (by omega)]; decide
theorem mul_word {x m : Nat} (hx : x < 2 ^ 32) (hm : m < 2 ^ 32) : x * m ≤ (2 ^ 32 - 1) * (2 ^ 32 - 1) := Nat.mul_le_mul (by omega) (by omega)
theorem tcar_lt {l : List Nat} {m a : Nat} (h : ∀ d ∈ l, d < 2 ^ 32) (hm : m < 2 ^ 32) (ha : a < 2 ^ 32) : ∀ k, tcar l m a k < 2 ^ 32
 | 0 => ha
 | k + 1 => by
  have ih := tcar_lt h hm ha k
  have := mul_word (getD_lt h k) hm
  rw [tcar]
  omega
theorem tcar_sum {l : List Nat} {m a : Nat} (h : ∀ d ∈ l, d < 2 ^ 32) (hm : m < 2 ^ 32) (ha : a < 2 ^ 32) (k : Nat) : l.getD k 0 * m < 2 ^ 64 ∧ tcar l m a k + l.getD k 0 * m < 2 ^ 64 := by
 have ih := tcar_lt h hm ha k
 have := mul_word (getD_lt h k) hm
 omega
theorem tout_lt (l : List Nat) (m a : Nat) : ∀ k, ∀ d ∈ tout l m a k, d < 2 ^ 32
 | 0, d, hd => by simp [tout] at hd
 | k + 1, d, hd => by
  rw [tout, List.mem_append, List.mem_singleton] at hd
  rcases hd with hd | rfl
  ·exact tout_lt l m a k d hd
  ·exact Nat.mod_lt _ (by decide)
theorem carry_alg {A P c x m a B q r T : Nat} (ih : A + P * c = T * m + a) (h : B * q + r = c + x * m) : A + P * r + P * B * q = (T + P * x) * m + a := by
 have e : P * r + P * B * q = P * c + P * (x * m) := by
  rw [Nat.mul_assoc P B q, ← Nat.mul_add, ← Nat.mul_add, ← h, Nat.add_comm]
 rw [Nat.add_mul, Nat.mul_assoc P x m]
 omega
theorem tout_val (l : List Nat) (m a : Nat) : ∀ k ≤ l.length, n32 (tout l m a k) + 2 ^ (32 * k) * tcar l m a k = n32 (l.take k) * m + a
 | 0, _ => by simp [tout, tcar, n32]
 | k + 1, hk => by
  have ih := tout_val l m a k (by omega)
  have e1 : l.take (k + 1) = l.take k ++ [l.getD k 0] := by
   rw [List.take_succ_eq_append_getElem (by omega), getD_in (by omega)]
  have e2 : (l.take k).length = k := by rw [List.length_take]; omega
  rw [tout, n32_append, tout_len, e1, n32_append, e2, tcar]
  have e3 : ∀ x, n32 [x] = x := fun x => by simp [n32]
  rw [e3, e3]
  have hd := Nat.div_add_mod (tcar l m a k + l.getD k 0 * m) (2 ^ 32)
  have e4 : 2 ^ (32 * (k + 1)) = 2 ^ (32 * k) * 2 ^ 32 := by rw [Nat.mul_add, Nat.pow_add]
  rw [e4]
  exact carry_alg ih hd
theorem mulAdd_val (l : List Nat) (m a : Nat) : n32 (mulAdd l m a) = n32 l * m + a := by
 have h := tout_val l m a l.length (Nat.le_refl _)
 rw [List.take_length] at h
 unfold mulAdd
 rw [n32_append, tout_len, ← h]
 by_cases c : tcar l m a l.length = 0
 ·rw [if_pos c, c]; simp [n32]
 ·rw [if_neg c]; simp [n32]
theorem mulAdd_len (l : List Nat) (m a : Nat) : (mulAdd l m a).length ≤ l.length + 1 := by
 unfold mulAdd
 rw [List.length_append, tout_len]
 split <;> simp
theorem mulAdd_nrm {l : List Nat} {m a : Nat} (h : Nrm l) (hm : m < 2 ^ 32) (hm1 : 1 ≤ m) (ha : a < 2 ^ 32) : Nrm (mulAdd l m a) := by
 have hc := tcar_lt h.1 hm ha
 refine ⟨?_, ?_⟩
 ·intro d hd
  unfold mulAdd at hd
  rw [List.mem_append] at hd
  rcases hd with hd | hd
  ·exact tout_lt l m a _ d hd
  ·split at hd
   ·simp at hd
   ·rw [List.mem_singleton] at hd; rw [hd]; exact hc _
 ·intro hne
  unfold mulAdd at hne ⊢
  by_cases c : tcar l m a l.length = 0
  ·rw [if_pos c, List.append_nil] at hne ⊢
   rw [tout_len]
   match hl : l.length with
   | 0 => rw [hl] at hne; simp [tout] at hne
   | k + 1 =>
    have hk : l ≠ [] := by intro e; rw [e] at hl; simp at hl
    have hlast := h.2 hk
    rw [hl] at hlast c
    rw [show k.succ - 1 = k from rfl] at hlast
    rw [show k + 1 - 1 = k from rfl]
    rw [tout, List.getD_eq_getElem?_getD, List.getElem?_append_right (by rw [tout_len]; omega), tout_len, Nat.sub_self]
    simp only [List.getElem?_cons_zero, Option.getD_some]
    rw [tcar] at c
    have hs := tcar_sum h.1 hm ha k
    have hp : 1 ≤ l.getD k 0 * m := Nat.mul_le_mul hlast hm1
    omega
  ·rw [if_neg c]
   rw [List.length_append, tout_len, List.length_singleton, Nat.add_sub_cancel, List.getD_eq_getElem?_getD, List.getElem?_append_right (by rw [tout_len]; omega), tout_len, Nat.sub_self]
   simp only [List.getElem?_cons_zero, Option.getD_some]
   omega
theorem nrm_nil : Nrm [] := ⟨fun d h => absurd h List.not_mem_nil, fun h => absurd rfl h⟩
theorem n32_ge {l : List Nat} (h : Nrm l) (hl : l ≠ []) : 2 ^ (32 * (l.length - 1)) ≤ n32 l := by
 have h1 := h.2 hl
 obtain ⟨k, hk⟩ : ∃ k, l.length = k + 1 := ⟨l.length - 1, by have := List.length_pos_iff.mpr hl; omega⟩
 rw [hk, Nat.add_sub_cancel] at h1 ⊢
 have e : l = l.take k ++ [l.getD k 0] := by
  have := List.take_succ_eq_append_getElem (l := l) (i := k) (by omega)
  rw [getD_in (by omega), ← this, ← hk, List.take_length]
 rw [e, n32_append, List.length_take, Nat.min_eq_left (by omega)]
 have e3 : n32 [l.getD k 0] = l.getD k 0 := by simp [n32]
 rw [e3]
 have := Nat.mul_le_mul_left (2 ^ (32 * k)) h1
 omega
theorem n32_short {x y : List Nat} (hx : Nrm x) (hy : Nrm y) (h : x.length < y.length) : n32 x < n32 y := by
 have h1 := n32_lt hx.1
 have h2 := n32_ge hy (by intro e; rw [e] at h; simp at h)
 exact Nat.lt_of_lt_of_le (Nat.lt_of_lt_of_le h1 (Nat.pow_le_pow_right (by decide) (by omega))) h2
theorem n32_at {x y : List Nat} (hx : Nrm x) (hy : Nrm y) (h : x.length = y.length) {i : Nat} (hi : i < x.length) (hab : ∀ j, i < j → x.getD j 0 = y.getD j 0) (hlt : x.getD i 0 < y.getD i 0) : n32 x < n32 y := by
 have cut : ∀ z : List Nat, i < z.length → z = z.take i ++ (z.getD i 0 :: z.drop (i + 1)) := by
  intro z hz
  rw [getD_in hz, ← List.drop_eq_getElem_cons hz, List.take_append_drop]
 have e : x.drop (i + 1) = y.drop (i + 1) := by
  apply List.ext_getElem?
  intro j
  rw [List.getElem?_drop, List.getElem?_drop]
  by_cases hj : i + 1 + j < x.length
  ·have := hab (i + 1 + j) (by omega)
   rw [getD_in hj, getD_in (by omega)] at this
   rw [List.getElem?_eq_getElem hj, List.getElem?_eq_getElem (by omega), this]
  ·rw [List.getElem?_eq_none (by omega), List.getElem?_eq_none (by omega)]
 have hxt := n32_lt (l := x.take i) (fun d hd => hx.1 d (List.mem_of_mem_take hd))
 rw [List.length_take, Nat.min_eq_left (by omega)] at hxt
 rw [cut x hi, cut y (by omega), n32_append, n32_append, n32, n32, e, List.length_take, List.length_take, Nat.min_eq_left (by omega), Nat.min_eq_left (by omega)]
 generalize n32 (y.drop (i + 1)) = R
 generalize n32 (x.take i) = A at *
 generalize n32 (y.take i) = B
 generalize 2 ^ (32 * i) = P at *
 generalize x.getD i 0 = a at *
 generalize y.getD i 0 = b at *
 have h1 : P * (a + 2 ^ 32 * R) + P ≤ P * (b + 2 ^ 32 * R) := by
  have := Nat.mul_le_mul_left P (show a + 2 ^ 32 * R + 1 ≤ b + 2 ^ 32 * R by omega)
  rw [Nat.mul_add] at this
  omega
 omega
theorem n32_zeros (n : Nat) (l : List Nat) : n32 (List.replicate n 0 ++ l) = 2 ^ (32 * n) * n32 l := by
 rw [n32_append, List.length_replicate]
 have : n32 (List.replicate n 0) = 0 := by
  induction n with
  | zero => rfl
  | succ n ih => rw [List.replicate_succ, n32, ih]
 omega
theorem nrm_zeros {l : List Nat} (n : Nat) (h : Nrm l) (hl : l ≠ []) : Nrm (List.replicate n 0 ++ l) := by
 have h0 := List.length_pos_iff.mpr hl
 refine ⟨fun d hd => ?_, fun _ => ?_⟩
 ·rw [List.mem_append] at hd
  rcases hd with hd | hd
  ·rw [(List.mem_replicate.mp hd).2]; decide
  ·exact h.1 d hd
 ·have := h.2 hl
  rw [List.length_append, List.length_replicate, List.getD_eq_getElem?_getD, List.getElem?_append_right (by rw [List.length_replicate]; omega), List.length_replicate, ← List.getD_eq_getElem?_getD]
  rwa [show n + l.length - 1 - n = l.length - 1 by omega]
def wordL (m : Nat) : List Nat := if m = 0 then [] else if m < 2 ^ 32 then [m] else [m % 2 ^ 32, m / 2 ^ 32]
theorem wordL_val (m : Nat) : n32 (wordL m) = m := by
 unfold wordL
 split
 ·rename_i h; rw [h]; rfl
 ·split
  ·simp [n32]
  ·simp only [n32]; omega
theorem wordL_nrm {m : Nat} (h : m < 2 ^ 64) : Nrm (wordL m) := by
 unfold wordL
 split
 ·exact nrm_nil
 ·split
  ·refine ⟨fun d hd => ?_, fun _ => ?_⟩
   ·rw [List.mem_singleton] at hd; omega
   ·show 1 ≤ m; omega
  ·refine ⟨fun d hd => ?_, fun _ => ?_⟩
   ·rw [List.mem_cons, List.mem_singleton] at hd; omega
   ·show 1 ≤ m / 2 ^ 32; omega
theorem wordL_len (m : Nat) : (wordL m).length ≤ 2 := by
 unfold wordL
 split
 ·simp
 ·split <;> simp
end FP
namespace FP
def scX (m : Nat) (e P : Int) : Nat := (if 0 < e then m * 2 ^ e.toNat else m) * (if 0 < P then 1 else 10 ^ (-P).toNat)
def scY (D : Nat) (e P : Int) : Nat := (if 0 < e then D else D * 2 ^ (-e).toNat) * (if 0 < P then 10 ^ P.toNat else 1)
def scK (e P : Int) : Rat := (if 0 < e then 1 else p2 (-e)) * (if 0 < P then 1 else p10 (-P))
theorem scK_pos (e P : Int) : 0 < scK e P := by
 unfold scK
 apply Rat.mul_pos
 ·split
  ·decide
  ·exact p2_pos _
 ·split
  ·decide
  ·exact p10_pos _
theorem scX_eq (m : Nat) (e P : Int) : (scX m e P : Rat) = (m : Rat) * p2 e * scK e P := by
 have h1 : ((if 0 < e then m * 2 ^ e.toNat else m : Nat) : Rat) = (m : Rat) * p2 e * (if 0 < e then 1 else p2 (-e)) := by
  by_cases c : 0 < e
  ·rw [if_pos c, if_pos c, Rat.natCast_mul, ← p2_nat, Int.toNat_of_nonneg (by omega), Rat.mul_one]
  ·rw [if_neg c, if_neg c, Rat.mul_assoc, Rat.mul_comm (p2 e), p2_neg_mul, Rat.mul_one]
 have h2 : ((if 0 < P then 1 else 10 ^ (-P).toNat : Nat) : Rat) = (if 0 < P then 1 else p10 (-P)) := by
  by_cases c : 0 < P
  ·rw [if_pos c, if_pos c]; rfl
  ·rw [if_neg c, if_neg c, ← p10_nat, Int.toNat_of_nonneg (by omega)]
 unfold scX scK
 rw [Rat.natCast_mul, h1, h2, Rat.mul_assoc]
theorem scY_eq (D : Nat) (e P : Int) : (scY D e P : Rat) = (D : Rat) * p10 P * scK e P := by
 have h1 : ((if 0 < e then D else D * 2 ^ (-e).toNat : Nat) : Rat) = (D : Rat) * (if 0 < e then 1 else p2 (-e)) := by
  by_cases c : 0 < e
  ·rw [if_pos c, if_pos c, Rat.mul_one]
  ·rw [if_neg c, if_neg c, Rat.natCast_mul, ← p2_nat, Int.toNat_of_nonneg (by omega)]
 have h2 : ((if 0 < P then 10 ^ P.toNat else 1 : Nat) : Rat) = p10 P * (if 0 < P then 1 else p10 (-P)) := by
  by_cases c : 0 < P
  ·rw [if_pos c, if_pos c, ← p10_nat, Int.toNat_of_nonneg (by omega), Rat.mul_one]
  ·rw [if_neg c, if_neg c, Rat.mul_comm, p10_neg_mul]; rfl
 unfold scY scK
 rw [Rat.natCast_mul, h1, h2]
 grind
def cmpI (x y : Nat) : Int := if x < y then -1 else if x = y then 0 else 1
theorem sc_lt {m D : Nat} {e P : Int} : scX m e P < scY D e P ↔ (m : Rat) * p2 e < (D : Rat) * p10 P := by
 rw [← Rat.natCast_lt_natCast, scX_eq, scY_eq]
 exact Rat.mul_lt_mul_right (scK_pos e P)
theorem sc_gt {m D : Nat} {e P : Int} : scY D e P < scX m e P ↔ (D : Rat) * p10 P < (m : Rat) * p2 e := by
 rw [← Rat.natCast_lt_natCast, scX_eq, scY_eq]
 exact Rat.mul_lt_mul_right (scK_pos e P)
theorem sc_eq {m D : Nat} {e P : Int} : scX m e P = scY D e P ↔ (m : Rat) * p2 e = (D : Rat) * p10 P := by
 have h1 := sc_lt (m := m) (D := D) (e := e) (P := P)
 have h2 := sc_gt (m := m) (D := D) (e := e) (P := P)
 constructor
 ·intro h
  have n1 : ¬ scX m e P < scY D e P := by omega
  have n2 : ¬ scY D e P < scX m e P := by omega
  rw [h1] at n1
  rw [h2] at n2
  grind
 ·intro h
  have n1 : ¬ scX m e P < scY D e P := by rw [h1, h]; grind
  have n2 : ¬ scY D e P < scX m e P := by rw [h2, h]; grind
  omega
theorem cmpI_le {x y : Nat} : cmpI x y ≤ 0 ↔ x ≤ y := by
 unfold cmpI
 by_cases h : x < y
 ·rw [if_pos h]; omega
 ·rw [if_neg h]
  by_cases h2 : x = y
  ·rw [if_pos h2]; omega
  ·rw [if_neg h2]; omega
theorem cmpI_lt {x y : Nat} : cmpI x y < 0 ↔ x < y := by
 unfold cmpI
 by_cases h : x < y
 ·rw [if_pos h]; omega
 ·rw [if_neg h]
  by_cases h2 : x = y
  ·rw [if_pos h2]; omega
  ·rw [if_neg h2]; omega
theorem cmpI_eq {x y : Nat} : cmpI x y = 0 ↔ x = y := by
 unfold cmpI
 by_cases h : x < y
 ·rw [if_pos h]; omega
 ·rw [if_neg h]
  by_cases h2 : x = y
  ·rw [if_pos h2]; omega
  ·rw [if_neg h2]; omega
structure Bis (X : Rat) (lo hi : Nat) : Prop where
 lt : lo < hi
 top : hi ≤ INF
 low : val lo ≤ X
 high : hi = INF ∨ X < val hi
theorem Bis.start {X : Rat} (h : 0 ≤ X) : Bis X 0 INF := ⟨by decide, Nat.le_refl _, by rw [val_zero]; exact h, .inl rfl⟩
theorem Bis.up {X : Rat} {lo hi m : Nat} (h : Bis X lo hi) (h2 : m < hi) (hv : val m ≤ X) : Bis X m hi := ⟨h2, h.top, hv, h.high⟩
theorem Bis.down {X : Rat} {lo hi m : Nat} (h : Bis X lo hi) (h1 : lo < m) (h2 : m < hi) (hv : ¬ val m ≤ X) : Bis X lo m := ⟨h1, by have := h.top; omega, h.low, .inr (by grind)⟩
theorem sig_par (r : Nat) : sig r % 2 = r % 2 := by
 unfold sig
 split
 ·rfl
 ·omega
theorem Bis.near {X : Rat} {lo hi : Nat} (h : Bis X lo hi) (h1 : hi - lo ≤ 1) : (mid lo < X ∨ (mid lo = X ∧ sig lo % 2 = 1) → Near X (lo + 1)) ∧ (¬ (mid lo < X ∨ (mid lo = X ∧ sig lo % 2 = 1)) → Near X lo) := by
 obtain ⟨a, b, c, d⟩ := h
 have e : hi = lo + 1 := by omega
 subst e
 rw [sig_par]
 constructor
 ·intro h
  refine ⟨b, .inr ?_, ?_⟩
  ·rw [Nat.add_sub_cancel]
   rcases h with h | ⟨h, hp⟩
   ·exact .inl h
   ·exact .inr ⟨h, by omega⟩
  ·rcases d with d | d
   ·exact .inl d
   ·have := val_lt_mid (lo + 1)
    exact .inr (.inl (by grind))
 ·intro h
  refine ⟨by omega, ?_, .inr ?_⟩
  ·by_cases c0 : lo = 0
   ·exact .inl c0
   ·have h2 := mid_lt_val (lo - 1)
    rw [show lo - 1 + 1 = lo by omega] at h2
    exact .inr (.inl (by grind))
  ·by_cases c2 : X < mid lo
   ·exact .inl c2
   ·have c3 : X = mid lo := by
     by_cases c4 : mid lo < X
     ·exact absurd (.inl c4) h
     ·grind
    refine .inr ⟨c3, ?_⟩
    have : ¬ lo % 2 = 1 := fun hp => h (.inr ⟨c3.symm, hp⟩)
    omega
end FP
namespace FP
def sds (g : Nat → Nat) : Nat → List Nat
 | 0 => []
 | j + 1 => if g j = 46 then sds g j else if g j = 48 ∧ sds g j = [] then [] else sds g j ++ [g j - 48]
theorem sds_len {g : Nat → Nat} : ∀ j, (sds g j).length = (rst g j).nd
 | 0 => rfl
 | j + 1 => by
  have ih := sds_len (g := g) j
  simp only [sds, rst, rstep]
  by_cases h : g j = 46
  ·rw [if_pos h, if_pos h]; exact ih
  ·rw [if_neg h, if_neg h]
   by_cases h0 : g j = 48 ∧ (rst g j).nd = 0
   ·have e : sds g j = [] := List.length_eq_zero_iff.mp (by rw [ih]; exact h0.2)
    rw [if_pos ⟨h0.1, e⟩, if_pos h0]
    simp [h0.2]
   ·have hn : ¬ (g j = 48 ∧ sds g j = []) := by
     intro ⟨a, b⟩
     exact h0 ⟨a, by rw [← ih, b]; rfl⟩
    rw [if_neg hn, if_neg h0, List.length_append, ih]
    split <;> rfl
theorem sds_digit {g : Nat → Nat} {m : Nat} (h : ∀ j < m, g j = 46 ∨ (48 ≤ g j ∧ g j ≤ 57)) : ∀ j ≤ m, ∀ d ∈ sds g j, d < 10
 | 0, _ => by simp [sds]
 | j + 1, hj => by
  have ih := sds_digit h j (by omega)
  have hb := h j (by omega)
  simp only [sds]
  split
  ·exact ih
  ·split
   ·simp
   ·intro d hd
    rcases List.mem_append.mp hd with h1 | h1
    ·exact ih d h1
    ·simp at h1; omega
theorem sds_lead {g : Nat → Nat} {m : Nat} (h : ∀ j < m, g j = 46 ∨ (48 ≤ g j ∧ g j ≤ 57)) : ∀ j ≤ m, sds g j = [] ∨ Lead (sds g j)
 | 0, _ => .inl rfl
 | j + 1, hj => by
  have ih := sds_lead h j (by omega)
  have hb := h j (by omega)
  simp only [sds]
  split
  ·exact ih
  ·split
   ·exact .inl rfl
   ·rename_i h1 h2
    right
    rcases ih with e | ⟨d, t, e, hd⟩
    ·rw [e] at h2 ⊢
     exact ⟨g j - 48, [], rfl, by simp at h2; omega⟩
    ·rw [e]
     exact ⟨d, t ++ [g j - 48], rfl, hd⟩
theorem sds_le {g : Nat → Nat} : ∀ j, (sds g j).length ≤ j
 | 0 => Nat.le_refl _
 | j + 1 => by
  have ih := sds_le (g := g) j
  simp only [sds]
  split
  ·omega
  ·split
   ·simp
   ·rw [List.length_append, List.length_singleton]; omega
end FP
namespace FP
open Ieee
theorem read_inf (s : Bool) : double.read (wordOf s INF) = .infinity s := by cases s <;> decide +kernel
theorem order_same (s : Bool) {a b : Nat} (ha : a ≤ INF) (hb : b ≤ INF) : (double.order (wordOf s a) (wordOf s b) == some .eq) = decide (a = b) := by
 by_cases h1 : a = INF
 ·by_cases h2 : b = INF
  ·rw [h1, h2]; cases s <;> decide +kernel
  ·have : (double.order (wordOf s INF) (wordOf s b) == some .eq) = false := by
    unfold Format.order
    rw [read_inf, read_word s b (by omega)]
    simp only [Datum.order]
    cases s <;> rfl
   rw [h1, this, eq_comm, decide_eq_false_iff_not]; omega
 ·by_cases h2 : b = INF
  ·have : (double.order (wordOf s a) (wordOf s INF) == some .eq) = false := by
    unfold Format.order
    rw [read_inf, read_word s a (by omega)]
    simp only [Datum.order]
    cases s <;> rfl
   rw [h2, this, eq_comm, decide_eq_false_iff_not]; omega
  ·obtain ⟨A, B, e, h3, h4⟩ := order_words s s (show a < INF by omega) (show b < INF by omega)
   rw [e]
   have : (some (compare (if s then -(A : Int) else A) (if s then -(B : Int) else B)) == some Ordering.eq) = decide ((if s then -(A : Int) else A) = (if s then -(B : Int) else B)) := by
    generalize (if s then -(A : Int) else A) = x
    generalize (if s then -(B : Int) else B) = y
    rcases Int.lt_trichotomy x y with h | h | h
    ·have : compare x y = .lt := Int.compare_eq_lt.mpr h
     rw [this]; simp; omega
    ·have : compare x y = .eq := Int.compare_eq_eq.mpr h
     rw [this]; simp; omega
    ·have : compare x y = .gt := Int.compare_eq_gt.mpr h
     rw [this]; simp; omega
   rw [this, decide_eq_decide]
   cases s
   ·simp only [Bool.false_eq_true, if_false]; omega
   ·simp only [if_true]; omega
theorem near_fin {V : Rat} {r : Nat} (h : Near V r) (hv : V < p10 308) : r < INF := by
 have h1 : p10 308 < mid (INF - 1) := by decide +kernel
 by_cases c : r < INF
 ·exact c
 ·exfalso
  have : r = INF := by have := h.1; omega
  subst this
  rcases h.2.1 with h2 | h2 | ⟨h2, _⟩
  ·exact absurd h2 (by decide)
  ·grind
  ·grind
end FP
namespace FP
theorem rst_mant {g : Nat → Nat} {m : Nat} (h : ∀ j < m, g j = 46 ∨ (48 ≤ g j ∧ g j ≤ 57)) : ∀ j ≤ m, (rst g j).mant = num ((sds g j).take 19) ∧ (rst g j).tr = ((sds g j).drop 19).any (· ≠ 0)
 | 0, _ => by simp [rst, rinit, sds, num_nil]
 | j + 1, hj => by
  obtain ⟨i1, i2⟩ := rst_mant h j (by omega)
  have hb := h j (by omega)
  have hl := sds_len (g := g) j
  have hok := rst_ok h j (by omega)
  simp only [sds, rst, rstep]
  by_cases c1 : g j = 46
  ·rw [if_pos c1, if_pos c1]
   exact ⟨i1, i2⟩
  ·rw [if_neg c1, if_neg c1]
   by_cases c2 : g j = 48 ∧ (rst g j).nd = 0
   ·have e : sds g j = [] := List.length_eq_zero_iff.mp (by rw [hl]; exact c2.2)
    rw [if_pos c2, if_pos ⟨c2.1, e⟩]
    rw [e] at i1 i2
    exact ⟨i1, i2⟩
   ·have hn : ¬ (g j = 48 ∧ sds g j = []) := by
     intro ⟨a, b⟩
     exact c2 ⟨a, by rw [← hl, b]; rfl⟩
    rw [if_neg c2, if_neg hn]
    by_cases c3 : (rst g j).nm < 19
    ·rw [if_pos c3]
     have c4 : (sds g j).length < 19 := by rw [hl]; have := hok.nm; omega
     refine ⟨?_, ?_⟩
     ·have e1 : (sds g j ++ [g j - 48]).take 19 = sds g j ++ [g j - 48] := List.take_of_length_le (by simp; omega)
      have e2 : (sds g j).take 19 = sds g j := List.take_of_length_le (by omega)
      rw [e1, num_snoc]
      rw [e2] at i1
      simp only
      omega
     ·have e1 : (sds g j ++ [g j - 48]).drop 19 = [] := List.drop_of_length_le (by simp; omega)
      have e2 : (sds g j).drop 19 = [] := List.drop_of_length_le (by omega)
      rw [e1]
      rw [e2] at i2
      simp only
      exact i2
    ·rw [if_neg c3]
     have c4 : 19 ≤ (sds g j).length := by rw [hl]; have := hok.nm; omega
     refine ⟨?_, ?_⟩
     ·simp only
      rw [i1, List.take_append_of_le_length c4]
     ·simp only
      rw [i2, List.drop_append_of_le_length c4, List.any_append]
      congr 1
      simp only [List.any_cons, List.any_nil, Bool.or_false]
      rw [Bool.eq_iff_iff, bne_iff_ne, decide_eq_true_iff]
      omega
theorem first_digits {L : List Nat} (hd : ∀ d ∈ L, d < 10) (hl : L = [] ∨ Lead L) (dp : Int) :
  (num (L.take 19) = 0 → L = []) ∧ (num (L.take 19) : Rat) * p10 (dp - min 19 L.length) ≤ dval L dp ∧ dval L dp ≤ ((num (L.take 19) + 1 : Nat) : Rat) * p10 (dp - min 19 L.length) ∧
  ((L.drop 19).any (· ≠ 0) = false → dval L dp = (num (L.take 19) : Rat) * p10 (dp - min 19 L.length)) := by
 have hn : num L = num (L.take 19) * 10 ^ (L.drop 19).length + num (L.drop 19) := by
  conv => lhs; rw [← List.take_append_drop 19 L]
  rw [num_append]
 have hk : ((L.drop 19).length : Int) = L.length - min 19 L.length := by rw [List.length_drop]; omega
 have hlt := num_lt (l := L.drop 19) (fun d h => hd d (List.mem_of_mem_drop h))
 have e1 : dval L dp = (num (L.take 19) : Rat) * p10 (dp - min 19 L.length) + (num (L.drop 19) : Rat) * p10 (dp - L.length) := by
  unfold dval
  rw [hn, Rat.natCast_add, Rat.natCast_mul, ← p10_nat, Rat.add_mul, Rat.mul_assoc, ← p10_add]
  congr 3
  omega
 have hp := p10_pos (dp - L.length)
 have e2 : p10 (dp - min 19 L.length) = p10 ((L.drop 19).length : Int) * p10 (dp - L.length) := by rw [← p10_add]; congr 1; omega
 have h0 : (0 : Rat) ≤ (num (L.drop 19) : Rat) * p10 (dp - L.length) := Rat.mul_nonneg (by exact_mod_cast Nat.zero_le _) (Rat.le_of_lt hp)
 have h1 : (num (L.drop 19) : Rat) * p10 (dp - L.length) ≤ p10 (dp - min 19 L.length) := by
  rw [e2, p10_nat]
  exact Rat.mul_le_mul_of_nonneg_right (cast_le (Nat.le_of_lt hlt)) (Rat.le_of_lt hp)
 refine ⟨?_, ?_, ?_, ?_⟩
 ·intro h
  rcases hl with e | ⟨d, t, e, hd1⟩
  ·exact e
  ·exfalso
   rw [e] at h
   have : (d :: t).take 19 = d :: t.take 18 := rfl
   rw [this] at h
   have h2 := num_ge (t := t.take 18) hd1
   have := Nat.pow_pos (n := (t.take 18).length) (show 0 < 10 by omega)
   omega
 ·rw [e1]; grind
 ·rw [e1, cast_succ]; grind
 ·intro h
  have hz : num (L.drop 19) = 0 := by
   apply num_zero
   intro d hdm
   rw [List.any_eq_false] at h
   have := h d hdm
   simpa using this
  rw [e1, hz]; grind
end FP
namespace FP
theorem dig_step {g : Nat → Nat} {j : Nat} (h : 48 ≤ g j ∧ g j ≤ 57) : num (sds g (j + 1)) = num (sds g j) * 10 + (g j - 48) ∧ (rst g (j + 1)).dotted = (rst g j).dotted ∧ (rst g (j + 1)).seen = true ∧
  (rst g (j + 1)).dp - (sds g (j + 1)).length = (rst g j).dp - (sds g j).length - 1 := by
 have hl := sds_len (g := g) j
 simp only [sds, rst, rstep]
 rw [if_neg (show ¬ g j = 46 by omega), if_neg (show ¬ g j = 46 by omega)]
 by_cases c : g j = 48 ∧ sds g j = []
 ·have c2 : g j = 48 ∧ (rst g j).nd = 0 := ⟨c.1, by rw [← hl, c.2]; rfl⟩
  rw [if_pos c, if_pos c2, c.2, c.1]
  refine ⟨by simp [num_nil], rfl, rfl, ?_⟩
  simp
 ·have c2 : ¬ (g j = 48 ∧ (rst g j).nd = 0) := fun h => c ⟨h.1, List.length_eq_zero_iff.mp (by rw [hl]; exact h.2)⟩
  rw [if_neg c, if_neg c2, num_snoc, List.length_append]
  refine ⟨by omega, ?_, ?_, ?_⟩
  ·split <;> rfl
  ·split <;> rfl
  ·split <;> simp <;> omega
theorem val_whole {g : Nat → Nat} {W : Nat} (h : ∀ j < W, 48 ≤ g j ∧ g j ≤ 57) : ∀ j ≤ W, num (sds g j) = dnum 0 g j ∧ (rst g j).dotted = false ∧ (0 < j → (rst g j).seen = true)
 | 0, _ => ⟨by simp [sds, num_nil, dnum], rfl, fun h => absurd h (by omega)⟩
 | j + 1, hj => by
  obtain ⟨i1, i2, _⟩ := val_whole h j (by omega)
  obtain ⟨a, b, c, _⟩ := dig_step (h j (by omega))
  exact ⟨by rw [a, i1]; rfl, by rw [b, i2], fun _ => c⟩
theorem val_frac {g : Nat → Nat} {W F : Nat} (hW : 1 ≤ W) (h : ∀ j < W, 48 ≤ g j ∧ g j ≤ 57) (hd : g W = 46) (hf : ∀ k < F, 48 ≤ g (W + 1 + k) ∧ g (W + 1 + k) ≤ 57) :
  ∀ i ≤ F, num (sds g (W + 1 + i)) = dnum (dnum 0 g W) (fun k => g (W + 1 + k)) i ∧ (rst g (W + 1 + i)).dotted = true ∧ (rst g (W + 1 + i)).dp - (sds g (W + 1 + i)).length = -(i : Int) ∧ (rst g (W + 1 + i)).seen = true
 | 0, _ => by
  obtain ⟨i1, i2, i3⟩ := val_whole h W (Nat.le_refl _)
  have hl := sds_len (g := g) W
  simp only [Nat.add_zero, sds, rst, rstep]
  rw [if_pos hd, if_pos hd]
  exact ⟨i1, rfl, by simp only; omega, i3 (by omega)⟩
 | i + 1, hi => by
  obtain ⟨a1, a2, a3, _⟩ := val_frac hW h hd hf i (by omega)
  obtain ⟨b1, b2, b3, b4⟩ := dig_step (g := g) (j := W + 1 + i) (hf i (by omega))
  have e : W + 1 + (i + 1) = W + 1 + i + 1 := by omega
  rw [e]
  refine ⟨by rw [b1, a1]; rfl, by rw [b2, a2], by rw [b4, a3]; omega, b3⟩
theorem val_front {g : Nat → Nat} {W F M : Nat} (hW : 1 ≤ W) (h : ∀ j < W, 48 ≤ g j ∧ g j ≤ 57) (hd : F ≠ 0 → g W = 46) (hf : ∀ k < F, 48 ≤ g (W + 1 + k) ∧ g (W + 1 + k) ≤ 57) (hM : M = W + (if F = 0 then 0 else 1 + F)) (e : Int) :
  dval (sds g M) ((if (rst g M).dotted = true then (rst g M).dp else (rst g M).nd) + e) = (dnum (dnum 0 g W) (fun k => g (W + 1 + k)) F : Rat) * p10 (e - F) ∧ (rst g M).seen = true ∧ ∀ j < M, g j = 46 → (rst g j).dotted = false := by
 by_cases hF : F = 0
 ·subst hF
  rw [if_pos rfl, Nat.add_zero] at hM
  subst hM
  obtain ⟨i1, i2, i3⟩ := val_whole h M (Nat.le_refl _)
  have hl := sds_len (g := g) M
  refine ⟨?_, i3 (by omega), fun j hj hg => by have := h j hj; omega⟩
  rw [i2, if_neg (by decide)]
  unfold dval
  rw [i1]
  show _ = ((dnum 0 g M : Nat) : Rat) * _
  congr 2
  omega
 ·rw [if_neg hF] at hM
  obtain ⟨a1, a2, a3, a4⟩ := val_frac hW h (hd hF) hf F (Nat.le_refl _)
  obtain rfl : M = W + 1 + F := by omega
  refine ⟨?_, a4, fun j hj hg => ?_⟩
  ·rw [a2, if_pos rfl]
   unfold dval
   rw [a1]
   congr 2
   omega
  ·by_cases hjW : j < W
   ·have := h j hjW; omega
   ·by_cases he : j = W
    ·rw [he]; exact (val_whole h W (Nat.le_refl _)).2.1
    ·have := hf (j - W - 1) (by omega)
     rw [show W + 1 + (j - W - 1) = j by omega] at this
     omega
theorem ecl_small {g : Nat → Nat} : ∀ n, dnum 0 g n < 10000 → ecl g n = dnum 0 g n
 | 0, _ => rfl
 | n + 1, h => by
  have h0 : dnum 0 g (n + 1) = dnum 0 g n * 10 + (g n - 48) := rfl
  have ih := ecl_small (g := g) n (by omega)
  show (if ecl g n < 10000 then ecl g n * 10 + (g n - 48) else ecl g n) = _
  rw [ih, if_pos (by omega), h0]
theorem ecl_big {g : Nat → Nat} : ∀ n, 10000 ≤ dnum 0 g n → 10000 ≤ ecl g n
 | 0, h => absurd h (by show ¬ 10000 ≤ 0; decide)
 | n + 1, h => by
  show 10000 ≤ (if ecl g n < 10000 then ecl g n * 10 + (g n - 48) else ecl g n)
  by_cases c : dnum 0 g n < 10000
  ·rw [ecl_small n c, if_pos c]; exact h
  ·have := ecl_big (g := g) n (by omega)
   rw [if_neg (by omega)]; exact this
theorem low_p {D n : Nat} {P : Int} (h : D < 10 ^ n) (hp : P + (n : Int) ≤ -330) : (D : Rat) * p10 P < p10 (-330) := by
 have h1 : (D : Rat) < ((10 ^ n : Nat) : Rat) := cast_lt h
 have h2 := (Rat.mul_lt_mul_right (p10_pos P)).mpr h1
 rw [← p10_nat, ← p10_add] at h2
 have h3 := p10_le (show (n : Int) + P ≤ -330 by omega)
 grind
theorem high_p {D : Nat} {P : Int} (h : 1 ≤ D) (hp : 310 ≤ P) : p10 310 ≤ (D : Rat) * p10 P := by
 have h1 : ((1 : Nat) : Rat) ≤ (D : Rat) := cast_le h
 have h2 := Rat.mul_le_mul_of_nonneg_right h1 (Rat.le_of_lt (p10_pos P))
 have h3 := p10_le hp
 have h4 : ((1 : Nat) : Rat) = 1 := rfl
 rw [h4, Rat.one_mul] at h2
 grind
theorem near_cut {D n F N : Nat} {ge : Nat → Nat} {esg : Int} (hD : D < 10 ^ n) (hn : n ≤ 1000) (hF : F ≤ 1000) (he : esg = 1 ∨ esg = -1) {r r' : Nat} (h : Near ((D : Rat) * p10 (esg * (dnum 0 ge N : Int) - F)) r) (h' : Near ((D : Rat) * p10 ((ecl ge N : Int) * esg - F)) r') : r = r' := by
 by_cases c : dnum 0 ge N < 10000
 ·rw [ecl_small N c, Int.mul_comm] at h'
  exact h.unique h'
 ·have hb := ecl_big N (show 10000 ≤ dnum 0 ge N by omega)
  by_cases hD0 : D = 0
  ·subst hD0
   have z : ((0 : Nat) : Rat) = 0 := rfl
   rw [z, Rat.zero_mul] at h h'
   exact h.unique h'
  ·rcases he with rfl | rfl
   ·have h1 := near_huge (high_p (D := D) (P := 1 * (dnum 0 ge N : Int) - F) (by omega) (by omega))
    have h2 := near_huge (high_p (D := D) (P := (ecl ge N : Int) * 1 - F) (by omega) (by omega))
    rw [h.unique h1, h'.unique h2]
   ·have h1 := near_tiny (low_p (P := -1 * (dnum 0 ge N : Int) - F) hD (by omega))
    have h2 := near_tiny (low_p (P := (ecl ge N : Int) * -1 - F) hD (by omega))
    rw [h.unique h1, h'.unique h2]
theorem dnum_split {a : Nat} {g : Nat → Nat} (n : Nat) : ∀ m, dnum a g (n + m) = dnum (dnum a g n) (fun k => g (n + k)) m
 | 0 => rfl
 | m + 1 => by
  show dnum a g (n + m) * 10 + (g (n + m) - 48) = _
  rw [dnum_split n m]
  rfl
theorem dnum_same {a : Nat} {g g' : Nat → Nat} : ∀ n, (∀ k < n, g k = g' k) → dnum a g n = dnum a g' n
 | 0, _ => rfl
 | n + 1, h => by
  show dnum a g n * 10 + (g n - 48) = dnum a g' n * 10 + (g' n - 48)
  rw [dnum_same n (fun k hk => h k (by omega)), h n (by omega)]
end FP
