/- The 800-digit decimal and the exact ways: plain facts, no program; no condition. -/
import Derived.Test.YtbimfhaokgigkaaGreatDoorT01
import GoSem.PinnedTables
import GoSem.Core.Float
set_option linter.unusedVariables false
set_option linter.unusedSimpArgs false
namespace FP
def num (l : List Nat) : Nat := l.foldl (fun a d => 10 * a + d) 0
theorem num_fold (l : List Nat) (a : Nat) : l.foldl (fun a d => 10 * a + d) a = a * 10 ^ l.length + num l := by
 induction l generalizing a with
 | nil => simp [num]
 | cons d t ih =>
  unfold num
  rw [List.foldl_cons, List.foldl_cons, ih, ih, List.length_cons, Nat.pow_succ]
  grind
theorem num_nil : num [] = 0 := rfl
theorem num_cons (d : Nat) (t : List Nat) : num (d :: t) = d * 10 ^ t.length + num t := by
 have := num_fold t (10 * 0 + d)
 unfold num at *
 rw [List.foldl_cons, this]; simp
theorem num_append (a b : List Nat) : num (a ++ b) = num a * 10 ^ b.length + num b := by
 unfold num
 rw [List.foldl_append]
 exact num_fold b _
theorem num_snoc (a : List Nat) (d : Nat) : num (a ++ [d]) = 10 * num a + d := by
 rw [num_append, num_cons]; simp [num_nil]; omega
theorem num_lt {l : List Nat} (h : ∀ d ∈ l, d < 10) : num l < 10 ^ l.length := by
 induction l with
 | nil => simp [num_nil]
 | cons d t ih =>
  rw [num_cons, List.length_cons, Nat.pow_succ]
  have h1 := ih (fun x hx => h x (by simp [hx]))
  have h2 := h d (by simp)
  have : d * 10 ^ t.length ≤ 9 * 10 ^ t.length := Nat.mul_le_mul_right _ (by omega)
  omega
theorem num_ge {d : Nat} {t : List Nat} (h : 1 ≤ d) : 10 ^ t.length ≤ num (d :: t) := by
 rw [num_cons]
 have : 1 * 10 ^ t.length ≤ d * 10 ^ t.length := Nat.mul_le_mul_right _ h
 omega
theorem num_zero {l : List Nat} (h : ∀ d ∈ l, d = 0) : num l = 0 := by
 induction l with
 | nil => rfl
 | cons d t ih => rw [num_cons, ih (fun x hx => h x (by simp [hx])), h d (by simp)]; simp
def trimZ : List Nat → List Nat
 | [] => []
 | d :: t => if trimZ t = [] ∧ d = 0 then [] else d :: trimZ t
theorem trimZ_num (l : List Nat) : (trimZ l).length ≤ l.length ∧ num l = num (trimZ l) * 10 ^ (l.length - (trimZ l).length) := by
 induction l with
 | nil => simp [trimZ, num_nil]
 | cons d t ih =>
  unfold trimZ
  split
  ·rename_i h
   rw [h.1] at ih
   simp only [num_nil, Nat.zero_mul] at ih ⊢
   rw [num_cons, h.2, ih.2]; simp
  ·obtain ⟨h1, h2⟩ := ih
   refine ⟨by simp; exact h1, ?_⟩
   rw [num_cons, num_cons, h2, List.length_cons, List.length_cons]
   rw [show t.length + 1 - ((trimZ t).length + 1) = t.length - (trimZ t).length by omega]
   have : 10 ^ t.length = 10 ^ (trimZ t).length * 10 ^ (t.length - (trimZ t).length) := by rw [← Nat.pow_add]; congr 1; omega
   rw [this]; grind
theorem trimZ_mem {l : List Nat} {d : Nat} (h : d ∈ trimZ l) : d ∈ l := by
 induction l with
 | nil => simp [trimZ] at h
 | cons e t ih =>
  unfold trimZ at h
  split at h
  ·simp at h
  ·rcases List.mem_cons.mp h with h1 | h1
   ·simp [h1]
   ·simp [ih h1]
def dval (ds : List Nat) (dp : Int) : Rat := (num ds : Rat) * p10 (dp - ds.length)
theorem dval_trim (l : List Nat) (dp : Int) : dval (trimZ l) dp = dval l dp := by
 obtain ⟨h1, h2⟩ := trimZ_num l
 unfold dval
 rw [h2, Rat.natCast_mul, ← p10_nat, Rat.mul_assoc, ← p10_add]
 congr 2
 omega
structure DI (X : Rat) (g t : Int) (ds : List Nat) (dp : Int) (tr : Bool) : Prop where
 le : dval ds dp ≤ X * p2 t
 eq : tr = false → dval ds dp = X * p2 t
 ne : tr = true → dval ds dp ≠ X * p2 t
 grid : ∀ z : Int, (z : Rat) * p2 (g + t) ≤ X * p2 t → (z : Rat) * p2 (g + t) ≤ dval ds dp
def OnGrid (u dp : Int) : Prop := dp ≤ 800 ∧ -u ≤ 800 - dp
theorem OnGrid.mul {u dp : Int} (h : OnGrid u dp) (z : Int) : ∃ m : Int, (z : Rat) * p2 u = (m : Rat) * p10 (dp - 800) := by
 obtain ⟨h1, h2⟩ := h
 refine ⟨z * ((2 ^ (u + (800 - dp)).toNat * 5 ^ (800 - dp).toNat : Nat) : Int), ?_⟩
 rw [Rat.intCast_mul, Rat.intCast_natCast, Rat.natCast_mul, ← p2_nat]
 have e5 : ((5 ^ (800 - dp).toNat : Nat) : Rat) * p2 (800 - dp) = p10 (800 - dp) := by
  have : p2 (800 - dp) = ((2 ^ (800 - dp).toNat : Nat) : Rat) := by rw [← p2_nat]; congr 1; omega
  rw [this, ← Rat.natCast_mul, ← Nat.mul_pow]
  have h10 : p10 (800 - dp) = ((10 ^ (800 - dp).toNat : Nat) : Rat) := by rw [← p10_nat]; congr 1; omega
  rw [h10]
 have e2 : p2 (((u + (800 - dp)).toNat : Nat) : Int) = p2 u * p2 (800 - dp) := by rw [← p2_add]; congr 1; omega
 have e1 : p10 (800 - dp) * p10 (dp - 800) = 1 := by rw [← p10_add, show 800 - dp + (dp - 800) = 0 by omega, p10_zero]
 rw [e2]
 grind
theorem cut_le (L : List Nat) (hL : ∀ d ∈ L, d < 10) (dp : Int) : dval (L.take 800) dp ≤ dval L dp ∧
  (dval (L.take 800) dp = dval L dp ↔ ∀ d ∈ L.drop 800, d = 0) ∧
  ∀ m : Int, (m : Rat) * p10 (dp - 800) ≤ dval L dp → (m : Rat) * p10 (dp - 800) ≤ dval (L.take 800) dp := by
 by_cases hs : L.length ≤ 800
 ·rw [List.take_of_length_le hs, List.drop_of_length_le hs]
  exact ⟨Rat.le_refl, by simp, fun m h => h⟩
 ·have hlen : (L.take 800).length = 800 := by rw [List.length_take]; omega
  have hsplit : num L = num (L.take 800) * 10 ^ (L.drop 800).length + num (L.drop 800) := by
   rw [← num_append, List.take_append_drop]
  have hdl : (L.drop 800).length = L.length - 800 := List.length_drop
  have hlt : num (L.drop 800) < 10 ^ (L.drop 800).length := num_lt (fun d hd => hL d (List.mem_of_mem_drop hd))
  have hp := p10_pos (dp - L.length)
  have hpp : p10 (dp - 800) = ((10 ^ (L.drop 800).length : Nat) : Rat) * p10 (dp - L.length) := by
   rw [← p10_nat, ← p10_add]; congr 1; omega
  have hT : dval (L.take 800) dp = ((num (L.take 800) * 10 ^ (L.drop 800).length : Nat) : Rat) * p10 (dp - L.length) := by
   unfold dval; rw [hlen, Rat.natCast_mul, show ((800 : Nat) : Int) = 800 from rfl, hpp]; grind
  have hLv : dval L dp = ((num (L.take 800) * 10 ^ (L.drop 800).length + num (L.drop 800) : Nat) : Rat) * p10 (dp - L.length) := by
   unfold dval; rw [← hsplit]
  refine ⟨?_, ?_, ?_⟩
  ·rw [hT, hLv]
   exact Rat.mul_le_mul_of_nonneg_right (cast_le (by omega)) (Rat.le_of_lt hp)
  ·constructor
   ·intro h
    rw [hT, hLv] at h
    have h1 : num (L.drop 800) = 0 := by
     have h2 : ((num (L.take 800) * 10 ^ (L.drop 800).length : Nat) : Rat) = ((num (L.take 800) * 10 ^ (L.drop 800).length + num (L.drop 800) : Nat) : Rat) := by
      have := congrArg (· * (p10 (dp - L.length))⁻¹) h
      simp only [Rat.mul_assoc, Rat.mul_inv_cancel _ (Rat.ne_of_gt hp), Rat.mul_one] at this
      exact this
     have := Rat.natCast_inj.mp h2
     omega
    have hz : ∀ l : List Nat, num l = 0 → ∀ d ∈ l, d = 0 := by
     intro l
     induction l with
     | nil => simp
     | cons d t ih =>
      intro h0 x hx
      rw [num_cons] at h0
      have hd0 : d = 0 := by
       rcases Nat.eq_zero_or_pos d with h3 | h3
       ·exact h3
       ·have := Nat.mul_pos h3 (Nat.pow_pos (n := t.length) (show 0 < 10 by omega))
        omega
      rcases List.mem_cons.mp hx with h3 | h3
      ·omega
      ·exact ih (by omega) x h3
    exact hz _ h1
   ·intro h
    rw [hT, hLv, num_zero h, Nat.add_zero]
  ·intro m h
   rw [hpp, hLv] at h
   rw [hpp, hT]
   have h1 : (m : Rat) * ((10 ^ (L.drop 800).length : Nat) : Rat) ≤ ((num (L.take 800) * 10 ^ (L.drop 800).length + num (L.drop 800) : Nat) : Rat) := by
    apply Rat.le_of_mul_le_mul_right (c := p10 (dp - L.length)) _ hp
    grind
   have h2 : m * ((10 ^ (L.drop 800).length : Nat) : Int) ≤ ((num (L.take 800) * 10 ^ (L.drop 800).length + num (L.drop 800) : Nat) : Int) := by
    apply Rat.intCast_le_intCast.mp
    rw [Rat.intCast_mul, Rat.intCast_natCast, Rat.intCast_natCast]; exact h1
   generalize (L.drop 800).length = a at *
   have ha : (0 : Int) < ((10 ^ a : Nat) : Int) := by exact_mod_cast Nat.pow_pos (n := a) (show 0 < 10 by omega)
   have h3 : m ≤ (num (L.take 800) : Int) := by
    by_cases c : m ≤ (num (L.take 800) : Int)
    ·exact c
    ·exfalso
     have h4 : ((num (L.take 800) : Int) + 1) * ((10 ^ a : Nat) : Int) ≤ m * ((10 ^ a : Nat) : Int) := Int.mul_le_mul_of_nonneg_right (by omega) (by omega)
     have h5 : ((num (L.take 800) : Int) + 1) * ((10 ^ a : Nat) : Int) ≤ ((num (L.take 800) * 10 ^ a + num (L.drop 800) : Nat) : Int) := by omega
     have h6 : (num (L.take 800) + 1) * 10 ^ a ≤ num (L.take 800) * 10 ^ a + num (L.drop 800) := by exact_mod_cast h5
     rw [Nat.add_mul] at h6
     omega
   have h7 : (m : Rat) ≤ (num (L.take 800) : Rat) := by
    have := Rat.intCast_le_intCast.mpr h3
    rw [Rat.intCast_natCast] at this; exact this
   rw [Rat.natCast_mul, Rat.mul_assoc]
   exact Rat.mul_le_mul_of_nonneg_right h7 (Rat.mul_nonneg Rat.natCast_nonneg (Rat.le_of_lt hp))
theorem DI.shift {X : Rat} {g t j : Int} {ds L : List Nat} {dp dp' : Int} {tr : Bool} (h : DI X g t ds dp tr) (hL : ∀ d ∈ L, d < 10)
  (hv : dval L dp' = dval ds dp * p2 j) (hg : OnGrid (g + (t + j)) dp') (tr' : Bool) (ht : tr' = (tr || (L.drop 800).any (· ≠ 0))) :
  DI X g (t + j) (trimZ (L.take 800)) dp' tr' := by
 obtain ⟨c1, c2, c3⟩ := cut_le L hL dp'
 have hj := p2_pos j
 have hX : X * p2 (t + j) = X * p2 t * p2 j := by rw [p2_add, Rat.mul_assoc]
 have any_iff : ((L.drop 800).any (· ≠ 0)) = false ↔ ∀ d ∈ L.drop 800, d = 0 := by simp
 have lej := Rat.mul_le_mul_of_nonneg_right h.le (Rat.le_of_lt hj)
 refine ⟨?_, ?_, ?_, ?_⟩
 ·rw [dval_trim, hX]; rw [hv] at c1; grind
 ·intro h0
  rw [ht, Bool.or_eq_false_iff] at h0
  rw [dval_trim, hX, c2.mpr (any_iff.mp h0.2), hv, h.eq h0.1]
 ·intro h0 he
  rw [dval_trim, hX] at he
  rw [hv] at c1
  have e1 : dval (L.take 800) dp' = dval ds dp * p2 j := by grind
  have e2 : dval ds dp * p2 j = X * p2 t * p2 j := by grind
  have e3 : dval ds dp = X * p2 t := by
   have := congrArg (· * (p2 j)⁻¹) e2
   simp only [Rat.mul_assoc, Rat.mul_inv_cancel _ (Rat.ne_of_gt hj), Rat.mul_one] at this
   exact this
  rw [← hv] at e1
  have h5 := any_iff.mpr (c2.mp e1)
  rw [h5, Bool.or_false] at ht
  rw [ht] at h0
  exact h.ne h0 e3
 ·intro z hz
  rw [dval_trim]
  obtain ⟨m, hm⟩ := hg.mul z
  rw [hm]
  apply c3
  rw [← hm, hv]
  have e : (z : Rat) * p2 (g + (t + j)) = (z : Rat) * p2 (g + t) * p2 j := by
   rw [Rat.mul_assoc, ← p2_add]; congr 2; omega
  rw [e] at hz ⊢
  rw [hX] at hz
  exact Rat.mul_le_mul_of_nonneg_right (h.grid z (Rat.le_of_mul_le_mul_right hz hj)) (Rat.le_of_lt hj)
theorem DI.start (X : Rat) (g : Int) (ds : List Nat) (dp : Int) (h : dval ds dp = X) : DI X g 0 ds dp false := by
 have : X * p2 0 = X := by rw [p2_zero, Rat.mul_one]
 refine ⟨by rw [this, h]; exact Rat.le_refl, fun _ => by rw [this, h], (by simp), fun z hz => by rw [this] at hz; rw [h]; exact hz⟩
end FP
namespace FP
def roundUp (ds : List Nat) (dp : Int) (tr : Bool) : Bool :=
 if dp < 0 ∨ (ds.length : Int) ≤ dp then false
 else if ds.getD dp.toNat 0 = 5 ∧ dp.toNat + 1 = ds.length then (if tr then true else decide (0 < dp.toNat) && decide (ds.getD (dp.toNat - 1) 0 % 2 ≠ 0))
 else decide (5 ≤ ds.getD dp.toNat 0)
def rnd (ds : List Nat) (dp : Int) (tr : Bool) : Nat := num (ds.take dp.toNat) * 10 ^ (dp.toNat - ds.length) + (if roundUp ds dp tr then 1 else 0)
def Digs (ds : List Nat) : Prop := (∀ d ∈ ds, d < 10) ∧ ∀ a d, ds = a ++ [d] → d ≠ 0
theorem num_pos_of_last {l : List Nat} (h : ∀ a d, l = a ++ [d] → d ≠ 0) (hne : l ≠ []) : 0 < num l := by
 rcases List.eq_nil_or_concat l with rfl | ⟨a, d, rfl⟩
 ·exact absurd rfl hne
 ·rw [List.concat_eq_append] at *
  rw [num_snoc]
  have := h a d rfl
  omega
theorem half : p2 (-1) = 1 / 2 := by decide +kernel
theorem below_half {X : Rat} {g t : Int} {ds : List Nat} {dp : Int} {tr : Bool} (h : DI X g t ds dp tr) (hg : g + t = -1) (n : Nat) (hn : dval ds dp < (n : Rat) / 2) : X * p2 t < (n : Rat) / 2 := by
 by_cases c : X * p2 t < (n : Rat) / 2
 ·exact c
 ·have h1 := h.grid (n : Int) (by rw [hg, half, Rat.intCast_natCast]; grind)
  rw [hg, half, Rat.intCast_natCast] at h1
  grind
theorem parity_num (a : List Nat) : num a % 2 = a.getD (a.length - 1) 0 % 2 := by
 rcases List.eq_nil_or_concat a with rfl | ⟨b, d, rfl⟩
 ·simp [num_nil]
 ·rw [List.concat_eq_append, num_snoc]
  have : (b ++ [d]).getD ((b ++ [d]).length - 1) 0 = d := by simp
  rw [this]; omega
theorem rnd_RH {X : Rat} {g t : Int} {ds : List Nat} {dp : Int} {tr : Bool} (h : DI X g t ds dp tr) (hg : g + t = -1) (hd : Digs ds) : RH (X * p2 t) (rnd ds dp tr) := by
 have key := fun n hn => below_half h hg n hn
 have hle := h.le
 have c2 : ((2 : Nat) : Rat) = 2 := rfl
 have done : ∀ n : Nat, (n : Rat) ≤ X * p2 t → dval ds dp < (n : Rat) + 1 / 2 → RH (X * p2 t) n := by
  intro n h1 h2
  have h3 := key (2 * n + 1) (by rw [cast_succ, Rat.natCast_mul, c2]; grind)
  rw [cast_succ, Rat.natCast_mul, c2] at h3
  exact ⟨.inl (by grind), .inl (by grind)⟩
 have done1 : ∀ n : Nat, (n : Rat) + 1 / 2 < X * p2 t → dval ds dp < (n : Rat) + 1 → RH (X * p2 t) (n + 1) := by
  intro n h1 h2
  have h3 := key (2 * n + 3) (by rw [Rat.natCast_add, Rat.natCast_mul, c2, show ((3 : Nat) : Rat) = 3 from rfl]; grind)
  rw [Rat.natCast_add, Rat.natCast_mul, c2, show ((3 : Nat) : Rat) = 3 from rfl] at h3
  refine ⟨.inl ?_, .inl ?_⟩ <;> rw [cast_succ] <;> grind
 unfold rnd
 by_cases cneg : dp < 0
 ·have hru : roundUp ds dp tr = false := by unfold roundUp; rw [if_pos (.inl cneg)]
  rw [hru, show dp.toNat = 0 by omega]
  simp only [List.take_zero, num_nil, Nat.zero_mul, Bool.false_eq_true, if_false, Nat.add_zero]
  have hS : dval ds dp < 1 / 2 := by
   unfold dval
   have h1 := cast_lt (num_lt hd.1)
   have h2 := Rat.mul_lt_mul_of_pos_right h1 (p10_pos (dp - ds.length))
   rw [← p10_nat, ← p10_add, show (ds.length : Int) + (dp - ds.length) = dp by omega] at h2
   have h3 : p10 dp ≤ p10 (-1) := by
    have : p10 (-1) = p10 dp * p10 (((-1 - dp).toNat : Nat) : Int) := by rw [← p10_add]; congr 1; omega
    rw [this, p10_nat]
    have h4 : (1 : Rat) ≤ ((10 ^ (-1 - dp).toNat : Nat) : Rat) := cast_le (Nat.pow_pos (by omega))
    have := Rat.mul_le_mul_of_nonneg_left h4 (Rat.le_of_lt (p10_pos dp))
    grind
   have h5 : p10 (-1) < 1 / 2 := by decide +kernel
   grind
  have hS0 : 0 ≤ dval ds dp := Rat.mul_nonneg Rat.natCast_nonneg (Rat.le_of_lt (p10_pos _))
  refine done 0 ?_ ?_ <;> rw [show ((0 : Nat) : Rat) = 0 from rfl] <;> grind
 ·obtain ⟨i, rfl⟩ : ∃ i : Nat, dp = i := ⟨dp.toNat, by omega⟩
  rw [show ((i : Int)).toNat = i from rfl]
  by_cases cbig : ds.length ≤ i
  ·have hru : roundUp ds (i : Int) tr = false := by unfold roundUp; rw [if_pos (.inr (by omega))]
   rw [hru, List.take_of_length_le cbig]
   simp only [Bool.false_eq_true, if_false, Nat.add_zero]
   have hS : dval ds (i : Int) = ((num ds * 10 ^ (i - ds.length) : Nat) : Rat) := by
    unfold dval
    rw [Rat.natCast_mul, ← p10_nat]
    congr 2; omega
   rw [hS] at hle
   exact done _ hle (by rw [hS]; grind)
  ·
   obtain ⟨A, d, B, hds, hA⟩ : ∃ A d B, ds = A ++ d :: B ∧ A.length = i := by
    refine ⟨ds.take i, ds[i]'(by omega), ds.drop (i + 1), ?_, by rw [List.length_take]; omega⟩
    rw [← List.drop_eq_getElem_cons, List.take_append_drop]
   subst hds
   have hlen : (A ++ d :: B).length = i + B.length + 1 := by simp; omega
   have hget : (A ++ d :: B).getD i 0 = d := by simp [List.getD_eq_getElem?_getD, hA]
   have htake : (A ++ d :: B).take i = A := by rw [← hA]; simp
   have hzero : i - (A ++ d :: B).length = 0 := by omega
   rw [htake, hzero, Nat.pow_zero, Nat.mul_one]
   have hd10 : d < 10 := hd.1 d (by simp)
   have hB10 : num B < 10 ^ B.length := num_lt (fun x hx => hd.1 x (by simp [hx]))
   have hS : dval (A ++ d :: B) (i : Int) * ((10 ^ (B.length + 1) : Nat) : Rat) = ((num A * 10 ^ (B.length + 1) + d * 10 ^ B.length + num B : Nat) : Rat) := by
    unfold dval
    rw [num_append, num_cons, Rat.mul_assoc, ← p10_nat, ← p10_add, hlen]
    rw [show (i : Int) - ((i + B.length + 1 : Nat) : Int) + ((B.length + 1 : Nat) : Int) = 0 by omega, p10_zero, Rat.mul_one]
    congr 1
    simp; omega
   have hpw : 10 ^ (B.length + 1) = 10 * 10 ^ B.length := by rw [Nat.pow_succ]; omega
   have hb0 : 0 < 10 ^ B.length := Nat.pow_pos (by omega)
   rw [hpw] at hS
   generalize hbb : 10 ^ B.length = b at *
   have hbr : (0 : Rat) < (b : Rat) := Rat.natCast_pos.mpr hb0
   generalize hSv : dval (A ++ d :: B) (i : Int) = S at *
   simp only [Rat.natCast_add, Rat.natCast_mul, show ((10 : Nat) : Rat) = 10 from rfl] at hS
   have hBr : (num B : Rat) < (b : Rat) := cast_lt hB10
   have hB0 : (0 : Rat) ≤ (num B : Rat) := Rat.natCast_nonneg
   have hd0 : (0 : Rat) ≤ (d : Rat) := Rat.natCast_nonneg
   have hbd : (0 : Rat) ≤ (d : Rat) * (b : Rat) := Rat.mul_nonneg hd0 (Rat.le_of_lt hbr)
   have slt : ∀ c : Rat, S * (10 * (b : Rat)) < c * (10 * (b : Rat)) → S < c := fun c hc => Rat.lt_of_mul_lt_mul_right hc (by grind)
   have sgt : ∀ c : Rat, c * (10 * (b : Rat)) < S * (10 * (b : Rat)) → c < S := fun c hc => Rat.lt_of_mul_lt_mul_right hc (by grind)
   have sle : (num A : Rat) ≤ S := by
    apply Rat.le_of_mul_le_mul_right (c := 10 * (b : Rat)) _ (by grind)
    rw [hS]; grind
   have s1 : S < (num A : Rat) + 1 := by
    apply slt
    rw [hS]
    have : (d : Rat) * (b : Rat) ≤ 9 * (b : Rat) := Rat.mul_le_mul_of_nonneg_right (by have := cast_le (show d ≤ 9 by omega); exact this) (Rat.le_of_lt hbr)
    grind
   have hnotif : ¬ (((i : Int) < 0) ∨ (((A ++ d :: B).length : Nat) : Int) ≤ (i : Int)) := by rw [hlen]; omega
   have hru : roundUp (A ++ d :: B) (i : Int) tr = if d = 5 ∧ B = [] then (if tr then true else decide (0 < i) && decide ((A ++ d :: B).getD (i - 1) 0 % 2 ≠ 0)) else decide (5 ≤ d) := by
    unfold roundUp
    rw [if_neg hnotif, show ((i : Int)).toNat = i from rfl, hget]
    have : (i + 1 = (A ++ d :: B).length) ↔ B = [] := by
     rw [hlen, ← List.length_eq_zero_iff]; omega
    simp only [this]
   rw [hru]
   by_cases ch : d = 5 ∧ B = []
   ·rw [if_pos ch]
    obtain ⟨rfl, rfl⟩ := ch
    have hb1 : b = 1 := by rw [← hbb]; rfl
    have hSe : S = (num A : Rat) + 1 / 2 := by
     subst hb1
     simp only [num_nil, show ((0 : Nat) : Rat) = 0 from rfl, show ((1 : Nat) : Rat) = 1 from rfl, show ((5 : Nat) : Rat) = 5 from rfl] at hS
     grind
    cases tr with
    | true =>
     simp only [if_true]
     have hne := h.ne rfl
     exact done1 _ (by rw [hSv] at hne; grind) s1
    | false =>
     simp only [Bool.false_eq_true, if_false]
     have heq := h.eq rfl
     rw [hSv] at heq
     have hpar : (decide (0 < i) && decide ((A ++ [5]).getD (i - 1) 0 % 2 ≠ 0)) = decide (num A % 2 = 1) := by
      have hp := parity_num A
      rw [hA] at hp
      by_cases ci : 0 < i
      ·have hg2 : (A ++ [5]).getD (i - 1) 0 = A.getD (i - 1) 0 := by
        simp [List.getD_eq_getElem?_getD, List.getElem?_append_left (show i - 1 < A.length by omega)]
       have h1 : decide (A.getD (i - 1) 0 % 2 ≠ 0) = decide (num A % 2 = 1) := by rw [decide_eq_decide]; omega
       rw [hg2, h1, decide_eq_true ci, Bool.true_and]
      ·have : A = [] := by rw [← List.length_eq_zero_iff]; omega
       subst this
       simp [ci, num_nil]
     rw [hpar]
     by_cases co : num A % 2 = 1
     ·simp only [co, decide_true, if_true]
      refine ⟨.inl ?_, .inr ⟨?_, by omega⟩⟩ <;> rw [cast_succ] <;> grind
     ·simp only [co, decide_false, Bool.false_eq_true, if_false, Nat.add_zero]
      exact ⟨.inr ⟨by grind, by omega⟩, .inl (by grind)⟩
   ·rw [if_neg ch]
    by_cases c5 : 5 ≤ d
    ·simp only [c5, decide_true, if_true]
     refine done1 _ ?_ s1
     have : (num A : Rat) + 1 / 2 < S := by
      apply sgt
      rw [hS]
      by_cases c6 : d = 5
      ·have hBne : B ≠ [] := fun e => ch ⟨c6, e⟩
       have hBp : 0 < num B := num_pos_of_last (fun a x hx => hd.2 (A ++ d :: a) x (by rw [hx]; simp)) hBne
       have : (0 : Rat) < (num B : Rat) := Rat.natCast_pos.mpr hBp
       subst c6
       rw [show ((5 : Nat) : Rat) = 5 from rfl]
       grind
      ·have h6 : (6 : Rat) * (b : Rat) ≤ (d : Rat) * (b : Rat) := Rat.mul_le_mul_of_nonneg_right (by have := cast_le (show 6 ≤ d by omega); exact this) (Rat.le_of_lt hbr)
       grind
     grind
    ·simp only [c5, decide_false, Bool.false_eq_true, if_false, Nat.add_zero]
     refine done _ (by grind) ?_
     apply slt
     rw [hS]
     have h4 : (d : Rat) * (b : Rat) ≤ 4 * (b : Rat) := Rat.mul_le_mul_of_nonneg_right (by have := cast_le (show d ≤ 4 by omega); exact this) (Rat.le_of_lt hbr)
     grind
end FP
namespace FP
def lmul (M : Nat) : List Nat → Nat × List Nat
 | [] => (0, [])
 | d :: t => (((lmul M t).1 + d * M) / 10, ((lmul M t).1 + d * M) % 10 :: (lmul M t).2)
theorem lmul_len (M : Nat) (ds : List Nat) : (lmul M ds).2.length = ds.length := by
 induction ds with
 | nil => rfl
 | cons d t ih => simp [lmul, ih]
theorem lmul_lt (M : Nat) (ds : List Nat) : ∀ d ∈ (lmul M ds).2, d < 10 := by
 induction ds with
 | nil => simp [lmul]
 | cons d t ih =>
  intro x hx
  simp only [lmul, List.mem_cons] at hx
  rcases hx with h | h
  ·rw [h]; exact Nat.mod_lt _ (by omega)
  ·exact ih x h
theorem lmul_num (M : Nat) (ds : List Nat) : num ds * M = (lmul M ds).1 * 10 ^ ds.length + num (lmul M ds).2 := by
 induction ds with
 | nil => simp [lmul, num_nil]
 | cons d t ih =>
  simp only [lmul]
  rw [num_cons, num_cons, lmul_len, List.length_cons, Nat.pow_succ]
  have := Nat.div_add_mod ((lmul M t).1 + d * M) 10
  generalize ((lmul M t).1 + d * M) / 10 = a at *
  generalize ((lmul M t).1 + d * M) % 10 = b at *
  grind
theorem lmul_carry (M : Nat) (ds : List Nat) : (lmul M ds).1 = num ds * M / 10 ^ ds.length := by
 have h1 := lmul_num M ds
 have h2 := num_lt (lmul_lt M ds)
 rw [lmul_len] at h2
 have hp : 0 < 10 ^ ds.length := Nat.pow_pos (by omega)
 rw [h1, Nat.add_comm, Nat.mul_comm, Nat.add_mul_div_left _ _ hp, Nat.div_eq_of_lt h2, Nat.zero_add]
def digs (n : Nat) : List Nat := if _h : n = 0 then [] else digs (n / 10) ++ [n % 10]
decreasing_by omega
theorem digs_zero : digs 0 = [] := by unfold digs; simp
theorem digs_pos {n : Nat} (h : n ≠ 0) : digs n = digs (n / 10) ++ [n % 10] := by conv => lhs; unfold digs; rw [dif_neg h]
theorem digs_num (n : Nat) : num (digs n) = n := by
 induction n using Nat.strongRecOn with
 | _ n ih =>
  by_cases h : n = 0
  ·subst h; rw [digs_zero]; rfl
  ·rw [digs_pos h, num_snoc, ih (n / 10) (by omega)]; omega
theorem digs_lt (n : Nat) : ∀ d ∈ digs n, d < 10 := by
 induction n using Nat.strongRecOn with
 | _ n ih =>
  by_cases h : n = 0
  ·subst h; rw [digs_zero]; simp
  ·rw [digs_pos h]
   intro d hd
   rcases List.mem_append.mp hd with h1 | h1
   ·exact ih (n / 10) (by omega) d h1
   ·simp at h1; omega
theorem digs_head (n : Nat) (h : n ≠ 0) : ∃ d t, digs n = d :: t ∧ 1 ≤ d := by
 induction n using Nat.strongRecOn with
 | _ n ih =>
  rw [digs_pos h]
  by_cases h2 : n / 10 = 0
  ·rw [h2, digs_zero]; exact ⟨n % 10, [], by simp, by omega⟩
  ·obtain ⟨d, t, h3, h4⟩ := ih (n / 10) (by omega) h2
   exact ⟨d, t ++ [n % 10], by rw [h3]; simp, h4⟩
theorem digs_len {n e : Nat} (h1 : n < 10 ^ e) (h2 : e = 0 ∨ 10 ^ (e - 1) ≤ n) : (digs n).length = e := by
 have a := digs_num n
 have b := num_lt (digs_lt n)
 rw [a] at b
 by_cases hn : n = 0
 ·subst hn
  rw [digs_zero]
  rcases h2 with h2 | h2
  ·simp [h2]
  ·have := Nat.pow_pos (n := e - 1) (show 0 < 10 by omega); omega
 ·obtain ⟨d, t, h3, h4⟩ := digs_head n hn
  have c := num_ge (t := t) h4
  rw [← h3, a] at c
  have hl : (digs n).length = t.length + 1 := by rw [h3]; rfl
  rw [hl] at b ⊢
  have c1 : t.length < e := (Nat.pow_lt_pow_iff_right (show 1 < 10 by omega)).mp (Nat.lt_of_le_of_lt c h1)
  have c2 : e - 1 < t.length + 1 := by
   rcases h2 with h2 | h2
   ·omega
   ·exact (Nat.pow_lt_pow_iff_right (show 1 < 10 by omega)).mp (Nat.lt_of_le_of_lt h2 b)
  omega
def pless : List Nat → List Nat → Bool
 | _, [] => false
 | [], _ :: _ => true
 | d :: t, c :: cs => if d ≠ c then decide (d < c) else pless t cs
theorem pless_iff : ∀ (ds cs : List Nat), (∀ d ∈ ds, d < 10) → (∀ c ∈ cs, c < 10) → (∀ a d, cs = a ++ [d] → d ≠ 0) →
  (pless ds cs = true ↔ num ds * 10 ^ cs.length < num cs * 10 ^ ds.length)
 | ds, [], _, _, _ => by simp [pless, num_nil]
 | [], c :: cs, _, _, hl => by
  have : 0 < num (c :: cs) := by
   rcases List.eq_nil_or_concat (c :: cs) with h | ⟨a, d, h⟩
   ·simp at h
   ·rw [List.concat_eq_append] at h
    rw [h, num_snoc]; have := hl a d h; omega
  simp [pless, num_nil]; omega
 | d :: t, c :: cs, hd, hc, hl => by
  have ht := num_lt (fun x hx => hd x (List.mem_cons_of_mem _ hx))
  have hcs := num_lt (fun x hx => hc x (List.mem_cons_of_mem _ hx))
  have ih := pless_iff t cs (fun x hx => hd x (List.mem_cons_of_mem _ hx)) (fun x hx => hc x (List.mem_cons_of_mem _ hx)) (fun a x h => hl (c :: a) x (by rw [h]; simp))
  unfold pless
  rw [num_cons, num_cons, List.length_cons, List.length_cons, Nat.pow_succ, Nat.pow_succ]
  have ha : 0 < 10 ^ t.length := Nat.pow_pos (by omega)
  have hb : 0 < 10 ^ cs.length := Nat.pow_pos (by omega)
  generalize 10 ^ t.length = A at *
  generalize 10 ^ cs.length = B at *
  generalize num t = x at *
  generalize num cs = y at *
  by_cases e : d ≠ c
  ·rw [if_pos e]
   by_cases l : d < c
   ·simp only [l, decide_true, true_iff]
    have h1 : (d * A + x) * (B * 10) < (d + 1) * A * (B * 10) := Nat.mul_lt_mul_of_pos_right (by grind) (by omega)
    have h2 : (d + 1) * A * (B * 10) ≤ c * A * (B * 10) := Nat.mul_le_mul_right _ (Nat.mul_le_mul_right _ l)
    have h3 : c * A * (B * 10) = c * B * (A * 10) := by grind
    have h4 : c * B * (A * 10) ≤ (c * B + y) * (A * 10) := Nat.mul_le_mul_right _ (by omega)
    omega
   ·simp only [l, decide_false, Bool.false_eq_true, false_iff]
    have h1 : (c * B + y) * (A * 10) < (c + 1) * B * (A * 10) := Nat.mul_lt_mul_of_pos_right (by grind) (by omega)
    have h2 : (c + 1) * B * (A * 10) ≤ d * B * (A * 10) := Nat.mul_le_mul_right _ (Nat.mul_le_mul_right _ (by omega))
    have h3 : d * B * (A * 10) = d * A * (B * 10) := by grind
    have h4 : d * A * (B * 10) ≤ (d * A + x) * (B * 10) := Nat.mul_le_mul_right _ (by omega)
    omega
  ·rw [if_neg e]
   have e' : d = c := by omega
   subst e'
   rw [ih]
   have h1 : (d * A + x) * (B * 10) = 10 * (d * A * B) + 10 * (x * B) := by grind
   have h2 : (d * B + y) * (A * 10) = 10 * (d * A * B) + 10 * (y * A) := by grind
   rw [h1, h2]; omega
def cheatOk (k : Nat) (delta : Nat) (cs : List Nat) : Bool :=
 decide (num cs = 5 ^ k) && (decide (1 ≤ delta ∧ cs.length + delta = k + 1) && (decide (10 ^ (delta - 1) ≤ 2 ^ k ∧ 2 ^ k < 10 ^ delta) &&
  (cs.all (· < 10) && decide (cs.getLast? ≠ some 0))))
def letters (l : List UInt8) : List Nat := l.map fun c => c.toNat - 48
def cheatsOk : Nat → List (Nat × List UInt8) → Bool
 | _, [] => true
 | k, (d, s) :: t => (if k = 0 then true else cheatOk k d (letters s) && s.all (fun c => 48 ≤ c && c ≤ 57)) && cheatsOk (k + 1) t
set_option maxRecDepth 100000 in
theorem cheats_ok : cheatsOk 0 Go.Pinned.cheatRows = true := by decide +kernel
theorem cheats_len : Go.Pinned.cheatRows.length = 61 := by decide +kernel
structure Cheat (k delta : Nat) (cs : List Nat) : Prop where
 num : num cs = 5 ^ k
 d1 : 1 ≤ delta
 len : cs.length + delta = k + 1
 lo : 10 ^ (delta - 1) ≤ 2 ^ k
 hi : 2 ^ k < 10 ^ delta
 dig : ∀ c ∈ cs, c < 10
 last : ∀ a d, cs = a ++ [d] → d ≠ 0
theorem cheatsOk_get : ∀ (l : List (Nat × List UInt8)) (b i : Nat), cheatsOk b l = true → ∀ x, l[i]? = some x → 1 ≤ b + i → Cheat (b + i) x.1 (letters x.2) ∧ ∀ c ∈ x.2, 48 ≤ c ∧ c ≤ 57
 | [], _, _, _, _, h, _ => by simp at h
 | (d, s) :: t, b, 0, h, x, hx, h1 => by
  simp at hx; subst hx
  unfold cheatsOk at h
  rw [if_neg (by omega)] at h
  simp only [Bool.and_eq_true, cheatOk, decide_eq_true_eq, List.all_eq_true] at h
  obtain ⟨⟨⟨a1, a2, a3, a4, a5⟩, a6⟩, _⟩ := h
  refine ⟨⟨a1, a2.1, a2.2, a3.1, a3.2, a4, ?_⟩, fun c hc => by have := a6 c hc; simpa using this⟩
  intro a d hd e
  subst e
  apply a5
  rw [hd]; simp
 | (d, s) :: t, b, i + 1, h, x, hx, h1 => by
  unfold cheatsOk at h
  simp only [Bool.and_eq_true] at h
  have := cheatsOk_get t (b + 1) i h.2 x (by simpa using hx) (by omega)
  rw [show b + (i + 1) = b + 1 + i by omega]
  exact this
theorem left_len {k delta : Nat} {cs ds : List Nat} (h : Cheat k delta cs) (hd : ∀ d ∈ ds, d < 10) (h0 : 10 ^ (ds.length - 1) ≤ num ds) (hne : ds ≠ []) :
  (digs (lmul (2 ^ k) ds).1).length = if pless ds cs then delta - 1 else delta := by
 have hp : 0 < 10 ^ ds.length := Nat.pow_pos (by omega)
 have hlen : 1 ≤ ds.length := by cases ds; exact absurd rfl hne; simp
 have hlt := num_lt hd
 rw [lmul_carry]
 have iff := pless_iff ds cs hd h.dig h.last
 rw [h.num] at iff
 have ten : 10 ^ k = 2 ^ k * 5 ^ k := by rw [← Nat.mul_pow]
 have split : 10 ^ cs.length * 10 ^ (delta - 1) = 10 ^ k := by rw [← Nat.pow_add]; congr 1; have := h.len; have := h.d1; omega
 have up : num ds * 2 ^ k / 10 ^ ds.length < 10 ^ delta := by
  rw [Nat.div_lt_iff_lt_mul hp]
  have h1 : num ds * 2 ^ k ≤ 10 ^ ds.length * 2 ^ k := Nat.mul_le_mul_right _ (Nat.le_of_lt hlt)
  have h2 : 10 ^ ds.length * 2 ^ k < 10 ^ ds.length * 10 ^ delta := Nat.mul_lt_mul_of_pos_left h.hi hp
  grind
 have hpc : 0 < 10 ^ cs.length := Nat.pow_pos (by omega)
 by_cases c : pless ds cs = true
 ·rw [if_pos c]
  have lt := iff.mp c
  apply digs_len
  ·rw [Nat.div_lt_iff_lt_mul hp]
   have h1 : num ds * 10 ^ cs.length * 2 ^ k < 5 ^ k * 10 ^ ds.length * 2 ^ k := Nat.mul_lt_mul_of_pos_right lt (Nat.two_pow_pos k)
   have h2 : 5 ^ k * 10 ^ ds.length * 2 ^ k = 10 ^ cs.length * (10 ^ (delta - 1) * 10 ^ ds.length) := by
    rw [← Nat.mul_assoc, split, ten]; grind
   have h3 : num ds * 10 ^ cs.length * 2 ^ k = 10 ^ cs.length * (num ds * 2 ^ k) := by grind
   rw [h2, h3] at h1
   exact Nat.lt_of_mul_lt_mul_left h1
  ·by_cases d1 : delta = 1
   ·left; omega
   ·right
    rw [Nat.le_div_iff_mul_le hp]
    have h1 : 10 ^ (ds.length - 1) * 2 ^ k ≤ num ds * 2 ^ k := Nat.mul_le_mul_right _ h0
    have h2 : 10 ^ (ds.length - 1) * 10 ^ (delta - 1) ≤ 10 ^ (ds.length - 1) * 2 ^ k := Nat.mul_le_mul_left _ h.lo
    have h3 : 10 ^ (delta - 1 - 1) * 10 ^ ds.length = 10 ^ (ds.length - 1) * 10 ^ (delta - 1) := by
     rw [← Nat.pow_add, ← Nat.pow_add]; congr 1; have := h.d1; omega
    omega
 ·have c' : pless ds cs = false := by simpa using c
  rw [c']
  simp only [Bool.false_eq_true, if_false]
  have ge : 5 ^ k * 10 ^ ds.length ≤ num ds * 10 ^ cs.length := by
   rcases Nat.lt_or_ge (num ds * 10 ^ cs.length) (5 ^ k * 10 ^ ds.length) with h1 | h1
   ·exact absurd (iff.mpr h1) c
   ·exact h1
  apply digs_len up
  right
  rw [Nat.le_div_iff_mul_le hp]
  have h1 : 5 ^ k * 10 ^ ds.length * 2 ^ k ≤ num ds * 10 ^ cs.length * 2 ^ k := Nat.mul_le_mul_right _ ge
  have h2 : 5 ^ k * 10 ^ ds.length * 2 ^ k = 10 ^ cs.length * (10 ^ (delta - 1) * 10 ^ ds.length) := by
   rw [← Nat.mul_assoc, split, ten]; grind
  have h3 : num ds * 10 ^ cs.length * 2 ^ k = 10 ^ cs.length * (num ds * 2 ^ k) := by grind
  rw [h2, h3] at h1
  exact Nat.le_of_mul_le_mul_left h1 hpc
def leftD (k : Nat) (ds : List Nat) : List Nat := digs (lmul (2 ^ k) ds).1 ++ (lmul (2 ^ k) ds).2
theorem leftD_lt (k : Nat) (ds : List Nat) : ∀ d ∈ leftD k ds, d < 10 := by
 intro d hd
 rcases List.mem_append.mp hd with h | h
 ·exact digs_lt _ d h
 ·exact lmul_lt _ _ d h
theorem leftD_num (k : Nat) (ds : List Nat) : num (leftD k ds) = num ds * 2 ^ k := by
 unfold leftD
 rw [num_append, digs_num, lmul_len, lmul_num]
theorem leftD_val (k : Nat) (ds : List Nat) (dp : Int) : dval (leftD k ds) (dp + (digs (lmul (2 ^ k) ds).1).length) = dval ds dp * p2 (k : Int) := by
 unfold dval
 rw [leftD_num, Rat.natCast_mul, ← p2_nat]
 have : (leftD k ds).length = (digs (lmul (2 ^ k) ds).1).length + ds.length := by unfold leftD; rw [List.length_append, lmul_len]
 rw [this, show dp + ((digs (lmul (2 ^ k) ds).1).length : Int) - (((digs (lmul (2 ^ k) ds).1).length + ds.length : Nat) : Int) = dp - ds.length by omega]
 grind
end FP
namespace FP
def padUp (M : Nat) : Nat → Nat → Nat → Nat × Nat
 | 0, n, r => (n, r)
 | f + 1, n, r => if n < M then padUp M f (10 * n) (r + 1) else (n, r)
def takeUp (M : Nat) : List Nat → Nat → Nat → Nat × List Nat × Nat
 | c :: t, n, r => if n < M then takeUp M t (10 * n + c) (r + 1) else (n, c :: t, r)
 | [], n, r => ((padUp M M n r).1, [], (padUp M M n r).2)
theorem padUp_ok {M : Nat} : ∀ (f n r : Nat), 1 ≤ n → M ≤ n + f → n < 10 * M → ∃ z, (padUp M f n r).1 = n * 10 ^ z ∧ (padUp M f n r).2 = r + z ∧ M ≤ (padUp M f n r).1 ∧ (padUp M f n r).1 < 10 * M
 | 0, n, r, h1, h2, h3 => ⟨0, by simp [padUp], by simp [padUp], by simp [padUp]; omega, by simpa [padUp] using h3⟩
 | f + 1, n, r, h1, h2, h3 => by
  unfold padUp
  by_cases c : n < M
  ·rw [if_pos c]
   obtain ⟨z, a, b, d, e⟩ := padUp_ok (M := M) f (10 * n) (r + 1) (by omega) (by omega) (by omega)
   exact ⟨z + 1, by rw [a, Nat.pow_succ]; grind, by rw [b]; omega, d, e⟩
  ·rw [if_neg c]
   exact ⟨0, by simp, by simp, by omega, h3⟩
theorem takeUp_ok {M : Nat} : ∀ (l : List Nat) (n r : Nat), (∀ d ∈ l, d < 10) → n < 10 * M → 1 ≤ n * 10 ^ l.length + num l →
  ∃ z, (takeUp M l n r).1 * 10 ^ (takeUp M l n r).2.1.length + num (takeUp M l n r).2.1 = (n * 10 ^ l.length + num l) * 10 ^ z ∧
   (takeUp M l n r).2.2 + (takeUp M l n r).2.1.length = r + l.length + z ∧ (z = 0 ∨ (takeUp M l n r).2.1 = []) ∧
   M ≤ (takeUp M l n r).1 ∧ (takeUp M l n r).1 < 10 * M ∧ (∀ d ∈ (takeUp M l n r).2.1, d < 10)
 | [], n, r, _, h2, h3 => by
  simp only [List.length_nil, Nat.pow_zero, Nat.mul_one, num_nil, Nat.add_zero] at h3
  obtain ⟨z, a, b, d, e⟩ := padUp_ok M n r h3 (by omega) h2
  refine ⟨z, ?_, ?_, .inr rfl, d, e, by simp [takeUp]⟩
  ·simp only [takeUp, List.length_nil, Nat.pow_zero, Nat.mul_one, num_nil, Nat.add_zero]; exact a
  ·simp only [takeUp, List.length_nil, Nat.add_zero]; omega
 | c :: t, n, r, h1, h2, h3 => by
  unfold takeUp
  by_cases cm : n < M
  ·rw [if_pos cm]
   have hc := h1 c (by simp)
   have e0 : n * 10 ^ (c :: t).length + num (c :: t) = (10 * n + c) * 10 ^ t.length + num t := by
    rw [num_cons, List.length_cons, Nat.pow_succ]; grind
   obtain ⟨z, a, b, d, e, f, g⟩ := takeUp_ok (M := M) t (10 * n + c) (r + 1) (fun x hx => h1 x (by simp [hx])) (by omega) (by rw [← e0]; exact h3)
   refine ⟨z, by rw [a, e0], by rw [b, List.length_cons]; omega, d, e, f, g⟩
  ·rw [if_neg cm]
   exact ⟨0, by simp, by simp, .inl rfl, by omega, h2, h1⟩
def rdiv (M : Nat) : List Nat → Nat → List Nat × Nat
 | [], n => ([], n)
 | c :: t, n => (n / M :: (rdiv M t (n % M * 10 + c)).1, (rdiv M t (n % M * 10 + c)).2)
def rfin (M : Nat) : Nat → Nat → List Nat
 | 0, _ => []
 | f + 1, n => if n = 0 then [] else n / M :: rfin M f (n % M * 10)
theorem rdiv_len (M : Nat) : ∀ (l : List Nat) (n : Nat), (rdiv M l n).1.length = l.length
 | [], _ => rfl
 | c :: t, n => by simp [rdiv, rdiv_len M t]
theorem rdiv_ok {M : Nat} (hM : 0 < M) : ∀ (l : List Nat) (n : Nat), (∀ d ∈ l, d < 10) → n < 10 * M →
  n * 10 ^ l.length + num l = 10 * M * num (rdiv M l n).1 + (rdiv M l n).2 ∧ (∀ d ∈ (rdiv M l n).1, d < 10) ∧ (rdiv M l n).2 < 10 * M
 | [], n, _, h => by simp [rdiv, num_nil, h]
 | c :: t, n, h1, h2 => by
  have hc := h1 c (by simp)
  have hm := Nat.mod_lt n hM
  have hdm := Nat.div_add_mod n M
  obtain ⟨a, b, d⟩ := rdiv_ok hM t (n % M * 10 + c) (fun x hx => h1 x (by simp [hx])) (by omega)
  simp only [rdiv]
  refine ⟨?_, ?_, d⟩
  ·rw [num_cons, num_cons, rdiv_len, List.length_cons, Nat.pow_succ]
   generalize (rdiv M t (n % M * 10 + c)).1 = o at *
   generalize (rdiv M t (n % M * 10 + c)).2 = q at *
   generalize n % M = x at *
   generalize n / M = y at *
   generalize 10 ^ t.length = A at *
   subst hdm
   have : (M * y + x) * (A * 10) + (c * A + num t) = 10 * M * (y * A) + ((x * 10 + c) * A + num t) := by grind
   rw [this, a]; grind
  ·intro x hx
   rcases List.mem_cons.mp hx with h | h
   ·rw [h, Nat.div_lt_iff_lt_mul hM]; exact h2
   ·exact b x h
theorem rfin_ok {k : Nat} : ∀ (f e n : Nat), k + 1 ≤ f + e → e ≤ k → 2 ^ e ∣ n → n < 10 * 2 ^ k →
  n * 10 ^ (rfin (2 ^ k) f n).length = 10 * 2 ^ k * num (rfin (2 ^ k) f n) ∧ (∀ d ∈ rfin (2 ^ k) f n, d < 10)
 | 0, e, n, h1, h2, _, _ => by omega
 | f + 1, e, n, h1, h2, h3, h4 => by
  unfold rfin
  by_cases c : n = 0
  ·rw [if_pos c]; simp [c, num_nil]
  ·rw [if_neg c]
   have hM := Nat.two_pow_pos k
   have hm := Nat.mod_lt n hM
   have hdm := Nat.div_add_mod n (2 ^ k)
   have hdv : 2 ^ e ∣ n % 2 ^ k := (Nat.dvd_mod_iff (Nat.pow_dvd_pow 2 h2)).mpr h3
   have hdl : n / 2 ^ k < 10 := by rw [Nat.div_lt_iff_lt_mul hM]; exact h4
   by_cases ek : e = k
   ·
    have h0 : n % 2 ^ k = 0 := by rw [ek] at h3; exact Nat.mod_eq_zero_of_dvd h3
    rw [h0, Nat.zero_mul]
    have hr : rfin (2 ^ k) f 0 = [] := by cases f <;> simp [rfin]
    rw [hr]
    rw [h0, Nat.add_zero] at hdm
    refine ⟨?_, by simp; exact hdl⟩
    simp only [List.length_cons, List.length_nil, num_cons, num_nil, Nat.pow_zero, Nat.mul_one, Nat.add_zero, Nat.zero_add, Nat.pow_one]
    generalize n / 2 ^ k = y at *
    rw [← hdm]; grind
   ·obtain ⟨a, b⟩ := rfin_ok (k := k) f (e + 1) (n % 2 ^ k * 10) (by omega) (by omega) (by
     obtain ⟨q, hq⟩ := hdv
     exact ⟨q * 5, by rw [hq, Nat.pow_succ]; grind⟩) (by omega)
    refine ⟨?_, ?_⟩
    ·rw [num_cons, List.length_cons, Nat.pow_succ]
     generalize rfin (2 ^ k) f (n % 2 ^ k * 10) = o at *
     generalize n % 2 ^ k = x at *
     generalize n / 2 ^ k = y at *
     generalize 2 ^ k = M at *
     subst hdm
     have : (M * y + x) * (10 ^ o.length * 10) = 10 * M * (y * 10 ^ o.length) + x * 10 * 10 ^ o.length := by grind
     rw [this, a]; grind
    ·intro x hx
     rcases List.mem_cons.mp hx with h | h
     ·rw [h]; exact hdl
     ·exact b x h
def rightD (k : Nat) (ds : List Nat) : List Nat :=
 let u := takeUp (2 ^ k) ds 0 0
 (rdiv (2 ^ k) u.2.1 u.1).1 ++ rfin (2 ^ k) (k + 1) (rdiv (2 ^ k) u.2.1 u.1).2
def rightR (k : Nat) (ds : List Nat) : Nat := (takeUp (2 ^ k) ds 0 0).2.2
theorem rightD_ok {k : Nat} {ds : List Nat} (hd : ∀ d ∈ ds, d < 10) (h0 : 1 ≤ num ds) :
  (∀ d ∈ rightD k ds, d < 10) ∧ (∀ dp : Int, dval (rightD k ds) (dp - ((rightR k ds : Int) - 1)) = dval ds dp * p2 (-(k : Int))) ∧ ∃ d t, rightD k ds = d :: t ∧ 1 ≤ d := by
 have hM := Nat.two_pow_pos k
 obtain ⟨z, a, b, c, d, e, f⟩ := takeUp_ok (M := 2 ^ k) ds 0 0 hd (by omega) (by simpa using h0)
 unfold rightD rightR
 simp only
 generalize hu : takeUp (2 ^ k) ds 0 0 = u at *
 obtain ⟨n, rest, r⟩ := u
 simp only [Nat.zero_mul, Nat.zero_add] at a b c d e f ⊢
 obtain ⟨a1, b1, c1⟩ := rdiv_ok hM rest n f e
 obtain ⟨a2, b2⟩ := rfin_ok (k := k) (k + 1) 0 (rdiv (2 ^ k) rest n).2 (by omega) (by omega) (by simp) c1
 have l1 := rdiv_len (2 ^ k) rest n
 generalize ho : (rdiv (2 ^ k) rest n).1 = o at *
 generalize hq : (rdiv (2 ^ k) rest n).2 = q at *
 generalize hx : rfin (2 ^ k) (k + 1) q = x at *
 have main : num (o ++ x) * (10 * 2 ^ k) = num ds * 10 ^ z * 10 ^ x.length := by
  rw [num_append, ← a, a1]
  have : (10 * 2 ^ k * num o + q) * 10 ^ x.length = 10 * 2 ^ k * num o * 10 ^ x.length + q * 10 ^ x.length := by grind
  rw [this, a2]; grind
 refine ⟨?_, ?_, ?_⟩
 ·intro y hy
  rcases List.mem_append.mp hy with h | h
  ·exact b1 y h
  ·exact b2 y h
 ·intro dp
  unfold dval
  have m1 : ((num (o ++ x) * (10 * 2 ^ k) : Nat) : Rat) = ((num ds * 10 ^ z * 10 ^ x.length : Nat) : Rat) := by rw [main]
  rw [Rat.natCast_mul, Rat.natCast_mul, Rat.natCast_mul, Rat.natCast_mul, ← p2_nat, ← p10_nat, ← p10_nat] at m1
  have m10 : ((10 : Nat) : Rat) = p10 1 := by decide +kernel
  rw [m10] at m1
  have m2 : (num (o ++ x) : Rat) = (num ds : Rat) * (p10 (z : Int) * p10 (x.length : Int) * p10 (-1)) * p2 (-(k : Int)) := by
   have i1 : p10 1 * p10 (-1) = 1 := by rw [← p10_add]; exact p10_zero
   have i2 : p2 (k : Int) * p2 (-(k : Int)) = 1 := by rw [← p2_add, show (k : Int) + -(k : Int) = 0 by omega, p2_zero]
   have m3 : (num (o ++ x) : Rat) * (p10 1 * p2 (k : Int)) * (p10 (-1) * p2 (-(k : Int))) = (num ds : Rat) * p10 (z : Int) * p10 (x.length : Int) * (p10 (-1) * p2 (-(k : Int))) := by rw [m1]
   grind
  have hl : ((o ++ x).length : Int) = rest.length + x.length := by rw [List.length_append, l1]; omega
  rw [m2, hl, ← p10_add, ← p10_add]
  have : (num ds : Rat) * p10 ((z : Int) + x.length + -1) * p2 (-(k : Int)) * p10 (dp - ((r : Int) - 1) - ((rest.length : Int) + x.length)) = (num ds : Rat) * (p10 ((z : Int) + x.length + -1) * p10 (dp - ((r : Int) - 1) - ((rest.length : Int) + x.length))) * p2 (-(k : Int)) := by grind
  rw [this, ← p10_add]
  congr 3
  omega
 ·have hn : 1 ≤ n / 2 ^ k := (Nat.le_div_iff_mul_le hM).mpr (by omega)
  cases rest with
  | nil =>
   simp only [rdiv] at ho hq
   subst ho hq
   rw [← hx]
   unfold rfin
   rw [if_neg (by omega)]
   exact ⟨_, _, rfl, hn⟩
  | cons c t =>
   simp only [rdiv] at ho
   rw [← ho]
   exact ⟨_, _, rfl, hn⟩
end FP
namespace FP
def Lead (ds : List Nat) : Prop := ∃ d t, ds = d :: t ∧ 1 ≤ d
theorem Lead.ge {ds : List Nat} (h : Lead ds) (dp : Int) : p10 (dp - 1) ≤ dval ds dp := by
 obtain ⟨d, t, rfl, hd⟩ := h
 unfold dval
 have h1 := cast_le (num_ge (t := t) hd)
 have := Rat.mul_le_mul_of_nonneg_right h1 (Rat.le_of_lt (p10_pos (dp - ((d :: t).length : Nat))))
 rw [← p10_nat, ← p10_add] at this
 rw [show (t.length : Int) + (dp - ((d :: t).length : Nat)) = dp - 1 by simp; omega] at this
 exact this
theorem dval_lt {ds : List Nat} (h : ∀ d ∈ ds, d < 10) (dp : Int) : dval ds dp < p10 dp := by
 unfold dval
 have h1 := cast_lt (num_lt h)
 have := Rat.mul_lt_mul_of_pos_right h1 (p10_pos (dp - ds.length))
 rw [← p10_nat, ← p10_add, show (ds.length : Int) + (dp - ds.length) = dp by omega] at this
 exact this
theorem Lead.take_trim {L : List Nat} (h : Lead L) : Lead (trimZ (L.take 800)) := by
 obtain ⟨d, t, rfl, hd⟩ := h
 rw [show (d :: t).take 800 = d :: t.take 799 by rfl]
 unfold trimZ
 rw [if_neg (by omega)]
 exact ⟨d, _, rfl, hd⟩
theorem trimZ_last (l : List Nat) : ∀ a d, trimZ l = a ++ [d] → d ≠ 0 := by
 induction l with
 | nil => intro a d h; simp [trimZ] at h
 | cons x t ih =>
  intro a d h
  unfold trimZ at h
  split at h
  ·simp at h
  ·rename_i hc
   cases a with
   | nil =>
    simp at h
    intro h0
    exact hc ⟨h.2, by omega⟩
   | cons y b =>
    simp at h
    exact ih b d h.2
theorem digs_of (L : List Nat) (h : ∀ d ∈ L, d < 10) : Digs (trimZ (L.take 800)) := ⟨fun d hd => h d (List.mem_of_mem_take (trimZ_mem hd)), trimZ_last _⟩
theorem p2_lt {a b : Int} (h : p2 a < p2 b) : a < b := by
 by_cases c : a < b
 ·exact c
 ·exfalso
  have e : p2 a = p2 b * p2 (((a - b).toNat : Nat) : Int) := by rw [← p2_add]; congr 1; omega
  rw [p2_nat] at e
  have h1 : (1 : Rat) ≤ ((2 ^ (a - b).toNat : Nat) : Rat) := cast_le (Nat.two_pow_pos _)
  have := Rat.mul_le_mul_of_nonneg_left h1 (Rat.le_of_lt (p2_pos b))
  grind
theorem p2_le {a b : Int} (h : a ≤ b) : p2 a ≤ p2 b := by
 have e : p2 b = p2 a * p2 (((b - a).toNat : Nat) : Int) := by rw [← p2_add]; congr 1; omega
 rw [p2_nat] at e
 have h1 : (1 : Rat) ≤ ((2 ^ (b - a).toNat : Nat) : Rat) := cast_le (Nat.two_pow_pos _)
 have := Rat.mul_le_mul_of_nonneg_left h1 (Rat.le_of_lt (p2_pos a))
 grind
theorem inv_le {a b c d : Rat} (i1 : a * b = 1) (i2 : c * d = 1) (j1 : 0 < a) (j2 : 0 < c) (h : b ≤ d) : c ≤ a := by
 have k1 := Rat.mul_le_mul_of_nonneg_left h (Rat.le_of_lt (Rat.mul_pos j1 j2))
 have e1 : a * c * b = c := by grind
 have e2 : a * c * d = a := by grind
 rw [e1, e2] at k1
 exact k1
theorem ten_two {m : Int} {u : Int} (h : p10 m < p2 u) : (0 ≤ m → 3 * m < u) ∧ (m ≤ 0 → 10 * m < 3 * u) := by
 have pw : ∀ (n : Nat), p2 (3 * (n : Int)) ≤ p10 (n : Int) ∧ p10 (3 * (n : Int)) ≤ p2 (10 * (n : Int)) := by
  intro n
  have a1 : p2 (3 * (n : Int)) = ((2 ^ (3 * n) : Nat) : Rat) := by rw [← p2_nat]; congr 1
  have a2 : p10 (3 * (n : Int)) = ((10 ^ (3 * n) : Nat) : Rat) := by rw [← p10_nat]; congr 1
  have a3 : p2 (10 * (n : Int)) = ((2 ^ (10 * n) : Nat) : Rat) := by rw [← p2_nat]; congr 1
  rw [a1, p10_nat, a2, a3]
  constructor
  ·apply cast_le; rw [Nat.pow_mul]; exact Nat.pow_le_pow_left (by decide) n
  ·apply cast_le; rw [Nat.pow_mul, Nat.pow_mul]; exact Nat.pow_le_pow_left (by decide) n
 have cube : p10 (3 * m) < p2 (3 * u) := by
  have e1 : p10 (3 * m) = p10 m * p10 m * p10 m := by rw [← p10_add, ← p10_add]; congr 1; omega
  have e2 : p2 (3 * u) = p2 u * p2 u * p2 u := by rw [← p2_add, ← p2_add]; congr 1; omega
  rw [e1, e2]
  have hp := p10_pos m
  have hq := p2_pos u
  have h1 := Rat.mul_lt_mul_of_pos_right h hp
  have h2 := Rat.mul_lt_mul_of_pos_left h hq
  have h3 : p10 m * p10 m < p2 u * p2 u := by grind
  have h4 := Rat.mul_lt_mul_of_pos_right h3 hp
  have h5 := Rat.mul_lt_mul_of_pos_left h (Rat.mul_pos hq hq)
  grind
 rcases Int.le_total 0 m with hm | hm
 ·obtain ⟨n, rfl⟩ := Int.eq_ofNat_of_zero_le hm
  have b1 : p2 (3 * (n : Int)) < p2 u := by have := (pw n).1; grind
  exact ⟨fun _ => p2_lt b1, fun h0 => by
   have := p2_lt b1
   omega⟩
 ·obtain ⟨n, hn⟩ := Int.eq_ofNat_of_zero_le (show 0 ≤ -m by omega)
  obtain rfl : m = -(n : Int) := by omega
  have d1 := (pw n).2
  have d2 : p2 (-(10 * (n : Int))) ≤ p10 (-(3 * (n : Int))) := by
   have i1 := p10_neg_mul (3 * (n : Int))
   have i2 := p2_neg_mul (10 * (n : Int))
   have j1 := p10_pos (-(3 * (n : Int)))
   have j2 := p2_pos (-(10 * (n : Int)))
   exact inv_le i1 i2 j1 j2 d1
  rw [show 3 * -(n : Int) = -(3 * (n : Int)) by omega] at cube
  have e : p2 (-(10 * (n : Int))) < p2 (3 * u) := by grind
  have := p2_lt e
  exact ⟨fun h0 => by omega, fun _ => by omega⟩
end FP
namespace FP
theorem DI.coarse {X : Rat} {g g' t : Int} {ds : List Nat} {dp : Int} {tr : Bool} (h : DI X g t ds dp tr) (hg : g ≤ g') : DI X g' t ds dp tr := by
 refine ⟨h.le, h.eq, h.ne, fun z hz => ?_⟩
 have e : (z : Rat) * p2 (g' + t) = ((z * ((2 ^ (g' - g).toNat : Nat) : Int) : Int) : Rat) * p2 (g + t) := by
  rw [Rat.intCast_mul, Rat.intCast_natCast, ← p2_nat, Rat.mul_assoc, ← p2_add]
  congr 2; omega
 rw [e] at hz ⊢
 exact h.grid _ hz
def grid0 (E : Int) : Int := min E (max E (-1022) - 53)
structure DV (X : Rat) (E t : Int) (ds : List Nat) (dp : Int) (tr : Bool) : Prop where
 lo : p2 E ≤ X
 hi : X < p2 (E + 1)
 El : -1100 ≤ E
 di : DI X (grid0 E) t ds dp tr
 lead : Lead ds
 digs : Digs ds
 len : ds.length ≤ 800
theorem num_len {l : List Nat} {d : Nat} {t : List Nat} (h : l = d :: t) (hd : 1 ≤ d) : 10 ^ (l.length - 1) ≤ num l := by
 subst h; simpa using num_ge (t := t) hd
section
variable {X : Rat} {E t : Int} {ds : List Nat} {dp : Int} {tr : Bool}
theorem DV.below (h : DV X E t ds dp tr) : p10 (dp - 1) < p2 (E + 1 + t) := by
 have h1 := h.lead.ge dp
 have h2 := h.di.le
 have h3 := Rat.mul_lt_mul_of_pos_right h.hi (p2_pos t)
 rw [← p2_add] at h3
 grind
theorem DV.above (h : DV X E t ds dp tr) : p2 (E + t) ≤ dval ds dp := by
 have h1 := Rat.mul_le_mul_of_nonneg_right h.lo (Rat.le_of_lt (p2_pos t))
 rw [← p2_add] at h1
 have e : ∃ n : Nat, E = grid0 E + n := ⟨(E - grid0 E).toNat, by unfold grid0; omega⟩
 obtain ⟨n, hn⟩ := e
 have e2 : p2 (E + t) = (((2 ^ n : Nat) : Int) : Rat) * p2 (grid0 E + t) := by
  rw [Rat.intCast_natCast, ← p2_nat, ← p2_add]; congr 1; omega
 rw [e2] at h1 ⊢
 exact h.di.grid _ h1
def Range (E t : Int) : Prop := (-1000 ≤ E + t ∨ 0 ≤ t) ∧ E + t ≤ 2000
theorem grid_ok {E t dp : Int} (hE : -1100 ≤ E) (hr : Range E t) (h : p10 (dp - 1) < p2 (E + 1 + t)) : OnGrid (grid0 E + t) dp := by
 have h1 := ten_two h
 unfold Range at hr
 unfold OnGrid grid0
 by_cases c : 0 ≤ dp - 1
 ·have := h1.1 c; omega
 ·have := h1.2 (by omega); omega
theorem DV.any (h : DV X E t ds dp tr) {L : List Nat} {dp' j : Int} (hL : ∀ d ∈ L, d < 10) (hl : Lead L) (hv : dval L dp' = dval ds dp * p2 j) (hr : Range E (t + j)) :
  DV X E (t + j) (trimZ (L.take 800)) dp' (tr || (L.drop 800).any (· ≠ 0)) := by
 refine ⟨h.lo, h.hi, h.El, ?_, hl.take_trim, digs_of L hL, ?_⟩
 ·refine h.di.shift hL hv (grid_ok h.El hr ?_) _ rfl
  have h1 := hl.ge dp'
  rw [hv] at h1
  have h2 := Rat.mul_le_mul_of_nonneg_right h.di.le (Rat.le_of_lt (p2_pos j))
  have h3 := Rat.mul_lt_mul_of_pos_right h.hi (Rat.mul_pos (p2_pos t) (p2_pos j))
  rw [← p2_add, ← p2_add] at h3
  rw [Rat.mul_assoc, ← p2_add] at h2
  rw [show E + 1 + (t + j) = E + 1 + (t + j) from rfl]
  grind
 ·have := (trimZ_num (L.take 800)).1
  rw [List.length_take] at this
  omega
def shlD (k : Nat) (s : List Nat × Int × Bool) : List Nat × Int × Bool :=
 (trimZ ((leftD k s.1).take 800), s.2.1 + (digs (lmul (2 ^ k) s.1).1).length, s.2.2 || ((leftD k s.1).drop 800).any (· ≠ 0))
def shrD (k : Nat) (s : List Nat × Int × Bool) : List Nat × Int × Bool :=
 (trimZ ((rightD k s.1).take 800), s.2.1 - ((rightR k s.1 : Int) - 1), s.2.2 || ((rightD k s.1).drop 800).any (· ≠ 0))
theorem lead_num (h : Lead ds) : 1 ≤ num ds := by
 obtain ⟨d, u, e, hd⟩ := h
 have := num_len e hd
 have := Nat.pow_pos (n := ds.length - 1) (show 0 < 10 by omega)
 omega
theorem lead_left {k : Nat} (h : Lead ds) (hd : ∀ d ∈ ds, d < 10) : Lead (leftD k ds) := by
 have h1 := leftD_num k ds
 have h2 := lead_num h
 by_cases c : (lmul (2 ^ k) ds).1 = 0
 ·obtain ⟨d, u, rfl, hd1⟩ := h
  unfold leftD
  rw [c, digs_zero, List.nil_append]
  unfold lmul at c ⊢
  simp only at c ⊢
  refine ⟨_, _, rfl, ?_⟩
  have : 0 < d * 2 ^ k := Nat.mul_pos hd1 (Nat.two_pow_pos k)
  omega
 ·obtain ⟨d, u, h3, h4⟩ := digs_head _ c
  unfold leftD
  rw [h3]
  exact ⟨d, _, rfl, h4⟩
def stepN (n : Nat) : Nat := ([1, 3, 6, 9, 13, 16, 19, 23, 26] : List Nat).getD n 27
theorem stepN_le (n : Nat) : 1 ≤ stepN n ∧ stepN n ≤ 27 := by
 unfold stepN
 by_cases h : n < 9
 ·have : ∀ i < 9, 1 ≤ ([1, 3, 6, 9, 13, 16, 19, 23, 26] : List Nat).getD i 27 ∧ ([1, 3, 6, 9, 13, 16, 19, 23, 26] : List Nat).getD i 27 ≤ 27 := by decide
  exact this n h
 ·rw [List.getD_eq_getElem?_getD, List.getElem?_eq_none (by simp; omega)]; simp
theorem stepN_ten {n : Nat} (h : 1 ≤ n) : 2 ^ stepN n ≤ 10 ^ n := by
 by_cases c : n < 9
 ·have : ∀ i < 9, 1 ≤ i → 2 ^ stepN i ≤ 10 ^ i := by decide
  exact this n c h
 ·have : stepN n = 27 := by unfold stepN; rw [List.getD_eq_getElem?_getD, List.getElem?_eq_none (by simp; omega)]; rfl
  rw [this]
  have h1 : 10 ^ 9 ≤ 10 ^ n := Nat.pow_le_pow_right (by omega) (by omega)
  have h2 : 2 ^ 27 ≤ 10 ^ 9 := by decide
  omega
theorem DV.pos (h : DV X E t ds dp tr) (hdp : 0 < dp) : 0 ≤ E + t := by
 have h1 := h.below
 have h2 := (ten_two h1).1 (by omega)
 omega
def small (ds : List Nat) (dp : Int) : Prop := dp < 0 ∨ dp = 0 ∧ ds.getD 0 0 < 5
theorem small_lt (hd : Digs ds) (h : small ds dp) : dval ds dp < p2 (-(stepN (-dp).toNat : Int)) := by
 rcases h with h | ⟨rfl, h⟩
 ·have h1 := dval_lt hd.1 dp
  have h2 := cast_le (stepN_ten (n := (-dp).toNat) (by omega))
  rw [← p2_nat, ← p10_nat, show (((-dp).toNat : Nat) : Int) = -dp by omega] at h2
  have := inv_le (a := p2 (-(stepN (-dp).toNat : Int))) (c := p10 dp) (p2_neg_mul _) (by rw [← p10_add, show dp + -dp = 0 by omega, p10_zero]) (p2_pos _) (p10_pos _) h2
  grind
 ·rw [show stepN ((-(0 : Int)).toNat) = 1 from rfl, show (-((1 : Nat) : Int)) = -1 from rfl, half]
  cases ds with
  | nil => unfold dval; rw [num_nil]; simp; decide +kernel
  | cons d u =>
   simp at h
   unfold dval
   have h1 := num_lt (l := u) (fun x hx => hd.1 x (by simp [hx]))
   have h2 : num (d :: u) < 5 * 10 ^ u.length := by
    rw [num_cons]
    have : d * 10 ^ u.length ≤ 4 * 10 ^ u.length := Nat.mul_le_mul_right _ (by omega)
    omega
   have h3 := Rat.mul_lt_mul_of_pos_right (cast_lt h2) (p10_pos (0 - ((d :: u).length : Nat)))
   rw [Rat.natCast_mul, ← p10_nat, Rat.mul_assoc, ← p10_add, show (u.length : Int) + (0 - ((d :: u).length : Nat)) = -1 by simp; omega] at h3
   have h4 : ((5 : Nat) : Rat) * p10 (-1) = 1 / 2 := by decide +kernel
   rw [h4] at h3
   exact h3
theorem DV.mid (h : DV X E t ds dp tr) (hs : ¬ small ds dp) (hdp : dp ≤ 0) : dp = 0 ∧ t = -(E + 1) := by
 have h0 : dp = 0 := by unfold small at hs; omega
 subst h0
 have h5 : 5 ≤ ds.getD 0 0 := by unfold small at hs; omega
 refine ⟨rfl, ?_⟩
 have h1 := h.above
 have h2 := dval_lt h.digs.1 0
 rw [p10_zero] at h2
 have h3 : p2 (E + t) < p2 0 := by rw [p2_zero]; grind
 have h4 := p2_lt h3
 have h6 : 1 / 2 ≤ dval ds 0 := by
  cases ds with
  | nil => simp at h5
  | cons d u =>
   simp at h5
   unfold dval
   have a1 : 5 * 10 ^ u.length ≤ num (d :: u) := by
    rw [num_cons]
    have : 5 * 10 ^ u.length ≤ d * 10 ^ u.length := Nat.mul_le_mul_right _ (by omega)
    omega
   have h3 := Rat.mul_le_mul_of_nonneg_right (cast_le a1) (Rat.le_of_lt (p10_pos (0 - ((d :: u).length : Nat))))
   rw [Rat.natCast_mul, ← p10_nat, Rat.mul_assoc, ← p10_add, show (u.length : Int) + (0 - ((d :: u).length : Nat)) = -1 by simp; omega] at h3
   have h4 : ((5 : Nat) : Rat) * p10 (-1) = 1 / 2 := by decide +kernel
   rw [h4] at h3
   exact h3
 have h7 := h.di.le
 have h8 := Rat.mul_lt_mul_of_pos_right h.hi (p2_pos t)
 rw [← p2_add] at h8
 have h9 : p2 (-1) < p2 (E + 1 + t) := by rw [half]; grind
 have := p2_lt h9
 omega
theorem DV.last (h : DV X E (52 - max E (-1022)) ds dp tr) (hE : E ≤ 1200) : rnd ds dp tr ≤ 2 ^ 53 ∧ (2 ^ 52 ≤ rnd ds dp tr ∨ E < -1022) ∧
  Near X (min ((max E (-1022) + 1022).toNat * 2 ^ 52 + rnd ds dp tr) INF) := by
 have hd := h.di.coarse (g' := -1 - (52 - max E (-1022))) (by unfold grid0; omega)
 have hr := rnd_RH hd (by omega) h.digs
 have hlo : -1022 ≤ E → ((2 ^ 52 : Nat) : Rat) ≤ X * p2 (52 - max E (-1022)) := by
  intro hc
  have h1 := Rat.mul_le_mul_of_nonneg_right h.lo (Rat.le_of_lt (p2_pos (52 - max E (-1022))))
  rw [← p2_add, show E + (52 - max E (-1022)) = ((52 : Nat) : Int) by omega, p2_nat] at h1
  exact h1
 have hhi : X * p2 (52 - max E (-1022)) < ((2 ^ 53 : Nat) : Rat) := by
  have h1 := Rat.mul_lt_mul_of_pos_right h.hi (p2_pos (52 - max E (-1022)))
  rw [← p2_add] at h1
  have h2 : p2 (E + 1 + (52 - max E (-1022))) ≤ p2 ((53 : Nat) : Int) := p2_le (by omega)
  rw [p2_nat] at h2
  grind
 generalize hq : X * p2 (52 - max E (-1022)) = q at *
 refine ⟨?_, ?_, ?_⟩
 ·by_cases c : rnd ds dp tr ≤ 2 ^ 53
  ·exact c
  ·exfalso
   rcases hr.2 with h1 | ⟨h1, h2⟩
   ·have := cast_le (show 2 ^ 53 + 1 ≤ rnd ds dp tr by omega)
    rw [cast_succ] at this
    grind
   ·have := cast_le (show 2 ^ 53 + 1 ≤ rnd ds dp tr by omega)
    rw [cast_succ] at this
    grind
 ·by_cases c : E < -1022
  ·exact .inr c
  ·left
   have h3 := hlo (by omega)
   by_cases c2 : 2 ^ 52 ≤ rnd ds dp tr
   ·exact c2
   ·exfalso
    have := cast_le (show rnd ds dp tr + 1 ≤ 2 ^ 52 by omega)
    rw [cast_succ] at this
    rcases hr.1 with h1 | ⟨h1, h2⟩ <;> grind
 ·refine near_of_scaled (q := q) (b := (max E (-1022) + 1022).toNat) ?_ ?_ hhi hr
  ·rw [← hq, Rat.mul_assoc, ← p2_add, show 52 - max E (-1022) + (((max E (-1022) + 1022).toNat : Int) - 1074) = 0 by omega, p2_zero, Rat.mul_one]
  ·by_cases c : E < -1022
   ·left; omega
   ·right; exact hlo (by omega)
end
theorem le_lt {a b c : Rat} (h : a ≤ b) (k : b < c) : a < c := by grind
theorem lt_le {a b c : Rat} (h : a < b) (k : b ≤ c) : a < c := by grind
theorem exists_place {X : Rat} : ∀ (n : Nat) (a : Int), p2 a ≤ X → X < p2 (a + n) → ∃ E, a ≤ E ∧ E < a + n ∧ p2 E ≤ X ∧ X < p2 (E + 1)
 | 0, a, h1, h2 => by simp at h2; grind
 | n + 1, a, h1, h2 => by
  by_cases c : X < p2 (a + 1)
  ·exact ⟨a, by omega, by omega, h1, c⟩
  ·obtain ⟨E, e1, e2, e3, e4⟩ := exists_place n (a + 1) (Rat.not_lt.mp c) (by rw [show a + 1 + (n : Int) = a + ((n + 1 : Nat) : Int) by omega]; exact h2)
   exact ⟨E, by omega, by omega, e3, e4⟩
theorem tiny : p2 (-1100) ≤ p10 (-331) := by decide +kernel
theorem huge : p10 310 ≤ p2 1030 := by decide +kernel
theorem p10_le {a b : Int} (h : a ≤ b) : p10 a ≤ p10 b := by
 have e : p10 b = p10 a * p10 (((b - a).toNat : Nat) : Int) := by rw [← p10_add]; congr 1; omega
 rw [p10_nat] at e
 have h1 : (1 : Rat) ≤ ((10 ^ (b - a).toNat : Nat) : Rat) := cast_le (Nat.pow_pos (by omega))
 have := Rat.mul_le_mul_of_nonneg_left h1 (Rat.le_of_lt (p10_pos a))
 grind
theorem DV.start {X : Rat} {L : List Nat} {dp : Int} (hL : ∀ d ∈ L, d < 10) (hl : Lead L) (h : dval L dp = X) (h1 : -330 ≤ dp) (h2 : dp ≤ 310) :
  ∃ E, E ≤ 1030 ∧ DV X E 0 (trimZ (L.take 800)) dp ((L.drop 800).any (· ≠ 0)) := by
 have a1 := hl.ge dp
 have a2 := dval_lt hL dp
 rw [h] at a1 a2
 have a3 := p10_le (show -331 ≤ dp - 1 by omega)
 have a4 := p10_le h2
 have a5 := tiny
 have a6 := huge
 have b1 : p2 (-1100) ≤ X := Rat.le_trans a5 (Rat.le_trans a3 a1)
 have b2 : X < p2 (-1100 + ((2130 : Nat) : Int)) := lt_le a2 (Rat.le_trans a4 a6)
 clear a5 a6
 obtain ⟨E, e1, e2, e3, e4⟩ := exists_place 2130 (-1100) b1 b2
 refine ⟨E, by omega, e3, e4, e1, ?_, hl.take_trim, digs_of L hL, ?_⟩
 ·have hs := DI.start X (grid0 E) L dp h
  have hv : dval L dp = dval L dp * p2 0 := by rw [p2_zero, Rat.mul_one]
  have hb : p10 (dp - 1) < p2 (E + 1 + (0 + 0)) := by
   rw [show E + 1 + ((0 : Int) + 0) = E + 1 by omega]; exact le_lt a1 e4
  exact hs.shift (j := 0) (dp' := dp) hL hv (grid_ok e1 (by unfold Range; omega) hb) _ rfl
 ·have := (trimZ_num (L.take 800)).1
  rw [List.length_take] at this
  omega
theorem near_huge {V : Rat} (h : p10 310 ≤ V) : Near V INF := by
 have h1 : mid (INF - 1) < p10 310 := by decide +kernel
 exact ⟨Nat.le_refl _, .inr (.inl (by grind)), .inl rfl⟩
theorem near_tiny {V : Rat} (h : V < p10 (-330)) : Near V 0 := by
 have h1 : p10 (-330) < mid 0 := by decide +kernel
 exact ⟨by decide, .inl rfl, .inr (.inl (by grind))⟩
theorem near_over {X : Rat} {E : Int} (h : p2 E ≤ X) (hE : 1024 ≤ E) : Near X INF := by
 have h1 : mid (INF - 1) < p2 1024 := by decide +kernel
 have h2 := p2_le hE
 exact ⟨Nat.le_refl _, .inr (.inl (by grind)), .inl rfl⟩
end FP
namespace FP
open Ieee
theorem near_self {r : Nat} (h : r < INF) : Near (val r) r := by
 refine ⟨Nat.le_of_lt h, ?_, .inr (.inl (val_lt_mid r))⟩
 by_cases c : r = 0
 ·exact .inl c
 ·right; left
  have := mid_lt_val (r - 1)
  rw [show r - 1 + 1 = r by omega] at this
  exact this
theorem exists_rung {m : Nat} (h : m < 2 ^ 53) : ∃ r, r < INF ∧ val r = (m : Rat) := by
 by_cases c : m = 0
 ·subst c; exact ⟨0, by decide +kernel, val_zero⟩
 ·have h1 : 2 ^ m.log2 ≤ m := Nat.log2_self_le c
  have h2 : m < 2 ^ (m.log2 + 1) := Nat.lt_log2_self
  have hL : m.log2 ≤ 52 := by
   have := (Nat.log2_lt c (k := 53)).mpr h
   omega
  have hk1 : 2 ^ 52 ≤ m * 2 ^ (52 - m.log2) := by
   have : 2 ^ m.log2 * 2 ^ (52 - m.log2) ≤ m * 2 ^ (52 - m.log2) := Nat.mul_le_mul_right _ h1
   rw [← Nat.pow_add, show m.log2 + (52 - m.log2) = 52 by omega] at this
   exact this
  have hk2 : m * 2 ^ (52 - m.log2) < 2 ^ 53 := by
   have : m * 2 ^ (52 - m.log2) < 2 ^ (m.log2 + 1) * 2 ^ (52 - m.log2) := Nat.mul_lt_mul_of_pos_right h2 (Nat.two_pow_pos _)
   rw [← Nat.pow_add, show m.log2 + 1 + (52 - m.log2) = 53 by omega] at this
   exact this
  refine ⟨(1022 + m.log2) * 2 ^ 52 + m * 2 ^ (52 - m.log2), by unfold INF; omega, ?_⟩
  rw [val_at _ _ (.inr hk1) (Nat.le_of_lt hk2), Rat.natCast_mul, ← p2_nat, Rat.mul_assoc, ← p2_add]
  rw [show ((52 - m.log2 : Nat) : Int) + (((1022 + m.log2 : Nat) : Int) - 1074) = 0 by omega, p2_zero, Rat.mul_one]
theorem of_nat {m : Nat} (h : m < 2 ^ 53) : ∃ r, r < INF ∧ val r = (m : Rat) ∧ Go.FloatKind.nearest .f64 (m : Int) = wordOf false r := by
 obtain ⟨r, h1, h2⟩ := exists_rung h
 refine ⟨r, h1, h2, ?_⟩
 obtain ⟨r', e, hn⟩ := nearest_near false m 0
 rw [p2_zero, Rat.mul_one, ← h2] at hn
 have := hn.unique (near_self h1)
 subst this
 unfold Go.FloatKind.nearest Go.FloatKind.encode Go.FloatKind.format Format.write
 simp only [Int.natAbs_natCast]
 rw [show decide ((m : Int) < 0) = false by simp]
 exact e
theorem near_mono {U V : Rat} {r s : Nat} (hr : Near U r) (hs : Near V s) (h : U ≤ V) : r ≤ s := by
 rcases Nat.lt_or_ge s r with c | c
 ·exfalso
  obtain ⟨r0, r1, r2⟩ := hr
  obtain ⟨s0, s1, s2⟩ := hs
  have a : mid (r - 1) ≤ U := by
   rcases r1 with h1 | h1 | ⟨h1, _⟩
   ·omega
   ·exact Rat.le_of_lt h1
   ·grind
  have b : V ≤ mid s := by
   rcases s2 with h1 | h1 | ⟨h1, _⟩
   ·omega
   ·exact Rat.le_of_lt h1
   ·grind
  have m := mid_le (show s ≤ r - 1 by omega)
  have e : mid s = mid (r - 1) := by grind
  by_cases e2 : s = r - 1
  ·rcases r1 with h1 | h1 | ⟨h1, p⟩
   ·omega
   ·grind
   ·rcases s2 with h2 | h2 | ⟨h2, q⟩
    ·omega
    ·grind
    ·omega
  ·have := mid_mono (show s < r - 1 by omega); grind
 ·exact c
theorem xor_sign (s : Bool) {r : Nat} (h : r < 2 ^ 63) : wordOf s r ^^^ 2 ^ 63 = wordOf (!s) r := by
 have e : r ^^^ 2 ^ 63 = 2 ^ 63 + r := by
  have h1 := Nat.two_pow_add_eq_or_of_lt h 1
  rw [Nat.mul_one] at h1
  rw [h1]
  apply Nat.eq_of_testBit_eq
  intro j
  rw [Nat.testBit_xor, Nat.testBit_or, Nat.testBit_two_pow]
  by_cases e : 63 = j
  ·subst e; rw [Nat.testBit_lt_two_pow h]; rfl
  ·simp [e]
 unfold wordOf
 cases s
 ·simpa using e
 ·simp only [if_true, Bool.not_true, Bool.false_eq_true, if_false]
  rw [← e, Nat.xor_assoc, Nat.xor_self, Nat.xor_zero]
theorem order_words (s t : Bool) {a b : Nat} (ha : a < INF) (hb : b < INF) : ∃ A B : Nat, double.order (wordOf s a) (wordOf t b) = some (compare (if s then -(A : Int) else A) (if t then -(B : Int) else B)) ∧
  (A < B ↔ a < b) ∧ (B < A ↔ b < a) := by
 unfold Format.order
 rw [read_word s a ha, read_word t b hb]
 simp only [Datum.order]
 obtain ⟨base, hbase⟩ : ∃ base, base = min (plc a) (plc b) := ⟨_, rfl⟩
 rw [← hbase]
 have cv : ∀ r, base ≤ plc r → ((sig r <<< (plc r - base).toNat : Nat) : Rat) = val r * p2 (-base) := by
  intro r hr
  unfold val
  rw [Nat.shiftLeft_eq, Rat.natCast_mul, ← p2_nat, Rat.mul_assoc, ← p2_add]
  congr 2; omega
 have ea := cv a (by omega)
 have eb := cv b (by omega)
 have hp := p2_pos (-base)
 refine ⟨_, _, rfl, ?_, ?_⟩
 ·rw [← Rat.natCast_lt_natCast, ea, eb, ← val_lt_iff (a := a)]
  exact ⟨fun h => Rat.lt_of_mul_lt_mul_right h (Rat.le_of_lt hp), fun h => Rat.mul_lt_mul_of_pos_right h hp⟩
 ·rw [← Rat.natCast_lt_natCast, ea, eb, ← val_lt_iff (a := b)]
  exact ⟨fun h => Rat.lt_of_mul_lt_mul_right h (Rat.le_of_lt hp), fun h => Rat.mul_lt_mul_of_pos_right h hp⟩
theorem cmp_gt (x y : Int) : (some (compare x y) == some Ordering.gt) = decide (y < x) := by
 rcases Int.lt_trichotomy x y with h | h | h
 ·have : compare x y = .lt := Int.compare_eq_lt.mpr h
  rw [this]; simp; omega
 ·have : compare x y = .eq := Int.compare_eq_eq.mpr h
  rw [this]; simp; omega
 ·have : compare x y = .gt := Int.compare_eq_gt.mpr h
  rw [this]; simp; omega
theorem cmp_lt (x y : Int) : (some (compare x y) == some Ordering.lt) = decide (x < y) := by
 rcases Int.lt_trichotomy x y with h | h | h
 ·have : compare x y = .lt := Int.compare_eq_lt.mpr h
  rw [this]; simp; omega
 ·have : compare x y = .eq := Int.compare_eq_eq.mpr h
  rw [this]; simp; omega
 ·have : compare x y = .gt := Int.compare_eq_gt.mpr h
  rw [this]; simp; omega
theorem order_gt (s : Bool) {a b : Nat} (ha : a < INF) (hb : b < INF) (h0 : 0 < b) : (double.order (wordOf s a) (wordOf false b) == some .gt) = (!s && decide (b < a)) := by
 obtain ⟨A, B, e, h1, h2⟩ := order_words s false ha hb
 rw [e, cmp_gt]
 cases s
 ·simp only [Bool.false_eq_true, if_false, Bool.not_false, Bool.true_and, decide_eq_decide]; omega
 ·simp only [if_true, Bool.false_eq_true, if_false, Bool.not_true, Bool.false_and, decide_eq_false_iff_not]; omega
theorem order_lt (s : Bool) {a b : Nat} (ha : a < INF) (hb : b < INF) (h0 : 0 < b) : (double.order (wordOf s a) (wordOf true b) == some .lt) = (s && decide (b < a)) := by
 obtain ⟨A, B, e, h1, h2⟩ := order_words s true ha hb
 rw [e, cmp_lt]
 cases s
 ·simp only [Bool.false_eq_true, if_false, if_true, Bool.false_and, decide_eq_false_iff_not]; omega
 ·simp only [if_true, Bool.true_and, decide_eq_decide]; omega
def tens : List Nat := [4607182418800017408, 4621819117588971520, 4636737291354636288, 4652007308841189376, 4666723172467343360, 4681608360884174848, 4696837146684686336, 4711630319722168320, 4726483295884279808, 4741671816366391296, 4756540486875873280, 4771362005757984768, 4786511204640096256, 4801453603149578240, 4816244402031689728, 4831355200913801216, 4846369599423283200, 4861130398305394688, 4876203697187506176, 4891288408196988160, 4906019910204099648, 4921056587992461136, 4936209963552724370]
theorem tens_ok : ∀ k : Fin 23, tens[k.1]! < INF ∧ val (tens[k.1]!) = p10 (k.1 : Int) := by decide +kernel
theorem tens_at {k : Nat} (h : k < 23) : tens[k]! < INF ∧ val (tens[k]!) = p10 (k : Int) ∧ wordOf false (tens[k]!) = tens[k]! :=
 ⟨(tens_ok ⟨k, h⟩).1, (tens_ok ⟨k, h⟩).2, rfl⟩
theorem sig_tens : ∀ k : Fin 23, sig (tens[k.1]!) ≠ 0 := by decide +kernel
theorem mul_tens (s : Bool) {a m k : Nat} (ha : a < INF) (hv : val a = (m : Rat)) (hk : k < 23) :
  ∃ r, double.mul (wordOf s a) (tens[k]!) = some (wordOf s r) ∧ Near ((m : Rat) * p10 (k : Int)) r := by
 obtain ⟨t1, t2, t3⟩ := tens_at hk
 obtain ⟨r, h1, h2⟩ := mul_near s false ha t1
 rw [t3, Bool.xor_false] at h1
 rw [hv, t2] at h2
 exact ⟨r, h1, h2⟩
theorem div_tens (s : Bool) {a m k : Nat} (ha : a < INF) (hv : val a = (m : Rat)) (hk : k < 23) :
  ∃ r, double.div (wordOf s a) (tens[k]!) = some (wordOf s r) ∧ Near ((m : Rat) * p10 (-(k : Int))) r := by
 obtain ⟨t1, t2, t3⟩ := tens_at hk
 obtain ⟨r, h1, h2⟩ := div_near s false ha t1 (sig_tens ⟨k, hk⟩)
 rw [t3, Bool.xor_false] at h1
 have e : val a / val (tens[k]!) = (m : Rat) * p10 (-(k : Int)) := by
  rw [hv, t2]
  have h3 := p10_neg_mul (k : Int)
  have h4 := Rat.div_mul_cancel (a := (m : Rat)) (Rat.ne_of_gt (p10_pos (k : Int)))
  have h5 : (m : Rat) / p10 (k : Int) * p10 (k : Int) * p10 (-(k : Int)) = (m : Rat) * p10 (-(k : Int)) := by rw [h4]
  rw [Rat.mul_assoc] at h5
  rw [← h5, Rat.mul_comm (p10 (k : Int)), h3, Rat.mul_one]
 rw [e] at h2
 exact ⟨r, h1, h2⟩
theorem exact_small {m j r : Nat} (hn : Near ((m : Rat) * p10 (j : Int)) r) (hr : r ≤ tens[15]!) : r < INF ∧ val r = ((m * 10 ^ j : Nat) : Rat) := by
 have h15 : tens[15]! < INF := (tens_at (by decide)).1
 refine ⟨Nat.lt_of_le_of_lt hr h15, ?_⟩
 have e : (m : Rat) * p10 (j : Int) = ((m * 10 ^ j : Nat) : Rat) := by rw [Rat.natCast_mul, p10_nat]
 rw [e] at hn
 by_cases c : m * 10 ^ j < 2 ^ 53
 ·obtain ⟨r0, h0, h1⟩ := exists_rung c
  rw [← h1] at hn
  have := hn.unique (near_self h0)
  rw [this, h1]
 ·exfalso
  have h53 : val 4845873199050653696 = ((2 ^ 53 : Nat) : Rat) := by decide +kernel
  have h1 := near_mono (near_self (r := 4845873199050653696) (by decide +kernel)) hn (by rw [h53]; exact cast_le (by omega))
  have h2 : tens[15]! < 4845873199050653696 := by decide +kernel
  omega
theorem near_not_inf {m j r : Nat} (hm : m < 2 ^ 53) (hj : j ≤ 22) (hn : Near ((m : Rat) * p10 (j : Int)) r) : r < INF := by
 have hR : (2 ^ 52 * 1200 : Nat) < INF := by decide
 have hv : ((2 ^ 53 * 10 ^ 22 : Nat) : Rat) ≤ val (2 ^ 52 * 1200) := by decide +kernel
 have h1 : (m : Rat) * p10 (j : Int) ≤ ((2 ^ 53 * 10 ^ 22 : Nat) : Rat) := by
  rw [p10_nat, ← Rat.natCast_mul]
  exact cast_le (Nat.mul_le_mul (Nat.le_of_lt hm) (Nat.pow_le_pow_right (by decide) hj))
 exact Nat.lt_of_le_of_lt (near_mono hn (near_self hR) (Rat.le_trans h1 hv)) hR
end FP
namespace FP
structure RSt where
 mant : Nat
 nd : Nat
 nm : Nat
 dp : Int
 tr : Bool
 seen : Bool
 dotted : Bool
def rinit : RSt := ⟨0, 0, 0, 0, false, false, false⟩
def rstep (c : Nat) (r : RSt) : RSt :=
 if c = 46 then { r with dotted := true, dp := r.nd }
 else if c = 48 ∧ r.nd = 0 then { r with seen := true, dp := r.dp - 1 }
 else if r.nm < 19 then { r with seen := true, nd := r.nd + 1, mant := r.mant * 10 + (c - 48), nm := r.nm + 1 }
 else { r with seen := true, nd := r.nd + 1, tr := r.tr || c != 48 }
def rst (g : Nat → Nat) : Nat → RSt
 | 0 => rinit
 | j + 1 => rstep (g j) (rst g j)
structure ROk (j : Nat) (r : RSt) : Prop where
 nd : r.nd ≤ j
 nm : r.nm = min 19 r.nd
 mant : r.mant < 10 ^ r.nm
 lo : -(j : Int) ≤ r.dp
 hi : r.dp ≤ j
theorem rst_ok {g : Nat → Nat} {m : Nat} (h : ∀ j < m, g j = 46 ∨ (48 ≤ g j ∧ g j ≤ 57)) : ∀ j ≤ m, ROk j (rst g j) := by
 intro j
 induction j with
 | zero => intro _; exact ⟨by simp [rst, rinit], by simp [rst, rinit], by simp [rst, rinit], by simp [rst, rinit], by simp [rst, rinit]⟩
 | succ j ih =>
  intro hj
  obtain ⟨a, b, c, d, e⟩ := ih (by omega)
  have hb := h j (by omega)
  simp only [rst]
  generalize rst g j = r at *
  unfold rstep
  split
  ·exact ⟨by simp; omega, b, c, by simp; omega, by simp; omega⟩
  ·split
   ·exact ⟨by simp; omega, b, c, by simp; omega, by simp; omega⟩
   ·split
    ·refine ⟨by simp; omega, by simp; omega, ?_, by simp; omega, by simp; omega⟩
     simp only
     rw [Nat.pow_succ]
     omega
    ·exact ⟨by simp; omega, by simp; omega, c, by simp; omega, by simp; omega⟩
theorem ROk.mant_lt {j : Nat} {r : RSt} (h : ROk j r) : r.mant < 10 ^ 19 :=
 Nat.lt_of_lt_of_le h.mant (Nat.pow_le_pow_right (by decide) (by rw [h.nm]; omega))
def ecl (g : Nat → Nat) : Nat → Nat
 | 0 => 0
 | j + 1 => if ecl g j < 10000 then ecl g j * 10 + (g j - 48) else ecl g j
theorem ecl_lt {g : Nat → Nat} {m : Nat} (h : ∀ j < m, 48 ≤ g j ∧ g j ≤ 57) : ∀ j ≤ m, ecl g j < 100000 := by
 intro j
 induction j with
 | zero => intro _; simp [ecl]
 | succ j ih =>
  intro hj
  have := ih (by omega)
  have := h j (by omega)
  unfold ecl
  split <;> omega
end FP

