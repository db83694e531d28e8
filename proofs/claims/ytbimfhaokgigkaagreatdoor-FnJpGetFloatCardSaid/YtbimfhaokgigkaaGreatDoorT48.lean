/- Walks of functions of FnJpGetFloat (G5); conditions stand ahead of each theorem. -/
import Derived.Test.YtbimfhaokgigkaaGreatDoorT44
import Derived.Test.YtbimfhaokgigkaaGreatDoorT47
set_option linter.unusedVariables false
set_option linter.unusedSimpArgs false
set_option maxRecDepth 1000000
set_option maxHeartbeats 4000000
namespace Go.Proofs.YtbimfhaokgigkaaGreatDoor
open Go.RowKit Go.Proofs.YtbimfhaokgigkaaGreatDoorW.PrintWords Go.Proofs.YtbimfhaokgigkaaGreatDoorW.PrintLast
structure DigsL (M : Nat) (ds : ByteArray) (g : Nat → Nat) : Prop where
 sz : ds.size ≤ M
 bytes : ∀ k < ds.size, bt ds (k : Int) = (g k : Int)
 kinds : ∀ k < ds.size, 48 ≤ g k ∧ g k ≤ 57
theorem DigsL.mono {M M' : Nat} {ds : ByteArray} {g : Nat → Nat} (h : DigsL M ds g) (hM : M ≤ M') : DigsL M' ds g := ⟨Nat.le_trans h.sz hM, h.bytes, h.kinds⟩
theorem dnum_shift {g : Nat → Nat} (i : Nat) (h : ∀ k < i, g k = 48) : ∀ n, FP.dnum 0 g (i + n) = FP.dnum 0 (fun k => g (i + k)) n
 | 0 => by
  induction i with
  | zero => rfl
  | succ i ih =>
   show FP.dnum 0 g i * 10 + (g i - 48) = 0
   have := ih (fun k hk => h k (by omega))
   have h0 : FP.dnum 0 g i = 0 := this
   rw [h0, h i (by omega)]
 | n + 1 => by
  show FP.dnum 0 g (i + n) * 10 + (g (i + n) - 48) = FP.dnum 0 (fun k => g (i + k)) n * 10 + (g (i + n) - 48)
  rw [dnum_shift i h n]
theorem dnum_tail {g : Nat → Nat} (m : Nat) : ∀ q, (∀ k, m ≤ k → k < m + q → g k = 48) → FP.dnum 0 g (m + q) = FP.dnum 0 g m * 10 ^ q
 | 0, _ => by simp
 | q + 1, h => by
  show FP.dnum 0 g (m + q) * 10 + (g (m + q) - 48) = _
  rw [dnum_tail m q (fun k h1 h2 => h k h1 (by omega)), h (m + q) (by omega) (by omega), Nat.pow_succ, Nat.mul_assoc, Nat.sub_self, Nat.add_zero]
def BarePost (w : World) (X : Rat) (p0 n0 : Int) (e : Ending) (w' : World) : Prop :=
 w' = w ∧ ∃ (ds : ByteArray) (P : Int) (g : Nat → Nat), e = .returned (.tuple #[.string ds, .int .i64 P]) ∧ DigsL n0.toNat ds g ∧ (ds.size ≠ 0 → 49 ≤ g 0) ∧ (FP.dnum 0 g ds.size : Rat) * FP.p10 P = X ∧ (P = 0 ∨ (p0 ≤ P ∧ P ≤ p0 + n0))
theorem reads_tail {w : World} {ad : Addr} {m c : Nat} {xs : List Int} (h : ReadsInt w .u8 (some ad) (m + 1) xs) (hc : m + 1 ≤ c) : ReadsInt w .u8 (if c = 1 then some ad else some (ad.add 1)) m (xs.drop 1) := by
 obtain ⟨h1, h2, h3⟩ := h
 refine ⟨by rw [List.length_drop]; omega, by omega, fun h0 => ?_⟩
 obtain ⟨ad', e, h4⟩ := h3 (by omega)
 obtain rfl := Option.some.inj e
 refine ⟨ad.add 1, by rw [if_neg (by omega)], fun j hj => ?_⟩
 have h5 := h4 (1 + j) (by omega)
 have e1 : (ad.add 1).add j = ad.add (1 + j) := by
  unfold Addr.add
  split <;> split <;> simp_all <;> omega
 rw [e1, h5]
 simp [List.getD, List.getElem?_drop, Nat.add_comm 1 j]
theorem reads_front {w : World} {A : Option Addr} {m : Nat} {xs : List Int} (h : ReadsInt w .u8 A (m + 1) xs) : ReadsInt w .u8 A m (xs.take m) := by
 obtain ⟨h1, h2, h3⟩ := h
 refine ⟨by rw [List.length_take]; omega, by omega, fun h0 => ?_⟩
 obtain ⟨ad', e, h4⟩ := h3 (by omega)
 refine ⟨ad', e, fun j hj => ?_⟩
 rw [h4 j (by omega)]
 simp [List.getD, List.getElem?_take, hj]
theorem bt_strOf {xs : List Int} {k : Nat} (hk : k < xs.length) (h : ∀ x ∈ xs, 0 ≤ x ∧ x < 256) : bt (strOfNums xs) (k : Int) = xs.getD k 0 := by
 have h1 : ((k : Int)).toNat < (strOfNums xs).size := by rw [strOfNums_size]; omega
 unfold bt
 rw [dif_pos h1]
 have h2 := h (xs[k]) (List.getElem_mem hk)
 have h3 : (strOfNums xs)[((k : Int)).toNat]'h1 = UInt8.ofNat (xs[k]).toNat := by
  simp [strOfNums, ByteArray.getElem_eq_getElem_data]
 rw [h3]
 have h4 : xs.getD k 0 = xs[k] := by simp [List.getD, hk]
 rw [h4]
 simp
 omega
theorem bare_calls (w : World) (A : Option Addr) (n c : Nat) (xs : List Int) (g : Nat → Nat) (hr : ReadsInt w .u8 A n xs) (hc : n ≤ c) (hn : n ≤ 65536) (hg : ∀ k < n, xs.getD k 0 = (g k : Int)) (hk : ∀ k < n, 48 ≤ g k ∧ g k ≤ 57)
  (p : Int) (hp0 : -2000000000000000 ≤ p) (hp1 : p ≤ 2000000000000000) :
  Calls Tryz.prog 33 #[.slice A n c, .int .i64 p] w (BarePost w ((FP.dnum 0 g n : Rat) * FP.p10 p) p n) := by
 refine byR fun R hR => ?_
 have HR := az hR
 have H := az5 hr hc hn hg hk
 clear hR hr hc hn hg hk
 go_enter Tryz.func33, Tryz.ntmps33
 go_wp2_with fail
 go_loopg [0] n (fun q v0 w' => ∃ (i m c' : Nat) (A' : Option Addr), v0 = .slice A' m c' ∧ Aside0 (q = m ∧ i + m = n ∧ m ≤ c' ∧ ReadsInt w .u8 A' m (xs.drop i) ∧ ∀ k < i, g k = 48) ∧ Aside0 (w' = w))
 case atStart => exact ⟨0, n, c, A, rfl, ⟨⟨rfl, by omega, H.out.2.1, by rw [List.drop_zero]; exact H.out.1, fun k hk => absurd hk (by omega)⟩⟩, ⟨rfl⟩⟩
 case round =>
  obtain ⟨i, m, c', A', rfl, hkk, hw⟩ := hrel
  obtain rfl := hw.out
  obtain ⟨k1, k2, k3, k4, k5⟩ := hkk.out
  have hm8 : (m : Int) ≤ 65536 := by have := H.out.2.2.1; omega
  by_cases hm : 0 < m ∧ g i = 48
  ·obtain ⟨hm0, h48⟩ := hm
   obtain ⟨m1, hm1⟩ : ∃ m1, m = m1 + 1 := ⟨m - 1, by omega⟩
   subst hm1
   obtain ⟨ad, hA, hcell⟩ := k4.2.2 (by omega)
   subst hA
   have h0 := hcell 0 (by omega)
   have hx : (xs.drop i).getD 0 0 = 48 := by
    have := H.out.2.2.2.1 i (by omega)
    rw [h48] at this
    simp only [List.getD, List.getElem?_drop, Nat.add_zero] at this ⊢
    exact this
   rw [hx] at h0
   have h0' : wr.cell? ad = some (.int .u8 48) := by
    have e : ad.add 0 = ad := by simp [Addr.add]
    rwa [e] at h0
   have p1i : ((1 : Int) ≤ ((m1 + 1 : Nat) : Int)) = True := eT
   have p1n : (1 ≤ m1 + 1) = True := eT
   have HT := az (reads_tail (c := c') k4 k3)
   have HK := az5 k1 k2 k3 k5 h48
   clear hkk k1 k2 k3 k4 k5 hm0 h48 hcell hx h0
   go_wp2_with fail
   all_goals
    go_roundg m1
    case measure => have := HK.out.1; omega
    case rel =>
     have K := HK.out
     refine ⟨i + 1, m1, _, _, rfl, ⟨⟨rfl, by omega, by omega, ?_, ?_⟩⟩, ⟨rfl⟩⟩
     ·have T := HT.out
      rw [List.drop_drop] at T
      first | (rw [if_pos (by assumption)] at T; exact T) | (rw [if_neg (by assumption)] at T; exact T)
     ·intro k hk
      by_cases e : k = i
      ·rw [e]; exact K.2.2.2.2
      ·exact K.2.2.2.1 k (by omega)
  ·
   have hA : (m = 0) ∨ (∃ ad, A' = some ad ∧ wr.cell? ad = some (.int .u8 (g i : Int)) ∧ g i ≠ 48 ∧ 0 < m) := by
    by_cases h0 : m = 0
    ·exact .inl h0
    ·refine .inr ?_
     obtain ⟨ad, hA, hcell⟩ := k4.2.2 (by omega)
     have h0' := hcell 0 (by omega)
     have hx : (xs.drop i).getD 0 0 = (g i : Int) := by
      have := H.out.2.2.2.1 i (by omega)
      simp only [List.getD, List.getElem?_drop, Nat.add_zero] at this ⊢
      exact this
     rw [hx] at h0'
     refine ⟨ad, hA, ?_, fun h => hm ⟨by omega, h⟩, by omega⟩
     have e : ad.add 0 = ad := by simp [Addr.add]
     rwa [e] at h0'
   have h9 : (49 ≤ g i ∧ 0 < m) ∨ m = 0 := by
    rcases hA with h | ⟨_, _, _, h, h0⟩
    ·exact .inr h
    ·have := (H.out.2.2.2.2 i (by omega)).1; exact .inl ⟨by omega, h0⟩
   have HK := az5 k2 k3 k4 k5 h9
   clear hkk k1 k2 k3 k4 k5 hm h9
   rcases hA with rfl | ⟨ad, rfl, h0', h48, hm0⟩
   ·have FIN : Aside0 (R (.returned (.tuple #[.string (strOfNums []), .int .i64 0])) wr) := ⟨by
     rw [HR.out]
     have K := HK.out
     have e : n = i := by omega
     refine ⟨rfl, strOfNums [], 0, fun _ => 48, rfl, ⟨by rw [strOfNums_size]; exact Nat.zero_le _, fun k hk => by rw [strOfNums_size] at hk; exact absurd hk (by simp), fun k _ => ⟨Nat.le_refl _, by decide⟩⟩, fun h => absurd (by rw [strOfNums_size]; rfl) h, ?_, .inl rfl⟩
     have e2 : FP.dnum 0 g n = 0 := by rw [e]; have := dnum_shift i K.2.2.2.1 0; rw [Nat.add_zero] at this; rw [this]; rfl
     have e3 : (strOfNums []).size = 0 := by rw [strOfNums_size]; rfl
     rw [e2, e3]
     show ((0 : Nat) : Rat) * _ = ((0 : Nat) : Rat) * _
     have z : ((0 : Nat) : Rat) = 0 := rfl
     rw [z, Rat.zero_mul, Rat.zero_mul]⟩
    have hcv := string_of_reads (P := Tryz.prog) (src := 43) (dst := 9) (e := 5) (c := c') Tryz.underlying43 Tryz.underlying5 Tryz.underlying9 HK.out.2.2.1
    have hnil : xs.drop i = [] := List.eq_nil_of_length_eq_zero HK.out.2.2.1.1
    rw [hnil] at hcv
    clear hnil hm8
    go_wp2_with fail
    refine wp_loop_rounds 1 ?_
    rw [rounds_succ]
    go_wp2_with fail
    exact FIN.out
   ·obtain ⟨m1, hm1⟩ : ∃ m1, m = m1 + 1 := ⟨m - 1, by omega⟩
    subst hm1
    have t48 : ((g i : Int) == 48) = false := bF
    have t48n : (g i == 48) = false := by rw [beq_eq_false_iff_ne]; exact h48
    have HI := az h48
    clear h48 hm0
    go_wp2_with fail
    go_loopg [0, 1] m1 (fun q v0 v1 w' => ∃ (m q2 : Nat), v0 = .slice (some ad) (m + 1) c' ∧ v1 = .int .i64 (p + (q2 : Int)) ∧ Aside0 (q = m ∧ m + q2 = m1 ∧ ReadsInt wr .u8 (some ad) (m + 1) ((xs.drop i).take (m + 1)) ∧ ∀ k, m + 1 ≤ k → k < m1 + 1 → g (i + k) = 48) ∧ Aside0 (w' = wr))
    case atStart => exact ⟨m1, 0, rfl, by simp, ⟨⟨rfl, rfl, by rw [List.take_of_length_le (by rw [HK.out.2.2.1.1]; exact Nat.le_refl _)]; exact HK.out.2.2.1, fun k h1 h2 => absurd h1 (by omega)⟩⟩, ⟨rfl⟩⟩
    case round =>
     obtain ⟨m, q2, rfl, rfl, hkk2, hw2⟩ := hrel
     have e := hw2.out
     subst e
     obtain ⟨l1, l2, l3, l4⟩ := hkk2.out
     have hxm : ((xs.drop i).take (m + 1)).getD m 0 = (g (i + m) : Int) := by
      have := H.out.2.2.2.1 (i + m) (by have := HK.out.1; omega)
      simp only [List.getD, List.getElem?_take, List.getElem?_drop] at this ⊢
      rw [if_pos (by omega)]
      exact this
     have hcm : wr.cell? (ad.add m) = some (.int .u8 (g (i + m) : Int)) := by
      obtain ⟨ad', e, hc⟩ := l3.2.2 (by omega)
      obtain rfl := Option.some.inj e
      rw [hc m (by omega), hxm]
     have hq8 : (q2 : Int) ≤ 65536 := by omega
     have p5 : (0 ≤ (m : Int)) = True := eT
     by_cases h48 : g (i + m) = 48
     ·have hm0 : m ≠ 0 := fun h => HI.out (by rw [h] at h48; exact h48)
      obtain ⟨m2, hm2⟩ : ∃ m2, m = m2 + 1 := ⟨m - 1, by omega⟩
      subst hm2
      rw [h48] at hcm
      have hcm2 : wr.cell? ⟨ad.block, ad.off + (m2 + 1), none⟩ = some (.int .u8 48) := hcm
      have LT := az (reads_front l3)
      have hmb : (m2 : Int) ≤ 65534 := by omega
      have qc : ((m2 : Int) + 1 ≤ (c' : Int)) = True := eq_true (by have := HK.out.2.1; omega)
      have qcn : (m2 + 1 ≤ c') = True := eq_true (by have := HK.out.2.1; omega)
      have HK2 := az4 l1 l2 l4 h48
      clear hkk2 l1 l2 l3 l4 hxm h48 hm0
      go_wp2_with fail
      go_roundg m2
      case measure => have := HK2.out.1; omega
      case rel =>
       have K := HK2.out
       refine ⟨m2, q2 + 1, by first | rfl | go_num, by go_num, ⟨⟨rfl, by omega, ?_, ?_⟩⟩, ⟨rfl⟩⟩
       ·have T := LT.out
        rw [List.take_take] at T
        rw [Nat.min_eq_left (by omega)] at T
        exact T
       ·intro k h1 h2
        by_cases e : k = m2 + 1
        ·rw [e]; exact K.2.2.2
        ·exact K.2.2.1 k (by omega) h2
     ·have t482 : ((g (i + m) : Int) == 48) = false := bF
      have t482n : (g (i + m) == 48) = false := by rw [beq_eq_false_iff_ne]; exact h48
      have hcv := string_of_reads (P := Tryz.prog) (src := 43) (dst := 9) (e := 5) (c := c') Tryz.underlying43 Tryz.underlying5 Tryz.underlying9 l3
      have FIN : Aside0 (R (.returned (.tuple #[.string (strOfNums ((xs.drop i).take (m + 1))), .int .i64 (p + (q2 : Int))])) wr) := ⟨by
       rw [HR.out]
       have K := HK.out
       have hl : ((xs.drop i).take (m + 1)).length = m + 1 := l3.1
       have hget : ∀ k < m + 1, ((xs.drop i).take (m + 1)).getD k 0 = (g (i + k) : Int) := by
        intro k hk
        have := H.out.2.2.2.1 (i + k) (by omega)
        simp only [List.getD, List.getElem?_take, List.getElem?_drop] at this ⊢
        rw [if_pos hk]
        exact this
       have hall : ∀ x ∈ (xs.drop i).take (m + 1), 0 ≤ x ∧ x < 256 := by
        intro x hx
        obtain ⟨k, hk, e⟩ := List.getElem_of_mem hx
        have h1 := hget k (by omega)
        rw [List.getD_eq_getElem?_getD, List.getElem?_eq_getElem hk] at h1
        have h2 := H.out.2.2.2.2 (i + k) (by omega)
        have h3 : x = (g (i + k) : Int) := by rw [← e]; exact h1
        omega
       have hsz : (strOfNums ((xs.drop i).take (m + 1))).size = m + 1 := by rw [strOfNums_size, hl]
       refine ⟨rfl, _, _, fun k => g (i + k), rfl, ⟨by rw [hsz]; have := H.out.2.2.1; omega, fun k hk => ?_, fun k hk => ?_⟩, fun _ => ?_, ?_, .inr ⟨by omega, by omega⟩⟩
       ·rw [hsz] at hk
        rw [bt_strOf (by omega) hall]
        exact hget k hk
       ·rw [hsz] at hk
        exact H.out.2.2.2.2 (i + k) (by omega)
       ·show 49 ≤ g (i + 0)
        have h0 := HI.out
        have := (H.out.2.2.2.2 i (by omega)).1
        rw [Nat.add_zero]; omega
       ·have e1 : FP.dnum 0 g n = FP.dnum 0 (fun k => g (i + k)) (m + 1) * 10 ^ q2 := by
         rw [show n = i + (m + 1 + q2) by omega, dnum_shift i K.2.2.2.1, dnum_tail (m + 1) q2 (fun k h1 h2 => l4 k h1 (by omega))]
        rw [hsz, e1, Rat.natCast_mul, ← FP.p10_nat, Rat.mul_assoc, ← FP.p10_add, Int.add_comm]⟩
      have hmb : (m : Int) ≤ 65535 := by omega
      clear hkk2 l1 l2 l3 l4 hxm h48
      go_wp2_with fail
      exact FIN.out
end Go.Proofs.YtbimfhaokgigkaaGreatDoor
