/- Walks of functions of FnJpGetFloat (G3, G4); conditions stand ahead of each theorem. -/
import Derived.Test.YtbimfhaokgigkaaGreatDoorT39
import Derived.Test.YtbimfhaokgigkaaGreatDoorT03
set_option maxRecDepth 100000
set_option maxHeartbeats 2000000
namespace Go.Proofs.YtbimfhaokgigkaaGreatDoor
open Go.RowKit Go.Proofs.YtbimfhaokgigkaaGreatDoorW.PrintWords Go.Proofs.YtbimfhaokgigkaaGreatDoorW.PrintLast
def IsNumPost (w : World) (s : ByteArray) (e : Ending) (w' : World) : Prop :=
 ∃ b : Bool, e = .returned (.bool b) ∧ Below w.heap.size w w' ∧ (b = true → ∃ neg W F x esg N, Num0 s neg W F x esg N)
theorem isNumber_calls (s : ByteArray) (hs : s.size ≤ 65536) (w : World) : Calls Tryz.prog 31 #[.string s] w (IsNumPost w s) := by
 refine byR fun R hR => ?_
 have HR := az hR
 have hB : Below w.heap.size w (w.alloc (.cells #[.string s, .int .i64 0] 61)) := (Below.refl _ _).alloc (Nat.le_refl _) _
 have CN := az (JS.number_calls (w := w.alloc (.cells #[.string s, .int .i64 0] 61)) (g := w.heap.size) (p := 0) (heap_alloc_new w _) hs (Nat.zero_le _))
 have HB := az hB
 clear hR hs hB
 go_enter Tryz.func31, Tryz.ntmps31
 go_wp2_with fail
 refine CN.out.mono ?_
 rintro e w1 ⟨b, q, ⟨rfl, hr, hg⟩, hb⟩
 dsimp only
 have h1 := (blk_cell hr 1).trans rfl
 have hG := JS.grown_trans (grown_of_below HB.out _) hg
 have H1 := az2 (show Below w.heap.size w w1 from ⟨hG.os, hG.tape, hG.output, hG.size, fun k hk => hG.block k hk fun e => by cases e; omega⟩) hb
 clear hr hg hb hG
 cases b with
 | false =>
  go_wp2_with fail
  rw [HR.out]
  exact ⟨false, rfl, H1.out.1, fun h => by cases h⟩
 | true =>
  obtain ⟨hn, hm⟩ := H1.out.2 (by trivial)
  have HM := az hm
  clear hn hm
  by_cases hq : q = s.size
  ·have t1 : ((q : Int) == (s.size : Int)) = true := bT
   have t1n : (q == s.size) = true := bT
   have HQ := az hq
   clear hq
   go_wp2_with fail
   rw [HR.out]
   exact ⟨true, rfl, H1.out.1, fun _ => (show JS.Nm s 0 s.size from HQ.out ▸ HM.out).num0⟩
  ·have t1 : ((q : Int) == (s.size : Int)) = false := bF
   have t1n : (q == s.size) = false := bF
   clear hq
   go_wp2_with fail
   rw [HR.out]
   exact ⟨false, rfl, H1.out.1, fun h => by cases h⟩
theorem bt_ext {s : ByteArray} {a b k : Nat} (h : a + k < b) (hb : b ≤ s.size) : bt (s.extract a b) (k : Int) = bt s ((a + k : Nat) : Int) := by
 unfold bt
 have h1 : ((k : Int)).toNat < (s.extract a b).size := by rw [ByteArray.size_extract]; omega
 have h2 : (((a + k : Nat) : Int)).toNat < s.size := by omega
 rw [dif_pos h1, dif_pos h2]
 rw [ByteArray.getElem_extract]
 rfl
theorem ext_size {s : ByteArray} {a b : Nat} (h : a ≤ b) (hb : b ≤ s.size) : (s.extract a b).size = b - a := by rw [ByteArray.size_extract]; omega
def sdig (g : Nat → Nat) : Nat → Nat
 | 0 => 0
 | k + 1 => if 0 < sdig g k ∨ g k ≠ 48 then sdig g k + 1 else sdig g k
theorem sdig_lt {g : Nat → Nat} {n : Nat} (h : ∀ k < n, g k ≤ 57) : ∀ k ≤ n, FP.dnum 0 g k < 10 ^ sdig g k
 | 0, _ => by show 0 < 10 ^ 0; decide
 | k + 1, hk => by
  have ih := sdig_lt h k (by omega)
  have := h k (by omega)
  show FP.dnum 0 g k * 10 + (g k - 48) < 10 ^ (if 0 < sdig g k ∨ g k ≠ 48 then sdig g k + 1 else sdig g k)
  by_cases c : 0 < sdig g k ∨ g k ≠ 48
  ·rw [if_pos c, Nat.pow_succ]; omega
  ·rw [if_neg c]
   have h0 : sdig g k = 0 := by omega
   have h48 : g k = 48 := by omega
   rw [h0] at ih ⊢
   rw [h48]
   omega
theorem sdig_ge {g : Nat → Nat} {n : Nat} (h : ∀ k < n, 48 ≤ g k) : ∀ k ≤ n, 0 < sdig g k → 10 ^ (sdig g k - 1) ≤ FP.dnum 0 g k
 | 0, _, h0 => absurd h0 (by show ¬ 0 < 0; decide)
 | k + 1, hk, h0 => by
  have ih := sdig_ge h k (by omega)
  have := h k (by omega)
  have hs : sdig g (k + 1) = if 0 < sdig g k ∨ g k ≠ 48 then sdig g k + 1 else sdig g k := rfl
  have hd : FP.dnum 0 g (k + 1) = FP.dnum 0 g k * 10 + (g k - 48) := rfl
  rw [hd]
  by_cases c : 0 < sdig g k ∨ g k ≠ 48
  ·rw [if_pos c] at hs
   rw [hs, Nat.add_sub_cancel]
   by_cases c2 : 0 < sdig g k
   ·have ih := ih c2
    obtain ⟨m, hm⟩ : ∃ m, sdig g k = m + 1 := ⟨sdig g k - 1, by omega⟩
    rw [hm, Nat.add_sub_cancel] at ih
    rw [hm, Nat.pow_succ]
    omega
   ·have e : sdig g k = 0 := by omega
    rw [e, Nat.pow_zero]
    omega
  ·rw [if_neg c] at hs
   omega
def SgPost (w : World) (esg : Int) (E : Nat) (e : Ending) (w' : World) : Prop := w' = w ∧ ∃ (n : Int) (ok : Bool), e = .returned (.tuple #[.int .i64 n, .bool ok]) ∧ (ok = true → n = esg * (E : Int) ∧ E < 10 ^ 15) ∧ (ok = false → 10 ^ 15 ≤ E)
theorem signed_minus (t : ByteArray) (N : Nat) (g : Nat → Nat) (hN : 1 ≤ N) (hs : N ≤ 65535) (h1 : t.size = N + 1) (hb : bt t ((0 : Nat) : Int) = 45) (hg : ∀ k < N, bt t ((1 + k : Nat) : Int) = (g k : Int)) (hk : ∀ k < N, 48 ≤ g k ∧ g k ≤ 57) (w : World) : Calls Tryz.prog 32 #[.string t] w (SgPost w (-1) (FP.dnum 0 g N)) := by
 have p0 : (0 < t.size) = True := eT
 refine byR fun R hR => ?_
 have HR := az hR
 have x0 : ∀ h : 0 < t.size, ((t[0]'h).toNat : Int) = bt t ((0 : Nat) : Int) := fun h => bt_at t ((0 : Nat) : Int) h
 rw [hb] at x0
 have p1i : ((1 : Int) ≤ (t.size : Int)) = True := eT
 have HG := az (fun (k : Nat) (h : k < N) => (bt_ext (s := t) (a := 1) (b := t.size) (k := k) (by omega) (Nat.le_refl _)).trans (hg k h))
 have HZ := az (show (t.extract 1 t.size).size = N by rw [ext_size (by omega) (Nat.le_refl _)]; omega)
 have ht8 : (t.size : Int) ≤ 65536 := by omega
 clear hb hg
 have HK := az hk
 have H1 := az h1
 clear hk hR h1
 go_enter Tryz.func32, Tryz.ntmps32
 go_wp2_with fail
 obtain ⟨d, hd⟩ : ∃ d, d = t.extract 1 t.size := ⟨_, rfl⟩
 rw [← hd] at HG HZ
 rw [← hd]
 clear hd
 have HN := az hN
 have hZ := HZ.out
 have hz8 : (d.size : Int) ≤ 65536 := by omega
 clear hN hs hZ p0
 have FIN : Aside0 (∀ (n : Int) (ok : Bool), True → ((ok = true → n = (-1) * ((FP.dnum 0 g N : Nat) : Int) ∧ FP.dnum 0 g N < 10 ^ 15) ∧ (ok = false → 10 ^ 15 ≤ FP.dnum 0 g N)) → R (.returned (.tuple #[.int .i64 n, .bool ok])) w) := ⟨fun n ok _ h => by rw [HR.out]; exact ⟨rfl, n, ok, rfl, h⟩⟩
 go_loopg [5, 6, 7] N (fun q v5 v6 v7 w' => ∃ k : Nat, v7 = .int .i64 (k : Int) ∧ v6 = .int .i64 ((sdig g k : Nat) : Int) ∧ v5 = .int .i64 ((FP.dnum 0 g k : Nat) : Int) ∧ Aside0 (q = N - k ∧ k ≤ N ∧ sdig g k ≤ 15) ∧ Aside0 (w' = w))
 case atStart => exact ⟨0, rfl, rfl, rfl, ⟨⟨rfl, Nat.zero_le _, Nat.zero_le _⟩⟩, ⟨rfl⟩⟩
 case round =>
  obtain ⟨k, rfl, rfl, rfl, hkk, hw⟩ := hrel
  obtain rfl := hw.out
  by_cases hlt : k < N
  ·have hZ2 := HZ.out
   have hlt2 : k < d.size := by omega
   have hbk := HG.out k hlt
   have hkd := HK.out k hlt
   have hx5 : ∀ h : k < d.size, ((d[k]'h).toNat : Int) = (g k : Int) := fun h => (bt_at d (k : Int) h).trans hbk
   have hsd := hkk.out.2.2
   have hdl := sdig_lt (g := g) (n := N) (fun j hj => (HK.out j hj).2) k hkk.out.2.1
   have hdl2 : FP.dnum 0 g k < 10 ^ 15 := Nat.lt_of_lt_of_le hdl (Nat.pow_le_pow_right (by decide) hsd)
   have HL := az hlt
   have stepn : FP.dnum 0 g (k + 1) = FP.dnum 0 g k * 10 + (g k - 48) := rfl
   have steps : sdig g (k + 1) = if 0 < sdig g k ∨ g k ≠ 48 then sdig g k + 1 else sdig g k := rfl
   obtain ⟨E, hE⟩ : ∃ E, E = FP.dnum 0 g k := ⟨_, rfl⟩
   obtain ⟨S, hS⟩ : ∃ S, S = sdig g k := ⟨_, rfl⟩
   obtain ⟨c, hc⟩ : ∃ c, c = g k := ⟨_, rfl⟩
   rw [← hE, ← hc] at stepn
   rw [← hS, ← hc] at steps
   rw [← hE] at hdl2
   rw [← hS] at hsd
   rw [← hc] at hx5 hkd
   rw [← hE, ← hS]
   have hE15 : E < 1000000000000000 := hdl2
   have eE : (E : Int) * 10 + ((c : Int) - 48) = ((E * 10 + (c - 48) : Nat) : Int) := by omega
   have SN := az stepn
   have SS := az steps
   clear hbk hdl hdl2 hZ2 hE hS hc stepn steps hlt
   by_cases h0 : 0 < S ∨ c ≠ 48
   ·have SS2 := az (SS.out.trans (if_pos h0))
    have two : (decide (0 < S) = true ∧ decide ((0 : Int) < (S : Int)) = true) ∨ (S = 0 ∧ ((c : Int) == 48) = false ∧ ((c : Int) != 48) = true) := by
     by_cases hS0 : S = 0
     ·exact .inr ⟨hS0, by rw [beq_eq_false_iff_ne]; omega, by rw [bne_iff_ne]; omega⟩
     ·exact .inl ⟨decide_eq_true (by omega), decide_eq_true (by omega)⟩
    clear SS h0
    rcases two with ⟨t1n, t1⟩ | ⟨rfl, t3, t3n⟩
    ·by_cases h15 : S = 15
     ·have LB := az (show 10 ^ 15 ≤ FP.dnum 0 g N by
       have h1 := sdig_ge (g := g) (n := N) (fun j hj => (HK.out j hj).1) (k + 1) (by have := HL.out; omega) (by rw [SS2.out]; omega)
       rw [SS2.out, h15] at h1
       exact Nat.le_trans h1 (FP.dnum_mono 0 g (by have := HL.out; omega)))
      subst h15
      go_wp2_with fail
      exact FIN.out 0 false trivial ⟨fun h => absurd h (by decide), fun _ => LB.out⟩
     ·have t4 : decide ((15 : Int) < (S : Int) + 1) = false := dF
      have t4n : decide (15 < S + 1) = false := dF
      go_wp2_with fail
      go_roundg (N - (k + 1))
      case measure => have := hkk.out; have := HL.out; omega
      case rel => exact ⟨k + 1, by go_num, (by rw [SS2.out]; first | rfl | go_num), by rw [SN.out]; first | exact congrArg _ eE | exact (congrArg (fun z => Value.int .i64 z) eE) | rfl, ⟨⟨rfl, by have := HL.out; omega, by rw [SS2.out]; omega⟩⟩, ⟨rfl⟩⟩
    ·go_wp2_with fail
     go_roundg (N - (k + 1))
     case measure => have := hkk.out; have := HL.out; omega
     case rel => exact ⟨k + 1, by go_num, (by rw [SS2.out]; first | rfl | go_num), by rw [SN.out]; first | exact congrArg _ eE | exact (congrArg (fun z => Value.int .i64 z) eE) | rfl, ⟨⟨rfl, by have := HL.out; omega, by rw [SS2.out]; omega⟩⟩, ⟨rfl⟩⟩
   ·have hS0 : S = 0 := by omega
    have hc48 : c = 48 := by omega
    have SS2 := az (SS.out.trans (if_neg h0))
    clear SS h0
    subst hS0 hc48
    go_wp2_with fail
    go_roundg (N - (k + 1))
    case measure => have := hkk.out; have := HL.out; omega
    case rel => exact ⟨k + 1, by go_num, (by rw [SS2.out]; first | rfl | go_num), by rw [SN.out]; first | exact congrArg _ eE | exact (congrArg (fun z => Value.int .i64 z) eE) | rfl, ⟨⟨rfl, by have := HL.out; omega, by rw [SS2.out]; omega⟩⟩, ⟨rfl⟩⟩
  ·have e : k = N := by have := hkk.out; omega
   subst e
   have t0 : decide ((d.size : Int)  ≤ (k : Int)) = true := decide_eq_true (by have := HZ.out; omega)
   have hsd := hkk.out.2.2
   have hdl := sdig_lt (g := g) (n := k) (fun j hj => (HK.out j hj).2) k (Nat.le_refl _)
   have hdl2 : FP.dnum 0 g k < 10 ^ 15 := Nat.lt_of_lt_of_le hdl (Nat.pow_le_pow_right (by decide) hsd)
   have hZ3 := HZ.out
   obtain ⟨E, hE⟩ : ∃ E, E = FP.dnum 0 g k := ⟨_, rfl⟩
   have HE := az hE
   rw [← hE]
   rw [← hE] at hdl2
   have HD := az hdl2
   have hE15 : (E : Int) ≤ 1000000000000000 := by omega
   clear hlt hsd hdl hdl2 hE
   go_wp2_with fail
   exact FIN.out _ true trivial ⟨fun _ => ⟨by first | omega | (rw [← HE.out]; omega), by rw [← HE.out]; exact HD.out⟩, fun h => absurd h (by decide)⟩
theorem signed_plus (t : ByteArray) (N : Nat) (g : Nat → Nat) (hN : 1 ≤ N) (hs : N ≤ 65535) (h1 : t.size = N + 1) (hb : bt t ((0 : Nat) : Int) = 43) (hg : ∀ k < N, bt t ((1 + k : Nat) : Int) = (g k : Int)) (hk : ∀ k < N, 48 ≤ g k ∧ g k ≤ 57) (w : World) : Calls Tryz.prog 32 #[.string t] w (SgPost w 1 (FP.dnum 0 g N)) := by
 have p0 : (0 < t.size) = True := eT
 refine byR fun R hR => ?_
 have HR := az hR
 have x0 : ∀ h : 0 < t.size, ((t[0]'h).toNat : Int) = bt t ((0 : Nat) : Int) := fun h => bt_at t ((0 : Nat) : Int) h
 rw [hb] at x0
 have p1i : ((1 : Int) ≤ (t.size : Int)) = True := eT
 have HG := az (fun (k : Nat) (h : k < N) => (bt_ext (s := t) (a := 1) (b := t.size) (k := k) (by omega) (Nat.le_refl _)).trans (hg k h))
 have HZ := az (show (t.extract 1 t.size).size = N by rw [ext_size (by omega) (Nat.le_refl _)]; omega)
 have ht8 : (t.size : Int) ≤ 65536 := by omega
 clear hb hg
 have HK := az hk
 have H1 := az h1
 clear hk hR h1
 go_enter Tryz.func32, Tryz.ntmps32
 go_wp2_with fail
 obtain ⟨d, hd⟩ : ∃ d, d = t.extract 1 t.size := ⟨_, rfl⟩
 rw [← hd] at HG HZ
 rw [← hd]
 clear hd
 have HN := az hN
 have hZ := HZ.out
 have hz8 : (d.size : Int) ≤ 65536 := by omega
 clear hN hs hZ p0
 have FIN : Aside0 (∀ (n : Int) (ok : Bool), True → ((ok = true → n = 1 * ((FP.dnum 0 g N : Nat) : Int) ∧ FP.dnum 0 g N < 10 ^ 15) ∧ (ok = false → 10 ^ 15 ≤ FP.dnum 0 g N)) → R (.returned (.tuple #[.int .i64 n, .bool ok])) w) := ⟨fun n ok _ h => by rw [HR.out]; exact ⟨rfl, n, ok, rfl, h⟩⟩
 go_loopg [5, 6, 7] N (fun q v5 v6 v7 w' => ∃ k : Nat, v7 = .int .i64 (k : Int) ∧ v6 = .int .i64 ((sdig g k : Nat) : Int) ∧ v5 = .int .i64 ((FP.dnum 0 g k : Nat) : Int) ∧ Aside0 (q = N - k ∧ k ≤ N ∧ sdig g k ≤ 15) ∧ Aside0 (w' = w))
 case atStart => exact ⟨0, rfl, rfl, rfl, ⟨⟨rfl, Nat.zero_le _, Nat.zero_le _⟩⟩, ⟨rfl⟩⟩
 case round =>
  obtain ⟨k, rfl, rfl, rfl, hkk, hw⟩ := hrel
  obtain rfl := hw.out
  by_cases hlt : k < N
  ·have hZ2 := HZ.out
   have hlt2 : k < d.size := by omega
   have hbk := HG.out k hlt
   have hkd := HK.out k hlt
   have hx5 : ∀ h : k < d.size, ((d[k]'h).toNat : Int) = (g k : Int) := fun h => (bt_at d (k : Int) h).trans hbk
   have hsd := hkk.out.2.2
   have hdl := sdig_lt (g := g) (n := N) (fun j hj => (HK.out j hj).2) k hkk.out.2.1
   have hdl2 : FP.dnum 0 g k < 10 ^ 15 := Nat.lt_of_lt_of_le hdl (Nat.pow_le_pow_right (by decide) hsd)
   have HL := az hlt
   have stepn : FP.dnum 0 g (k + 1) = FP.dnum 0 g k * 10 + (g k - 48) := rfl
   have steps : sdig g (k + 1) = if 0 < sdig g k ∨ g k ≠ 48 then sdig g k + 1 else sdig g k := rfl
   obtain ⟨E, hE⟩ : ∃ E, E = FP.dnum 0 g k := ⟨_, rfl⟩
   obtain ⟨S, hS⟩ : ∃ S, S = sdig g k := ⟨_, rfl⟩
   obtain ⟨c, hc⟩ : ∃ c, c = g k := ⟨_, rfl⟩
   rw [← hE, ← hc] at stepn
   rw [← hS, ← hc] at steps
   rw [← hE] at hdl2
   rw [← hS] at hsd
   rw [← hc] at hx5 hkd
   rw [← hE, ← hS]
   have hE15 : E < 1000000000000000 := hdl2
   have eE : (E : Int) * 10 + ((c : Int) - 48) = ((E * 10 + (c - 48) : Nat) : Int) := by omega
   have SN := az stepn
   have SS := az steps
   clear hbk hdl hdl2 hZ2 hE hS hc stepn steps hlt
   by_cases h0 : 0 < S ∨ c ≠ 48
   ·have SS2 := az (SS.out.trans (if_pos h0))
    have two : (decide (0 < S) = true ∧ decide ((0 : Int) < (S : Int)) = true) ∨ (S = 0 ∧ ((c : Int) == 48) = false ∧ ((c : Int) != 48) = true) := by
     by_cases hS0 : S = 0
     ·exact .inr ⟨hS0, by rw [beq_eq_false_iff_ne]; omega, by rw [bne_iff_ne]; omega⟩
     ·exact .inl ⟨decide_eq_true (by omega), decide_eq_true (by omega)⟩
    clear SS h0
    rcases two with ⟨t1n, t1⟩ | ⟨rfl, t3, t3n⟩
    ·by_cases h15 : S = 15
     ·have LB := az (show 10 ^ 15 ≤ FP.dnum 0 g N by
       have h1 := sdig_ge (g := g) (n := N) (fun j hj => (HK.out j hj).1) (k + 1) (by have := HL.out; omega) (by rw [SS2.out]; omega)
       rw [SS2.out, h15] at h1
       exact Nat.le_trans h1 (FP.dnum_mono 0 g (by have := HL.out; omega)))
      subst h15
      go_wp2_with fail
      exact FIN.out 0 false trivial ⟨fun h => absurd h (by decide), fun _ => LB.out⟩
     ·have t4 : decide ((15 : Int) < (S : Int) + 1) = false := dF
      have t4n : decide (15 < S + 1) = false := dF
      go_wp2_with fail
      go_roundg (N - (k + 1))
      case measure => have := hkk.out; have := HL.out; omega
      case rel => exact ⟨k + 1, by go_num, (by rw [SS2.out]; first | rfl | go_num), by rw [SN.out]; first | exact congrArg _ eE | exact (congrArg (fun z => Value.int .i64 z) eE) | rfl, ⟨⟨rfl, by have := HL.out; omega, by rw [SS2.out]; omega⟩⟩, ⟨rfl⟩⟩
    ·go_wp2_with fail
     go_roundg (N - (k + 1))
     case measure => have := hkk.out; have := HL.out; omega
     case rel => exact ⟨k + 1, by go_num, (by rw [SS2.out]; first | rfl | go_num), by rw [SN.out]; first | exact congrArg _ eE | exact (congrArg (fun z => Value.int .i64 z) eE) | rfl, ⟨⟨rfl, by have := HL.out; omega, by rw [SS2.out]; omega⟩⟩, ⟨rfl⟩⟩
   ·have hS0 : S = 0 := by omega
    have hc48 : c = 48 := by omega
    have SS2 := az (SS.out.trans (if_neg h0))
    clear SS h0
    subst hS0 hc48
    go_wp2_with fail
    go_roundg (N - (k + 1))
    case measure => have := hkk.out; have := HL.out; omega
    case rel => exact ⟨k + 1, by go_num, (by rw [SS2.out]; first | rfl | go_num), by rw [SN.out]; first | exact congrArg _ eE | exact (congrArg (fun z => Value.int .i64 z) eE) | rfl, ⟨⟨rfl, by have := HL.out; omega, by rw [SS2.out]; omega⟩⟩, ⟨rfl⟩⟩
  ·have e : k = N := by have := hkk.out; omega
   subst e
   have t0 : decide ((d.size : Int)  ≤ (k : Int)) = true := decide_eq_true (by have := HZ.out; omega)
   have hsd := hkk.out.2.2
   have hdl := sdig_lt (g := g) (n := k) (fun j hj => (HK.out j hj).2) k (Nat.le_refl _)
   have hdl2 : FP.dnum 0 g k < 10 ^ 15 := Nat.lt_of_lt_of_le hdl (Nat.pow_le_pow_right (by decide) hsd)
   have hZ3 := HZ.out
   obtain ⟨E, hE⟩ : ∃ E, E = FP.dnum 0 g k := ⟨_, rfl⟩
   have HE := az hE
   rw [← hE]
   rw [← hE] at hdl2
   have HD := az hdl2
   have hE15 : (E : Int) ≤ 1000000000000000 := by omega
   clear hlt hsd hdl hdl2 hE
   go_wp2_with fail
   exact FIN.out _ true trivial ⟨fun _ => ⟨by first | omega | (rw [← HE.out]; omega), by rw [← HE.out]; exact HD.out⟩, fun h => absurd h (by decide)⟩
theorem signed_none (t : ByteArray) (N : Nat) (g : Nat → Nat) (hN : 1 ≤ N) (hs : N ≤ 65535) (h1 : t.size = N) (hg : ∀ k < N, bt t (k : Int) = (g k : Int)) (hk : ∀ k < N, 48 ≤ g k ∧ g k ≤ 57) (w : World) : Calls Tryz.prog 32 #[.string t] w (SgPost w 1 (FP.dnum 0 g N)) := by
 have p0 : (0 < t.size) = True := eT
 refine byR fun R hR => ?_
 have HR := az hR
 have hb0 := hg 0 (by omega)
 have hk0 := hk 0 (by omega)
 have x0 : ∀ h : 0 < t.size, ((t[0]'h).toNat : Int) = (g 0 : Int) := fun h => (bt_at t ((0 : Nat) : Int) h).trans hb0
 have c45 : ((g 0 : Int) == 45) = false := bF
 have c45n : (g 0 == 45) = false := bF
 have c43 : ((g 0 : Int) == 43) = false := bF
 have c43n : (g 0 == 43) = false := bF
 have HG := az hg
 have HZ := az h1
 clear hb0 hk0 hg
 have HK := az hk
 have H1 := az h1
 clear hk hR h1
 go_enter Tryz.func32, Tryz.ntmps32
 go_wp2_with fail
 have HN := az hN
 have hZ := HZ.out
 have hz8 : (t.size : Int) ≤ 65536 := by omega
 clear hN hs hZ p0
 have FIN : Aside0 (∀ (n : Int) (ok : Bool), True → ((ok = true → n = 1 * ((FP.dnum 0 g N : Nat) : Int) ∧ FP.dnum 0 g N < 10 ^ 15) ∧ (ok = false → 10 ^ 15 ≤ FP.dnum 0 g N)) → R (.returned (.tuple #[.int .i64 n, .bool ok])) w) := ⟨fun n ok _ h => by rw [HR.out]; exact ⟨rfl, n, ok, rfl, h⟩⟩
 go_loopg [5, 6, 7] N (fun q v5 v6 v7 w' => ∃ k : Nat, v7 = .int .i64 (k : Int) ∧ v6 = .int .i64 ((sdig g k : Nat) : Int) ∧ v5 = .int .i64 ((FP.dnum 0 g k : Nat) : Int) ∧ Aside0 (q = N - k ∧ k ≤ N ∧ sdig g k ≤ 15) ∧ Aside0 (w' = w))
 case atStart => exact ⟨0, rfl, rfl, rfl, ⟨⟨rfl, Nat.zero_le _, Nat.zero_le _⟩⟩, ⟨rfl⟩⟩
 case round =>
  obtain ⟨k, rfl, rfl, rfl, hkk, hw⟩ := hrel
  obtain rfl := hw.out
  by_cases hlt : k < N
  ·have hZ2 := HZ.out
   have hlt2 : k < t.size := by omega
   have hbk := HG.out k hlt
   have hkd := HK.out k hlt
   have hx5 : ∀ h : k < t.size, ((t[k]'h).toNat : Int) = (g k : Int) := fun h => (bt_at t (k : Int) h).trans hbk
   have hsd := hkk.out.2.2
   have hdl := sdig_lt (g := g) (n := N) (fun j hj => (HK.out j hj).2) k hkk.out.2.1
   have hdl2 : FP.dnum 0 g k < 10 ^ 15 := Nat.lt_of_lt_of_le hdl (Nat.pow_le_pow_right (by decide) hsd)
   have HL := az hlt
   have stepn : FP.dnum 0 g (k + 1) = FP.dnum 0 g k * 10 + (g k - 48) := rfl
   have steps : sdig g (k + 1) = if 0 < sdig g k ∨ g k ≠ 48 then sdig g k + 1 else sdig g k := rfl
   obtain ⟨E, hE⟩ : ∃ E, E = FP.dnum 0 g k := ⟨_, rfl⟩
   obtain ⟨S, hS⟩ : ∃ S, S = sdig g k := ⟨_, rfl⟩
   obtain ⟨c, hc⟩ : ∃ c, c = g k := ⟨_, rfl⟩
   rw [← hE, ← hc] at stepn
   rw [← hS, ← hc] at steps
   rw [← hE] at hdl2
   rw [← hS] at hsd
   rw [← hc] at hx5 hkd
   rw [← hE, ← hS]
   have hE15 : E < 1000000000000000 := hdl2
   have eE : (E : Int) * 10 + ((c : Int) - 48) = ((E * 10 + (c - 48) : Nat) : Int) := by omega
   have SN := az stepn
   have SS := az steps
   clear hbk hdl hdl2 hZ2 hE hS hc stepn steps hlt
   by_cases h0 : 0 < S ∨ c ≠ 48
   ·have SS2 := az (SS.out.trans (if_pos h0))
    have two : (decide (0 < S) = true ∧ decide ((0 : Int) < (S : Int)) = true) ∨ (S = 0 ∧ ((c : Int) == 48) = false ∧ ((c : Int) != 48) = true) := by
     by_cases hS0 : S = 0
     ·exact .inr ⟨hS0, by rw [beq_eq_false_iff_ne]; omega, by rw [bne_iff_ne]; omega⟩
     ·exact .inl ⟨decide_eq_true (by omega), decide_eq_true (by omega)⟩
    clear SS h0
    rcases two with ⟨t1n, t1⟩ | ⟨rfl, t3, t3n⟩
    ·by_cases h15 : S = 15
     ·have LB := az (show 10 ^ 15 ≤ FP.dnum 0 g N by
       have h1 := sdig_ge (g := g) (n := N) (fun j hj => (HK.out j hj).1) (k + 1) (by have := HL.out; omega) (by rw [SS2.out]; omega)
       rw [SS2.out, h15] at h1
       exact Nat.le_trans h1 (FP.dnum_mono 0 g (by have := HL.out; omega)))
      subst h15
      go_wp2_with fail
      exact FIN.out 0 false trivial ⟨fun h => absurd h (by decide), fun _ => LB.out⟩
     ·have t4 : decide ((15 : Int) < (S : Int) + 1) = false := dF
      have t4n : decide (15 < S + 1) = false := dF
      go_wp2_with fail
      go_roundg (N - (k + 1))
      case measure => have := hkk.out; have := HL.out; omega
      case rel => exact ⟨k + 1, by go_num, (by rw [SS2.out]; first | rfl | go_num), by rw [SN.out]; first | exact congrArg _ eE | exact (congrArg (fun z => Value.int .i64 z) eE) | rfl, ⟨⟨rfl, by have := HL.out; omega, by rw [SS2.out]; omega⟩⟩, ⟨rfl⟩⟩
    ·go_wp2_with fail
     go_roundg (N - (k + 1))
     case measure => have := hkk.out; have := HL.out; omega
     case rel => exact ⟨k + 1, by go_num, (by rw [SS2.out]; first | rfl | go_num), by rw [SN.out]; first | exact congrArg _ eE | exact (congrArg (fun z => Value.int .i64 z) eE) | rfl, ⟨⟨rfl, by have := HL.out; omega, by rw [SS2.out]; omega⟩⟩, ⟨rfl⟩⟩
   ·have hS0 : S = 0 := by omega
    have hc48 : c = 48 := by omega
    have SS2 := az (SS.out.trans (if_neg h0))
    clear SS h0
    subst hS0 hc48
    go_wp2_with fail
    go_roundg (N - (k + 1))
    case measure => have := hkk.out; have := HL.out; omega
    case rel => exact ⟨k + 1, by go_num, (by rw [SS2.out]; first | rfl | go_num), by rw [SN.out]; first | exact congrArg _ eE | exact (congrArg (fun z => Value.int .i64 z) eE) | rfl, ⟨⟨rfl, by have := HL.out; omega, by rw [SS2.out]; omega⟩⟩, ⟨rfl⟩⟩
  ·have e : k = N := by have := hkk.out; omega
   subst e
   have t0 : decide ((t.size : Int)  ≤ (k : Int)) = true := decide_eq_true (by have := HZ.out; omega)
   have hsd := hkk.out.2.2
   have hdl := sdig_lt (g := g) (n := k) (fun j hj => (HK.out j hj).2) k (Nat.le_refl _)
   have hdl2 : FP.dnum 0 g k < 10 ^ 15 := Nat.lt_of_lt_of_le hdl (Nat.pow_le_pow_right (by decide) hsd)
   have hZ3 := HZ.out
   obtain ⟨E, hE⟩ : ∃ E, E = FP.dnum 0 g k := ⟨_, rfl⟩
   have HE := az hE
   rw [← hE]
   rw [← hE] at hdl2
   have HD := az hdl2
   have hE15 : (E : Int) ≤ 1000000000000000 := by omega
   clear hlt hsd hdl hdl2 hE
   go_wp2_with fail
   exact FIN.out _ true trivial ⟨fun _ => ⟨by first | omega | (rw [← HE.out]; omega), by rw [← HE.out]; exact HD.out⟩, fun h => absurd h (by decide)⟩
end Go.Proofs.YtbimfhaokgigkaaGreatDoor
