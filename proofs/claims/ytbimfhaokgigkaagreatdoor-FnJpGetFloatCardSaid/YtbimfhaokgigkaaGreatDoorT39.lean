/- Walks of functions of FnJpGetFloat (G1, Y3); conditions stand ahead of each theorem. -/
import Derived.Test.YtbimfhaokgigkaaGreatDoorTA1
import Derived.Test.YtbimfhaokgigkaaGreatDoorT38
set_option linter.unusedVariables false
set_option linter.unusedSimpArgs false
set_option maxRecDepth 1000000
set_option maxHeartbeats 4000000
namespace Go.Proofs.YtbimfhaokgigkaaGreatDoor
open Go.RowKit Go.Proofs.YtbimfhaokgigkaaGreatDoorW.PrintWords Go.Proofs.YtbimfhaokgigkaaGreatDoorW.PrintLast
structure Num0 (s : ByteArray) (neg : Bool) (W F : Nat) (x esg : Int) (N : Nat) : Prop where
 sgn : (neg = true ∧ bt s 0 = 45) ∨ (neg = false ∧ ¬ bt s 0 = 45)
 one : 1 ≤ W
 fits : (if neg then 1 else 0) + W ≤ s.size
 kinds : ∀ k < W, 48 ≤ bt s (((if neg then 1 else 0) + k : Nat) : Int) ∧ bt s (((if neg then 1 else 0) + k : Nat) : Int) ≤ 57
 zero : bt s (((if neg then 1 else 0 : Nat)) : Int) = 48 → W = 1
 frac : F ≠ 0 → bt s (((if neg then 1 else 0) + W : Nat) : Int) = 46 ∧ (if neg then 1 else 0) + W + 1 + F ≤ s.size ∧ ∀ k < F, 48 ≤ bt s (((if neg then 1 else 0) + W + 1 + k : Nat) : Int) ∧ bt s (((if neg then 1 else 0) + W + 1 + k : Nat) : Int) ≤ 57
 back : (N = 0 ∧ (if neg then 1 else 0) + W + (if F = 0 then 0 else 1 + F) = s.size) ∨
  (1 ≤ N ∧ ∃ q : Nat, q = (if neg then 1 else 0) + W + (if F = 0 then 0 else 1 + F) ∧ (bt s q = 69 ∨ bt s q = 101) ∧
   ((x = (q : Int) + 1 ∧ esg = 1) ∨ (x = (q : Int) + 1 + 1 ∧ bt s ((q : Int) + 1) = 43 ∧ esg = 1) ∨ (x = (q : Int) + 1 + 1 ∧ bt s ((q : Int) + 1) = 45 ∧ esg = -1)) ∧
   x + N = (s.size : Int) ∧ ∀ k : Nat, k < N → 48 ≤ bt s (x + k) ∧ bt s (x + k) ≤ 57)
namespace JS
section
variable {w : World} {g p : Nat} {s : ByteArray}
theorem Esc.inner {a q z : Nat} (h : Esc s (a + 1) q) (hb : bn s a = 92) (hi : Inner s q z) : Inner s a z := by
 rcases h with ⟨rfl, h⟩ | ⟨rfl, h1, h2⟩
 ·exact .two a z (bn_pos (by unfold short at h; omega)) hb h hi
 ·have h3 := h2 0 (by omega)
  have h4 := h2 1 (by omega)
  have h5 := h2 2 (by omega)
  have h6 := h2 3 (by omega)
  exact .six a z (bn_pos (hex_pos h6)) hb h1 h3 h4 h5 h6 hi
theorem Esc.le {a q : Nat} (h : Esc s a q) : a < q ∧ q ≤ s.size := by
 rcases h with ⟨rfl, h⟩ | ⟨rfl, h1, h2⟩
 ·exact ⟨by omega, bn_pos (by unfold short at h; omega)⟩
 ·have h6 := bn_pos (hex_pos (h2 3 (by omega)))
  omega
theorem quoted_calls (h : Rdr w g s p) (hs : s.size ≤ 65536) (h34 : bn s p = 34) :
  Calls Tryz.prog 42 #[.pointer (some ⟨g, 0, none⟩)] w (fun e w' => ∃ b q, RdP w g s (.bool b) q e w' ∧ (b = true → Str s p q)) := by
 refine byR fun R hR => ?_
 have HR := az hR
 have H := az h
 have hc1 := (blk_cell h 1).trans rfl
 have hf1 := blk_frozen h 1
 have hs6 : (s.size : Int) ≤ 65536 := by omega
 have hp : p < s.size := bn_pos (by omega)
 have hp6 : (p : Int) < 65536 := by omega
 have HP := az3 hs h34 hp
 clear hR h hs h34
 go_enter Tryz.func42, Tryz.ntmps42
 go_wp2
 go_loopg [] (s.size - (p + 1)) (fun q w' => ∃ a : Nat, Aside0 (q = s.size - a ∧ p < a ∧ a ≤ s.size ∧ ∀ z, Inner s a z → Inner s (p + 1) z) ∧ Aside0 (Rdr w' g s a ∧ w.grownBy w' (some g)))
 case atStart => exact ⟨p + 1, ⟨rfl, by omega, HP.out.2.2, fun z h => h⟩, ⟨Rdr.set H.out (p + 1) _ (by first | rfl | go_num), grown_set (grown_refl _ _) _ _⟩⟩
 case round =>
  obtain ⟨a, ha, hw⟩ := hrel
  have hc0 := (blk_cell hw.out.1 0).trans rfl
  have hc1 := (blk_cell hw.out.1 1).trans rfl
  have hf1 := blk_frozen hw.out.1 1
  by_cases ha1 : a < s.size
  ·have ha6 : (a : Int) < (s.size : Int) := by omega
   have hx := bn_idx ha1
   obtain ⟨c, hc⟩ : ∃ c, c = bn s a := ⟨_, rfl⟩
   rw [← hc] at hx
   have HC := az hc
   have HW : Aside0 (∀ n, Rdr ((wr.drewN n).setCell ⟨g, 1, none⟩ (.int .i64 ((a : Int) + 1))) g s (a + 1) ∧ w.grownBy ((wr.drewN n).setCell ⟨g, 1, none⟩ (.int .i64 ((a : Int) + 1))) (some g)) :=
    ⟨fun n => ⟨Rdr.set (w := wr.drewN n) hw.out.1 (a + 1) _ (by omega), grown_set (grown_drewN hw.out.2 n) _ _⟩⟩
   clear hc
   by_cases h1 : c = 34
   ·subst h1
    go_wp2_with fail
    repeat (go_quiet (fail); try go_wp2)
    rw [HR.out]
    have hle := ha.out
    exact ⟨true, a + 1, ⟨rfl, HW.out _⟩, fun _ => ⟨HP.out.2.1, by omega, ha1, HC.out.symm, hle.2.2.2 a (.done a (by omega))⟩⟩
   ·by_cases h2 : c < 32
    ·have a1 : ((c : Int) == 34) = false := beqF
     have b1 : (c == 34) = false := beqFn h1
     have a2 : (c : Int) < 32 := by omega
     clear h1 h2
     go_wp2_with fail
     repeat (go_quiet (fail); try go_wp2)
     rw [HR.out]
     exact ⟨false, a + 1, ⟨rfl, HW.out _⟩, fun h => by cases h⟩
    ·have HN := az2 h1 h2
     have a1 : ((c : Int) == 34) = false := beqF
     have b1 : (c == 34) = false := beqFn h1
     have a2 : decide ((c : Int) < 32) = false := dF
     have b2 : decide (c < 32) = false := decide_eq_false h2
     clear h1 h2
     by_cases h3 : c = 92
     ·subst h3
      have CE := az (fun W (h : Rdr W g s (a + 1)) => escape_calls h HP.out.1 ha1)
      go_upto_region 10 with fail
      repeat (go_quiet (fail); try go_upto_region 10 with fail)
      go_cut [48] (fun v48 w' => ∃ b q, v48 = .bool (!b) ∧ Aside0 (Rdr w' g s q ∧ w.grownBy w' (some g) ∧ (b = true → Esc s (a + 1) q)))
      case first =>
       go_wp2_with (go_at_call 51; refine (CE.out _ (HW.out _).1).mono ?_; rintro e w1 ⟨b, q, ⟨rfl, hr, hg⟩, hb⟩; dsimp only; have HX := az3 hr (grown_trans (HW.out _).2 hg) hb; clear hr hg hb)
       go_meet
       exact ⟨b, q, rfl, HX⟩
      case rest =>
      obtain ⟨b, q, rfl, hx⟩ := hcut
      cases b with
      | false =>
       go_wp2_with fail
       rw [HR.out]
       exact ⟨false, q, ⟨rfl, hx.out.1, hx.out.2.1⟩, fun h => by cases h⟩
      | true =>
       go_wp2_with fail
       have hq := (hx.out.2.2 (by trivial)).le
       go_roundg (s.size - q)
       case measure => have := ha.out.1; omega
       case rel => exact ⟨q, ⟨rfl, by have := ha.out.2.1; omega, hq.2, fun z hz => ha.out.2.2.2 z ((hx.out.2.2 (by trivial)).inner HC.out.symm hz)⟩, ⟨hx.out.1, hx.out.2.1⟩⟩
     ·have a3 : ((c : Int) == 92) = false := beqF
      have b3 : (c == 92) = false := beqFn h3
      have HN3 := az h3
      clear h3
      go_wp2_with fail
      repeat (go_quiet (fail); try go_wp2)
      go_roundg (s.size - (a + 1))
      case measure => have := ha.out.1; omega
      case rel => exact ⟨a + 1, ⟨rfl, by have := ha.out.2.1; omega, ha1, fun z hz => ha.out.2.2.2 z (.plain a z ha1 (by rw [← HC.out]; exact HN.out.1) (by rw [← HC.out]; exact HN3.out) (by have := HN.out.2; have := HC.out; omega) hz)⟩, ⟨HW.out _⟩⟩
  ·have t1 : decide ((a : Int) < (s.size : Int)) = false := dF
   have t1n : decide (a < s.size) = false := decide_eq_false ha1
   clear ha1
   go_wp2_with fail
   repeat (go_quiet (fail); try go_wp2)
   rw [HR.out]
   exact ⟨false, a, ⟨rfl, hw.out.1, by repeat (first | exact hw.out.2 | apply grown_drewN | apply grown_set)⟩, fun h => by cases h⟩
def Nb (s : ByteArray) (a b : Nat) : Prop := a ≤ b ∧ b ≤ s.size ∧ ∀ k, a ≤ k → k < b → numb (bn s k)
theorem Nb.one {a b : Nat} (h : Nb s a b) (hc : numb (bn s b)) (hb : b < s.size) : Nb s a (b + 1) :=
 ⟨by have := h.1; omega, hb, fun k h1 h2 => by
  by_cases c : k < b
  ·exact h.2.2 k h1 c
  ·obtain rfl : k = b := by omega
   exact hc⟩
theorem Nb.more {a b q : Nat} (h : Nb s a b) (h1 : b ≤ q) (h2 : q ≤ s.size) (h3 : ∀ k, b ≤ k → k < q → digit (bn s k)) : Nb s a q :=
 ⟨Nat.le_trans h.1 h1, h2, fun k k1 k2 => by
  by_cases c : k < b
  ·exact h.2.2 k k1 c
  ·exact .inl (h3 k (by omega) k2)⟩
theorem take_nb {a c : Nat} (hs : s.size ≤ 65536) (hc : numb c) (h : Rdr w g s p) (hn : Nb s a p) :
  Calls Tryz.prog 50 #[.pointer (some ⟨g, 0, none⟩), .int .u8 (c : Int)] w (fun e w' => ∃ b q, RdP w g s (.bool b) q e w' ∧ Nb s a q ∧ ((b = true ∧ q = p + 1 ∧ bn s p = c) ∨ (b = false ∧ q = p ∧ bn s p ≠ c))) := by
 by_cases h1 : bn s p = c
 ·have h0 : 0 < c := by unfold numb at hc; omega
  exact (take_yes h hs h1 h0).mono fun e w' hr => ⟨true, p + 1, hr, hn.one (by rw [h1]; exact hc) (bn_pos (by omega)), .inl ⟨rfl, rfl, h1⟩⟩
 ·exact (take_no h hs h1).mono fun e w' hr => ⟨false, p, hr, hn, .inr ⟨rfl, rfl, h1⟩⟩
theorem digits_nb {a : Nat} (hs : s.size ≤ 65536) (h : Rdr w g s p) (hn : Nb s a p) :
  Calls Tryz.prog 52 #[.pointer (some ⟨g, 0, none⟩)] w (fun e w' => ∃ b q, RdP w g s (.bool b) q e w' ∧ Nb s a q ∧ p ≤ q ∧ (b = true → p < q) ∧ ∀ k, p ≤ k → k < q → digit (bn s k)) :=
 (digits_calls h hs hn.2.1).mono fun e w' ⟨q, hr, h1, h2, h3⟩ => ⟨_, q, hr, hn.more h1 h2 h3, h1, fun h => of_decide_eq_true h, h3⟩
def Sg (s : ByteArray) (p st : Nat) : Prop := (st = p + 1 ∧ bn s p = 45) ∨ (st = p ∧ bn s p ≠ 45)
def Wd (s : ByteArray) (a q : Nat) : Prop := a < q ∧ (∀ k, a ≤ k → k < q → digit (bn s k)) ∧ (bn s a = 48 → q = a + 1)
def Fd (s : ByteArray) (a q : Nat) : Prop := q = a ∨ (a + 1 < q ∧ bn s a = 46 ∧ ∀ k, a + 1 ≤ k → k < q → digit (bn s k))
def Es (s : ByteArray) (a x : Nat) (g : Int) : Prop := (x = a ∧ g = 1) ∨ (x = a + 1 ∧ bn s a = 43 ∧ g = 1) ∨ (x = a + 1 ∧ bn s a = 45 ∧ g = -1)
def Ed (s : ByteArray) (a q : Nat) : Prop := q = a ∨ ((bn s a = 69 ∨ bn s a = 101) ∧ ∃ x g, Es s (a + 1) x g ∧ x < q ∧ ∀ k, x ≤ k → k < q → digit (bn s k))
def Nm (s : ByteArray) (p q : Nat) : Prop := ∃ a b c, Sg s p a ∧ Wd s a b ∧ Fd s b c ∧ Ed s c q
theorem Nm.num {q : Nat} (h : Nm s p q) (hn : Nb s p q) (hl : p < q) : Num s p q := by
 obtain ⟨a, b, c, h1, h2, h3, h4⟩ := h
 refine ⟨hl, hn.2.1, ?_, hn.2.2⟩
 rcases h1 with ⟨_, h1⟩ | ⟨rfl, _⟩
 ·exact .inl h1
 ·exact .inr (h2.2.1 a (Nat.le_refl _) h2.1)
theorem Nm.num0 (h : Nm s 0 s.size) : ∃ neg W F x esg N, Num0 s neg W F x esg N := by
 obtain ⟨a, b, c, h1, h2, h3, h4⟩ := h
 obtain ⟨neg, ha, hs⟩ : ∃ neg : Bool, a = (if neg then 1 else 0) ∧ ((neg = true ∧ bt s 0 = 45) ∨ (neg = false ∧ ¬ bt s 0 = 45)) := by
  have e := bn_int s 0
  rcases h1 with ⟨h, k⟩ | ⟨h, k⟩
  ·exact ⟨true, h, .inl ⟨rfl, by rw [k] at e; exact e⟩⟩
  ·exact ⟨false, h, .inr ⟨rfl, fun h => k (by have : bt s ((0 : Nat) : Int) = 45 := h; omega)⟩⟩
 have D : ∀ {x z : Nat}, (∀ k, x ≤ k → k < z → digit (bn s k)) → ∀ k, x + k < z → 48 ≤ bt s ((x + k : Nat) : Int) ∧ bt s ((x + k : Nat) : Int) ≤ 57 := by
  intro x z h k hk
  have := h (x + k) (by omega) hk
  rw [bn_int]
  unfold digit at this
  omega
 have hc : c ≤ s.size := by rcases h4 with h | ⟨_, x, g, h5, h6, _⟩; omega; unfold Es at h5; omega
 have hb : b ≤ c := by rcases h3 with h | h <;> omega
 have hba := h2.1
 obtain ⟨F, hF, hq⟩ : ∃ F, (F ≠ 0 → bn s b = 46 ∧ b + 1 + F ≤ s.size ∧ ∀ k < F, 48 ≤ bt s ((b + 1 + k : Nat) : Int) ∧ bt s ((b + 1 + k : Nat) : Int) ≤ 57) ∧ b + (if F = 0 then 0 else 1 + F) = c := by
  rcases h3 with h | ⟨h5, h6, h7⟩
  ·exact ⟨0, fun h => absurd rfl h, by simp; omega⟩
  ·exact ⟨c - b - 1, fun _ => ⟨h6, by omega, fun k hk => D h7 k (by omega)⟩, by rw [if_neg (by omega)]; omega⟩
 have hab : a + (b - a) = b := by omega
 have base : ∀ (x esg : Int) (N : Nat), ((N = 0 ∧ c = s.size) ∨ (1 ≤ N ∧ ∃ q : Nat, q = c ∧ (bt s q = 69 ∨ bt s q = 101) ∧ ((x = (q : Int) + 1 ∧ esg = 1) ∨ (x = (q : Int) + 1 + 1 ∧ bt s ((q : Int) + 1) = 43 ∧ esg = 1) ∨ (x = (q : Int) + 1 + 1 ∧ bt s ((q : Int) + 1) = 45 ∧ esg = -1)) ∧
   x + N = (s.size : Int) ∧ ∀ k : Nat, k < N → 48 ≤ bt s (x + k) ∧ bt s (x + k) ≤ 57)) → Num0 s neg (b - a) F x esg N := fun x esg N h =>
  ⟨hs, by omega, by rw [← ha]; omega, fun k hk => by rw [← ha]; exact D h2.2.1 k (by omega), fun h => by rw [← ha, bn_int] at h; have := h2.2.2 (by omega); omega, by
   rw [← ha, hab, bn_int]
   exact fun h => ⟨by rw [(hF h).1]; rfl, (hF h).2⟩, by rw [← ha, hab, hq]; exact h⟩
 rcases h4 with h | ⟨h5, x, g, h6, h7, h8⟩
 ·exact ⟨neg, b - a, F, 0, 0, 0, base _ _ _ (.inl ⟨rfl, by omega⟩)⟩
 ·refine ⟨neg, b - a, F, x, g, s.size - x, base _ _ _ (.inr ⟨by omega, c, rfl, by rw [bn_int]; omega, ?_, by omega, fun k hk => D h8 k (by omega)⟩)⟩
  have e : bt s ((c : Int) + 1) = (bn s (c + 1) : Int) := bn_int s (c + 1)
  rw [e]
  unfold Es at h6
  omega
theorem number_calls (h : Rdr w g s p) (hs : s.size ≤ 65536) (hp : p ≤ s.size) :
  Calls Tryz.prog 43 #[.pointer (some ⟨g, 0, none⟩)] w (fun e w' => ∃ b q, RdP w g s (.bool b) q e w' ∧ (b = true → Num s p q ∧ Nm s p q)) := by
 refine byR fun R hR => ?_
 have HR := az hR
 have CT := az (fun (W : World) (q c : Nat) (hc : numb c) (h : Rdr W g s q) (hn : Nb s p q) => take_nb hs hc h hn)
 have CD := az (fun (W : World) (q : Nat) (h : Rdr W g s q) (hn : Nb s p q) => digits_nb hs h hn)
 have HS := az hs
 have H := az3 h (grown_refl w (some g)) (show Nb s p p from ⟨Nat.le_refl _, hp, fun k h1 h2 => absurd h2 (by omega)⟩)
 clear hR h hs hp
 go_enter Tryz.func43, Tryz.ntmps43
 go_upto_region 1 with fail
 go_cut [] (fun w' => ∃ q, Aside0 (Rdr w' g s q ∧ w.grownBy w' (some g) ∧ Nb s p q ∧ Sg s p q))
 case first =>
  go_wp2_with (go_at_call 50; refine (CT.out _ _ 45 (by unfold numb; omega) H.out.1 H.out.2.2).mono ?_; rintro e w1 ⟨b, q, ⟨rfl, hr, hg⟩, hb, hl⟩; dsimp only; have HX := az4 hr (grown_trans H.out.2.1 hg) hb (show Sg s p q by unfold Sg; omega); clear hr hg hb hl)
  go_meet
  exact ⟨q, HX⟩
 case rest =>
 obtain ⟨q1, hq1⟩ := hcut
 go_upto_region 2 with fail
 go_cut [12] (fun v12 w' => ∃ b q, v12 = .bool (!b) ∧ Aside0 (Rdr w' g s q ∧ w.grownBy w' (some g) ∧ Nb s p q ∧ (b = true → p < q ∧ Wd s q1 q)))
 case first =>
  have hle := hq1.out.2.2.1.1
  by_cases h48 : bn s q1 = 48
  ·have CY := az (take_yes hq1.out.1 HS.out h48 (by decide))
   have HN := az2 (hq1.out.2.2.1.one (by rw [h48]; exact .inl (by omega)) (bn_pos (by omega))) (show Wd s q1 (q1 + 1) from ⟨by omega, fun k h1 h2 => by
    have : k = q1 := by omega
    subst this
    unfold digit
    omega, fun _ => rfl⟩)
   clear h48
   go_wp2_with (go_at_call 50; refine (CY.out).mono ?_; rintro e w1 ⟨rfl, hr, hg⟩; dsimp only; have HX := az2 hr hg; clear hr hg)
   go_meet
   exact ⟨true, q1 + 1, rfl, HX.out.1, grown_trans hq1.out.2.1 HX.out.2, HN.out.1, fun _ => ⟨by omega, HN.out.2⟩⟩
  ·have CY := az (take_no hq1.out.1 HS.out h48)
   have H48 := az h48
   clear h48
   go_wp2_with (first | (go_at_call 50; refine (CY.out).mono ?_; rintro e w1 ⟨rfl, hr, hg⟩; dsimp only; have HX := az2 hr hg; clear hr hg) | (go_at_call 52; refine (CD.out _ _ HX.out.1 hq1.out.2.2.1).mono ?_; rintro e w2 ⟨b, q, ⟨rfl, hr, hg⟩, hb, hl, hbq⟩; dsimp only; have HX2 := az5 hr hg hb hl hbq; clear hr hg hb hl hbq))
   go_meet
   exact ⟨b, q, rfl, HX2.out.1, grown_trans (grown_trans hq1.out.2.1 HX.out.2) HX2.out.2.1, HX2.out.2.2.1, fun h => by
    have h1 := HX2.out.2.2.2.2.1 h
    exact ⟨by omega, h1, HX2.out.2.2.2.2.2, fun h => absurd h H48.out⟩⟩
 case rest =>
 obtain ⟨b2, q2, rfl, hq2⟩ := hcut
 cases b2 with
 | false =>
  go_wp2_with fail
  rw [HR.out]
  exact ⟨false, q2, ⟨rfl, hq2.out.1, hq2.out.2.1⟩, fun h => by cases h⟩
 | true =>
 go_upto_region 4 with fail
 go_cut [19] (fun v19 w' => ∃ b q, v19 = .bool (!b) ∧ Aside0 (Rdr w' g s q ∧ w.grownBy w' (some g) ∧ Nb s p q ∧ p < q ∧ (b = true → Fd s q2 q)))
 case first =>
  have hlt := (hq2.out.2.2.2 (by trivial)).1
  by_cases h46 : bn s q2 = 46
  ·have CY := az (take_yes hq2.out.1 HS.out h46 (by decide))
   have HN := az2 (hq2.out.2.2.1.one (by rw [h46]; exact .inr (.inl rfl)) (bn_pos (by omega))) h46
   clear h46
   go_wp2_with (first | (go_at_call 50; refine (CY.out).mono ?_; rintro e w1 ⟨rfl, hr, hg⟩; dsimp only; have HX := az2 hr hg; clear hr hg) | (go_at_call 52; refine (CD.out _ _ HX.out.1 HN.out.1).mono ?_; rintro e w2 ⟨b, q, ⟨rfl, hr, hg⟩, hb, hl, hbq⟩; dsimp only; have HX2 := az5 hr hg hb hl hbq; clear hr hg hb hl hbq))
   go_meet
   exact ⟨b, q, rfl, HX2.out.1, grown_trans (grown_trans hq2.out.2.1 HX.out.2) HX2.out.2.1, HX2.out.2.2.1, by have := HX2.out.2.2.2.1; omega, fun h => .inr ⟨HX2.out.2.2.2.2.1 h, HN.out.2, HX2.out.2.2.2.2.2⟩⟩
  ·have CY := az (take_no hq2.out.1 HS.out h46)
   clear h46
   go_wp2_with (go_at_call 50; refine (CY.out).mono ?_; rintro e w1 ⟨rfl, hr, hg⟩; dsimp only; have HX := az2 hr hg; clear hr hg)
   go_meet
   exact ⟨true, q2, rfl, HX.out.1, grown_trans hq2.out.2.1 HX.out.2, hq2.out.2.2.1, hlt, fun _ => .inl rfl⟩
 case rest =>
 obtain ⟨b3, q3, rfl, hq3⟩ := hcut
 cases b3 with
 | false =>
  go_wp2_with fail
  rw [HR.out]
  exact ⟨false, q3, ⟨rfl, hq3.out.1, hq3.out.2.1⟩, fun h => by cases h⟩
 | true =>
 have HF := az (fun (q : Nat) (h : Ed s q3 q) => (⟨q1, q2, q3, hq1.out.2.2.2, (hq2.out.2.2.2 (by trivial)).2, hq3.out.2.2.2.2 (by trivial), h⟩ : Nm s p q))
 go_upto_region 6 with fail
 go_cut [25] (fun v25 w' => ∃ b q, v25 = .bool b ∧ Aside0 (Rdr w' g s q ∧ w.grownBy w' (some g) ∧ Nb s p q ∧ p < q ∧ ((b = true ∧ q = q3 + 1 ∧ (bn s q3 = 69 ∨ bn s q3 = 101)) ∨ (b = false ∧ q = q3))))
 case first =>
  have hlt := hq3.out.2.2.2.1
  by_cases h101 : bn s q3 = 101
  ·have CY := az (take_yes hq3.out.1 HS.out h101 (by decide))
   have HN := az2 (hq3.out.2.2.1.one (by rw [h101]; unfold numb; omega) (bn_pos (by omega))) h101
   clear h101
   go_wp2_with (go_at_call 50; refine (CY.out).mono ?_; rintro e w1 ⟨rfl, hr, hg⟩; dsimp only; have HX := az2 hr hg; clear hr hg)
   go_meet
   exact ⟨true, q3 + 1, rfl, HX.out.1, grown_trans hq3.out.2.1 HX.out.2, HN.out.1, by omega, .inl ⟨rfl, rfl, .inr HN.out.2⟩⟩
  ·have CY : Aside0 (Calls Tryz.prog 50 #[.pointer (some ⟨g, 0, none⟩), .int .u8 101] wc (RdP wc g s (.bool false) q3)) := ⟨take_no (c := 101) hq3.out.1 HS.out h101⟩
   clear h101
   go_wp2_with (first | (go_at_call 50; (with_reducible refine CY.out.mono ?_); rintro e w1 ⟨rfl, hr, hg⟩; dsimp only; have HX := az2 hr hg; clear hr hg) | (go_at_call 50; refine (CT.out _ _ 69 (by unfold numb; omega) HX.out.1 hq3.out.2.2.1).mono ?_; rintro e w2 ⟨b, q, ⟨rfl, hr, hg⟩, hb, hl⟩; dsimp only; have HX2 := az4 hr hg hb hl; clear hr hg hb hl))
   go_meet
   have hl := HX2.out.2.2.2
   exact ⟨b, q, rfl, HX2.out.1, grown_trans (grown_trans hq3.out.2.1 HX.out.2) HX2.out.2.1, HX2.out.2.2.1, by omega, by rcases hl with h | h; exact .inl ⟨h.1, h.2.1, .inl h.2.2⟩; exact .inr ⟨h.1, h.2.1⟩⟩
 case rest =>
 obtain ⟨b4, q4, rfl, hq4⟩ := hcut
 cases b4 with
 | false =>
  go_wp2_with fail
  rw [HR.out]
  have hm : Nm s p q4 := HF.out q4 (.inl (by have := hq4.out.2.2.2.2; simp at this; exact this))
  exact ⟨true, q4, ⟨rfl, hq4.out.1, hq4.out.2.1⟩, fun _ => ⟨hm.num hq4.out.2.2.1 hq4.out.2.2.2.1, hm⟩⟩
 | true =>
 have HE : Aside0 (q4 = q3 + 1 ∧ (bn s q3 = 69 ∨ bn s q3 = 101)) := ⟨by have := hq4.out.2.2.2.2; simp at this; exact this⟩
 go_upto_region 7 with fail
 go_cut [28] (fun v28 w' => ∃ b q, v28 = .bool b ∧ Aside0 (Rdr w' g s q ∧ w.grownBy w' (some g) ∧ Nb s p q ∧ p < q ∧ ((b = true ∧ q = q4) ∨ (b = false ∧ q = q4 + 1 ∧ bn s q4 = 43))))
 case first =>
  go_wp2_with (go_at_call 50; refine (CT.out _ _ 43 (by unfold numb; omega) hq4.out.1 hq4.out.2.2.1).mono ?_; rintro e w1 ⟨b, q, ⟨rfl, hr, hg⟩, hb, hl⟩; dsimp only; have HX : Aside0 (Rdr w1 g s q ∧ w.grownBy w1 (some g) ∧ Nb s p q ∧ p < q ∧ (((!b) = true ∧ q = q4) ∨ ((!b) = false ∧ q = q4 + 1 ∧ bn s q4 = 43))) := ⟨hr, grown_trans hq4.out.2.1 hg, hb, by have := hq4.out.2.2.2.1; omega, (by rcases hl with ⟨rfl, h⟩ | ⟨rfl, h⟩; exact .inr ⟨rfl, h⟩; exact .inl ⟨rfl, h.1⟩)⟩; clear hr hg hb hl)
  go_meet
  exact ⟨!b, q, rfl, HX⟩
 case rest =>
 obtain ⟨b5, q5, rfl, hq5⟩ := hcut
 go_upto_if 28 with fail
 go_cut [] (fun w' => ∃ q, Aside0 (Rdr w' g s q ∧ w.grownBy w' (some g) ∧ Nb s p q ∧ p < q ∧ ∃ z, Es s q4 q z))
 case first =>
  cases b5 with
  | false =>
   go_wp2_with fail
   go_meet
   obtain ⟨h1, h2, h3, h4, h5⟩ := hq5.out
   exact ⟨q5, ⟨h1, h2, h3, h4, 1, by unfold Es; simp at h5; omega⟩⟩
  | true =>
   go_wp2_with (go_at_call 50; refine (CT.out _ _ 45 (by unfold numb; omega) hq5.out.1 hq5.out.2.2.1).mono ?_; rintro e w1 ⟨b, q, ⟨rfl, hr, hg⟩, hb, hl⟩; dsimp only; have HX := az4 hr (grown_trans hq5.out.2.1 hg) hb hl; clear hr hg hb hl)
   go_meet
   obtain ⟨h1, h2, h3, hl⟩ := HX.out
   have h4 := hq5.out.2.2.2.1
   have h5 := hq5.out.2.2.2.2
   simp at h5
   subst h5
   refine ⟨q, ⟨h1, h2, h3, by omega, ?_⟩⟩
   rcases hl with ⟨_, h⟩ | ⟨_, h⟩
   ·exact ⟨-1, .inr (.inr ⟨h.1, h.2, rfl⟩)⟩
   ·exact ⟨1, .inl ⟨h.1, rfl⟩⟩
 case rest =>
 obtain ⟨q6, hq6⟩ := hcut
 go_wp2_with (go_at_call 52; refine (CD.out _ _ hq6.out.1 hq6.out.2.2.1).mono ?_; rintro e w2 ⟨b, q, ⟨rfl, hr, hg⟩, hb, hl, hbq⟩; dsimp only; have HX2 := az5 hr hg hb hl hbq; clear hr hg hb hl hbq)
 rw [HR.out]
 refine ⟨b, q, ⟨rfl, HX2.out.1, grown_trans hq6.out.2.1 HX2.out.2.1⟩, fun h => ?_⟩
 obtain ⟨z, hz⟩ := hq6.out.2.2.2.2
 have hm : Nm s p q := HF.out q (.inr ⟨HE.out.2, q6, z, by rw [← HE.out.1]; exact hz, HX2.out.2.2.2.2.1 h, HX2.out.2.2.2.2.2⟩)
 exact ⟨hm.num HX2.out.2.2.1 (by have := HX2.out.2.2.2.1; have := hq6.out.2.2.2.1; omega), hm⟩
end
end JS
end Go.Proofs.YtbimfhaokgigkaaGreatDoor
