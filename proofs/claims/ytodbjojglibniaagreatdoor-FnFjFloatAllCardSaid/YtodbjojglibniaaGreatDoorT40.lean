/- Walks of functions of FnFjFloatAll (G10); conditions stand ahead of each theorem. -/
import Derived.Test.YtodbjojglibniaaGreatDoorT37
import Derived.Test.YtodbjojglibniaaGreatDoorT38
import Derived.Test.YtodbjojglibniaaGreatDoorT39
set_option linter.unusedVariables false
set_option linter.unusedSimpArgs false
namespace Go.Proofs.YtodbjojglibniaaGreatDoor
open Go.RowKit Go.Proofs.YtodbjojglibniaaGreatDoorW.PrintWords Go.Proofs.YtodbjojglibniaaGreatDoorW.PrintLast

theorem PowEnv.below {w w' : World} (h : PowEnv w) (hb : Below w.heap.size w w') : PowEnv w' := by
  have go : ∀ {a : Addr} {v : Value}, w.cell? a = some v → w'.cell? a = some v := fun hc => (hb.cell (World.block_lt_of_cell? w _ hc)).trans hc
  exact ⟨fun i hi => go (h.pos i hi), fun i hi => go (h.tab i hi), fun i hi => go (h.neg i hi)⟩
/-- Whether the short way is gone. -/
def FastC (s : ByteArray) (neg : Bool) (W F : Nat) (x : Int) (N : Nat) : Prop := Fast neg W F N (nexp s x)
/-- The short way's float. -/
def FastW (s : ByteArray) (neg : Bool) (W F : Nat) (x esg : Int) (N : Nat) : Nat := FP.c2 (FP.dnum 0 (ndig s (nst neg) W) (W + F)) F (powOf esg N (nexp s x))
/-- What the reference says for fastfloat. -/
def FastPost (w : World) (s : ByteArray) (e : Ending) (w' : World) : Prop :=
  Below w.heap.size w w' ∧ ((∃ f, e = .returned (.tuple #[.float .f64 f, .bool false])) ∨
    (s.size ≤ 800 ∧ ∃ neg W F x esg N, Num0 s neg W F x esg N ∧
      ((FastC s neg W F x N ∧ e = .returned (.tuple #[.float .f64 (FP.wordOf neg (FastW s neg W F x esg N)), .bool true])) ∨
       (¬ FastC s neg W F x N ∧ ∃ r, FP.Near (NumX s neg W F x esg N) r ∧ e = .returned (.tuple #[.float .f64 (FP.wordOf neg r), .bool true])))))
theorem tens_step : ∀ k : Fin 22, floatBits .mul .f64 (FP.tens[k.1]!) 4621819117588971520 = some (FP.tens[k.1 + 1]!) := by decide +kernel
theorem bt_append {a b : ByteArray} {k : Nat} (h : k < a.size + b.size) : bt (a ++ b) (k : Int) = if k < a.size then bt a (k : Int) else bt b ((k - a.size : Nat) : Int) := by
  have h1 : ((k : Int)).toNat < (a ++ b).size := by rw [ByteArray.size_append]; omega
  unfold bt
  rw [dif_pos h1]
  by_cases c : k < a.size
  · have h2 : ((k : Int)).toNat < a.size := by omega
    rw [if_pos c, dif_pos h2]
    rw [ByteArray.getElem_append_left h2]
  · have h3 : (((k - a.size : Nat) : Int)).toNat < b.size := by omega
    rw [if_neg c, dif_pos h3]
    rw [ByteArray.getElem_append_right (by omega)]
    rfl
theorem dnum_congr {g g' : Nat → Nat} : ∀ n, (∀ k < n, g k = g' k) → FP.dnum 0 g n = FP.dnum 0 g' n
  | 0, _ => rfl
  | n + 1, h => by
    show FP.dnum 0 g n * 10 + (g n - 48) = FP.dnum 0 g' n * 10 + (g' n - 48)
    rw [dnum_congr n (fun k hk => h k (by omega)), h n (by omega)]

set_option maxRecDepth 100000 in
set_option maxHeartbeats 8000000 in
theorem fast_calls (s : ByteArray) (hs : s.size < 2 ^ 62) (w : World) (hPE : PowEnv w) : Calls Tryz.prog 4 #[.string s] w (FastPost w s) := by
  obtain ⟨R, hR⟩ : ∃ R, R = FastPost w s := ⟨_, rfl⟩
  rw [← hR]
  have HR := Aside0.mk hR
  have CI := Aside0.mk (fun w1 => isNumber_calls s hs w1)
  have HPE := Aside0.mk hPE
  clear hR hPE
  go_enter Tryz.func4, Tryz.ntmps4
  go_wp2_with fail
  refine (CI.out _).mono ?_
  rintro e w1 ⟨b, rfl, hbel, hnum⟩
  cases b with
  | false =>
    clear hnum
    go_wp2_with fail
    rw [HR.out]
    exact ⟨hbel, .inl ⟨_, rfl⟩⟩
  | true =>
    obtain ⟨neg, W, F, x, esg, N, h⟩ := hnum rfl
    clear hnum
    by_cases h8 : s.size ≤ 800
    · have t1 : decide ((800 : Int) < (s.size : Int)) = false := decide_eq_false (by omega)
      have t1n : decide (800 < s.size) = false := decide_eq_false (by omega)
      have hpos : 0 < s.size := by have := h.one; have := h.fits; omega
      have p0 : (0 < s.size) = True := eq_true hpos
      have HH := Aside0.mk (And.intro h h8)
      have HB := Aside0.mk hbel
      cases neg with
      | true =>
        have hb0 : bt s ((0 : Nat) : Int) = 45 := by
          rcases h.sgn with ⟨_, e⟩ | ⟨e, _⟩
          · exact e
          · cases e
        have x0 : ∀ h : 0 < s.size, ((s[0]'h).toNat : Int) = 45 := fun h => (bt_at s ((0 : Nat) : Int) h).trans hb0
        have CP := Aside0.mk (parts_true h h8 w1)
        have CN := Aside0.mk (fun w2 => nearestTo_calls h h8 w2)
        have hs8 : (s.size : Int) ≤ 800 := by omega
        clear h h8 hbel hpos hb0 hs
        go_wp2_with fail
        refine CP.out.mono ?_
        rintro e w2 ⟨rfl, wh, be, pw, sm, rfl, hW, hF, hwb, hbb, hN0, hN1⟩
        have hW1 := HH.out.1.one
        have hWs : (W : Int) ≤ 800 := by have h9 : 1 + W ≤ s.size := HH.out.1.fits; omega
        have hFs : (F : Int) ≤ 800 := by
          by_cases hF0 : F = 0
          · omega
          · have h9 : 1 + W + 1 + F ≤ s.size := (HH.out.1.frac hF0).2.1
            omega
        have FINS : Aside0 (¬ FastC s true W F x N → ∀ w3 r, Below w2.heap.size w2 w3 → FP.Near (NumX s true W F x esg N) r → R (.returned (.tuple #[.float .f64 (FP.wordOf true r), .bool true])) w3) := ⟨fun hf w3 r h1 h2 => by
          rw [HR.out]
          exact ⟨HB.out.trans (h1.mono HB.out.size), .inr ⟨HH.out.2, true, W, F, x, esg, N, HH.out.1, .inr ⟨hf, r, h2, rfl⟩⟩⟩⟩
        have FINN : Aside0 (∀ w3 f, Below w2.heap.size w2 w3 → R (.returned (.tuple #[.float .f64 f, .bool false])) w3) := ⟨fun w3 f h1 => by
          rw [HR.out]
          exact ⟨HB.out.trans (h1.mono HB.out.size), .inl ⟨f, rfl⟩⟩⟩
        have PP := Aside0.mk (And.intro hwb (And.intro hbb (And.intro hN0 hN1)))
        have hfc : FastC s true W F x N ↔ (W ≤ 17 ∧ (F ≠ 0 → W + F ≤ 15) ∧ sm = true) := by
          unfold FastC Fast
          have e : nst true = 1 := rfl
          have e2 : nexp2 s x = nexp s x := rfl
          rw [e, ← e2]
          constructor
          · rintro ⟨a, b, c⟩
            refine ⟨by omega, b, ?_⟩
            by_cases hN : N = 0
            · exact (hN0 hN).2
            · cases hsm : sm with
              | true => rfl
              | false => have := (hN1 hN).2 hsm; have := c hN; omega
          · rintro ⟨a, b, c⟩
            exact ⟨by omega, b, fun hN => ((hN1 hN).1 c).2⟩
        have HFC := Aside0.mk hfc
        clear hwb hbb hN0 hN1 hfc
        by_cases c1 : W ≤ 17
        · have u1 : decide ((17 : Int) < (W : Int)) = false := decide_eq_false (by omega)
          have u1n : decide (17 < W) = false := decide_eq_false (by omega)
          by_cases c2 : F = 0
          · subst c2
            have hbe : be = ByteArray.empty := ByteArray.size_eq_zero_iff.mp hF
            subst hbe
            cases sm with
            | false =>
              have hnf : ¬ FastC s true W 0 x N := fun hf => absurd (HFC.out.mp hf).2.2 (by decide)
              have HNF := Aside0.mk hnf
              clear hnf
              go_wp2_with fail
              refine (CN.out _).mono ?_
              rintro e w3 ⟨hbel3, ⟨f, rfl⟩ | ⟨r, hn, rfl⟩⟩
              · go_wp2_with fail
                exact FINN.out _ _ hbel3
              · go_wp2_with fail
                exact FINS.out HNF.out _ _ hbel3 hn
            | true =>
              have HFAST : Aside0 (FastC s true W 0 x N) := ⟨HFC.out.mpr ⟨c1, fun h => absurd rfl h, rfl⟩⟩
              have hsz : (wh ++ ByteArray.empty).size = W + 0 := by rw [ByteArray.size_append, hW, hF]
              have hfr := HH.out.1.frac
              have CU : Aside0 (Calls Tryz.prog 11 #[.string (wh ++ ByteArray.empty)] w2 (UPost w2 (FP.dnum 0 (ndig s 1 W) (W + 0)))) := ⟨by
                rw [← hsz]
                refine uint64_calls (wh ++ ByteArray.empty) (ndig s 1 W) (by rw [hsz]; omega) (by rw [hsz]; omega) (fun k hk => ?_) (fun k hk => ?_) w2
                · rw [hsz] at hk
                  rw [bt_append (by rw [hW, hF]; exact hk), hW]
                  unfold ndig
                  by_cases c : k < W
                  · rw [if_pos c, if_pos c, PP.out.1 k c]
                    have := bt_range s ((1 + k : Nat) : Int)
                    omega
                  · rw [if_neg c, if_neg c, PP.out.2.1 (k - W) (by omega), show 1 + W + 1 + (k - W) = 1 + 1 + k by omega]
                    have := bt_range s ((1 + 1 + k : Nat) : Int)
                    omega
                · rw [hsz] at hk
                  unfold ndig
                  by_cases c : k < W
                  · rw [if_pos c]
                    have := HH.out.1.kinds k c
                    have e : ((if true = true then 1 else 0 : Nat)) = 1 := rfl
                    rw [e] at this
                    omega
                  · rw [if_neg c]
                    have := (hfr (by omega)).2.2 (k - W) (by omega)
                    have e : ((if true = true then 1 else 0 : Nat)) = 1 := rfl
                    rw [e, show 1 + W + 1 + (k - W) = 1 + 1 + k by omega] at this
                    omega⟩
              have hD18 : FP.dnum 0 (ndig s 1 W) (W + 0) < 10 ^ 18 := by
                refine Nat.lt_of_lt_of_le (FP.dnum_lt (j := 0) (n := W + 0) (by decide) (fun k hk => ?_) (W + 0) (Nat.le_refl _)) (Nat.pow_le_pow_right (by decide) (by omega))
                unfold ndig
                by_cases c : k < W
                · rw [if_pos c]
                  have := HH.out.1.kinds k c
                  have e : ((if true = true then 1 else 0 : Nat)) = 1 := rfl
                  rw [e] at this
                  omega
                · rw [if_neg c]
                  have := (hfr (by omega)).2.2 (k - W) (by omega)
                  have e : ((if true = true then 1 else 0 : Nat)) = 1 := rfl
                  rw [e, show 1 + W + 1 + (k - W) = 1 + 1 + k by omega] at this
                  omega
              have hFW : FastW s true W 0 x esg N = FP.c2 (FP.dnum 0 (ndig s 1 W) (W + 0)) 0 (powOf esg N (nexp s x)) := rfl
              obtain ⟨D, hD⟩ : ∃ D, D = FP.dnum 0 (ndig s 1 W) (W + 0) := ⟨_, rfl⟩
              rw [← hD] at CU hD18 hFW
              have CU := Aside0.mk (show Calls Tryz.prog 11 #[.string wh] w2 (UPost w2 D) from by have c9 := CU.out; rwa [ByteArray.append_empty] at c9)
              have hDi : (D : Int) ≤ 1000000000000000000 := by
                have e : (10 : Nat) ^ 18 = 1000000000000000000 := by decide
                rw [e] at hD18; omega
              obtain ⟨a0, ha0⟩ : ∃ a0, a0 = FP.c0 D := ⟨_, rfl⟩
              have h0 : floatOfInt .f64 (D : Int) = a0 := ha0.symm
              have FINF : Aside0 (∀ w3 c, Below w2.heap.size w2 w3 → c = FP.wordOf true (FastW s true W 0 x esg N) → R (.returned (.tuple #[.float .f64 c, .bool true])) w3) := ⟨fun w3 c h1 h2 => by
                rw [HR.out, h2]
                exact ⟨HB.out.trans (h1.mono HB.out.size), .inr ⟨HH.out.2, true, W, 0, x, esg, N, HH.out.1, .inl ⟨HFAST.out, rfl⟩⟩⟩⟩
              have HPE2 : Aside0 (PowEnv w2) := ⟨HPE.out.below HB.out⟩
              obtain ⟨a1, ha1⟩ : ∃ a1, a1 = FP.c1 D 0 := ⟨_, rfl⟩
              have ha10 : a1 = a0 := by rw [ha1, ha0]; unfold FP.c1; rw [if_pos rfl]
              by_cases hN : N = 0
              · have hpw := (PP.out.2.2.1 hN).1
                subst hpw
                have hc2 : FastW s true W 0 x esg N = a1 := by rw [hFW, ha1]; unfold powOf FP.c2; rw [if_pos hN]
                have hle : a1 ≤ FP.INF := by rw [ha1]; exact Nat.le_of_lt (FP.c1_lt hD18 (by omega))
                have HC2 := Aside0.mk hc2
                have hng0 := signed_of true hle
                have hneg : RunNeg a1 (FP.wordOf true a1) := hng0
                obtain ⟨a3, ha3⟩ : ∃ a3, a3 = FP.wordOf true a1 := ⟨_, rfl⟩
                rw [← ha3] at hneg
                have HA3 := Aside0.mk ha3
                unfold RunNeg at hneg
                clear hng0 ha3
                subst ha10
                clear hsz hfr hD hD18 hFW ha0 ha1 hW1 hF hN hc2 hle
                go_wp2_with (go_at_call 11; (with_reducible refine CU.out.mono ?_); rintro e w3 ⟨rfl, rfl⟩)
                exact FINF.out _ _ (Below.refl _ _) (by rw [HC2.out, ← HA3.out])
              · obtain ⟨hpe, hp300⟩ := (PP.out.2.2.2 hN).1 rfl
                have heg : esg = 1 ∨ esg = -1 := by
                  rcases HH.out.1.back with ⟨h1, _⟩ | ⟨_, q, hq, hlet, hsgn, hfin, hek⟩
                  · exact absurd h1 hN
                  · rcases hsgn with ⟨_, h⟩ | ⟨_, _, h⟩ | ⟨_, _, h⟩ <;> omega
                have hpw0 : -300 ≤ pw := by rcases heg with e | e <;> rw [e] at hpe <;> omega
                have hpw1 : pw ≤ 300 := by rcases heg with e | e <;> rw [e] at hpe <;> omega
                have tp : (pw != 4611686018427387904) = true := by rw [bne_iff_ne]; omega
                obtain ⟨hm1, hm2⟩ := FP.c2_mul (p := pw) hD18 (show 0 < 23 by omega) hpw0 hpw1
                obtain ⟨a2, ha2⟩ : ∃ a2, a2 = FP.c2 D 0 (some pw) := ⟨_, rfl⟩
                rw [← ha2, ← ha1] at hm1
                rw [← ha2] at hm2
                have hmul : RunMul a1 (FP.powF pw) a2 := runMul_of hm1
                have hc2 : FastW s true W 0 x esg N = a2 := by
                  rw [hFW, ha2, hpe]
                  unfold powOf
                  rw [if_neg hN]
                  rfl
                have hle : a2 ≤ FP.INF := hm2
                have CPW := Aside0.mk (pow10_calls pw hpw0 hpw1 w2 HPE2.out)
                have HC2 := Aside0.mk hc2
                have hng0 := signed_of true hle
                have hneg : RunNeg a2 (FP.wordOf true a2) := hng0
                obtain ⟨a3, ha3⟩ : ∃ a3, a3 = FP.wordOf true a2 := ⟨_, rfl⟩
                rw [← ha3] at hneg
                have HA3 := Aside0.mk ha3
                unfold RunNeg at hneg
                clear hng0 ha3
                unfold RunMul at hmul
                subst ha10
                clear hsz hfr hD hD18 hFW ha0 ha1 hW1 hF hN hpe hp300 heg hm1 hm2 ha2 hc2 hle
                go_wp2_with (first | (go_at_call 11; (with_reducible refine CU.out.mono ?_); rintro e w3 ⟨rfl, rfl⟩) | (go_at_call 12; (with_reducible refine CPW.out.mono ?_); rintro e w4 ⟨rfl, nd, rfl⟩))
                exact FINF.out _ _ (pw_below_drewN (Below.refl _ _) nd) (by rw [HC2.out, ← HA3.out])
          · have hds : (be = ByteArray.empty) = False := eq_false (fun e => c2 (by rw [← hF, e]; rfl))
            have hd2 : (be.toList = ([] : List UInt8)) = False := eq_false (fun e => c2 (by rw [← hF, (toList_nil_iff_emptyBytes be).mp e]; rfl))
            have hd4 : be.toList.isEmpty = false := by rw [List.isEmpty_eq_false_iff]; intro e; rw [hd2] at e; exact e
            by_cases c3 : W + F ≤ 15
            · have u2 : decide ((15 : Int) < (W : Int) + (F : Int)) = false := decide_eq_false (by omega)
              have u2n : decide (15 < W + F) = false := decide_eq_false (by omega)
              cases sm with
              | false =>
                have hnf : ¬ FastC s true W F x N := fun hf => absurd (HFC.out.mp hf).2.2 (by decide)
                have HNF := Aside0.mk hnf
                clear hnf
                go_wp2_with fail
                refine (CN.out _).mono ?_
                rintro e w3 ⟨hbel3, ⟨f, rfl⟩ | ⟨r, hn, rfl⟩⟩
                · go_wp2_with fail
                  exact FINN.out _ _ hbel3
                · go_wp2_with fail
                  exact FINS.out HNF.out _ _ hbel3 hn
              | true =>
                have HFAST : Aside0 (FastC s true W F x N) := ⟨HFC.out.mpr ⟨c1, fun _ => c3, rfl⟩⟩
                have hsz : (wh ++ be).size = W + F := by rw [ByteArray.size_append, hW, hF]
                have hfr := HH.out.1.frac
                have CU : Aside0 (Calls Tryz.prog 11 #[.string (wh ++ be)] w2 (UPost w2 (FP.dnum 0 (ndig s 1 W) (W + F)))) := ⟨by
                  rw [← hsz]
                  refine uint64_calls (wh ++ be) (ndig s 1 W) (by rw [hsz]; omega) (by rw [hsz]; omega) (fun k hk => ?_) (fun k hk => ?_) w2
                  · rw [hsz] at hk
                    rw [bt_append (by rw [hW, hF]; exact hk), hW]
                    unfold ndig
                    by_cases c : k < W
                    · rw [if_pos c, if_pos c, PP.out.1 k c]
                      have := bt_range s ((1 + k : Nat) : Int)
                      omega
                    · rw [if_neg c, if_neg c, PP.out.2.1 (k - W) (by omega), show 1 + W + 1 + (k - W) = 1 + 1 + k by omega]
                      have := bt_range s ((1 + 1 + k : Nat) : Int)
                      omega
                  · rw [hsz] at hk
                    unfold ndig
                    by_cases c : k < W
                    · rw [if_pos c]
                      have := HH.out.1.kinds k c
                      have e : ((if true = true then 1 else 0 : Nat)) = 1 := rfl
                      rw [e] at this
                      omega
                    · rw [if_neg c]
                      have := (hfr (by omega)).2.2 (k - W) (by omega)
                      have e : ((if true = true then 1 else 0 : Nat)) = 1 := rfl
                      rw [e, show 1 + W + 1 + (k - W) = 1 + 1 + k by omega] at this
                      omega⟩
                have hD18 : FP.dnum 0 (ndig s 1 W) (W + F) < 10 ^ 18 := by
                  refine Nat.lt_of_lt_of_le (FP.dnum_lt (j := 0) (n := W + F) (by decide) (fun k hk => ?_) (W + F) (Nat.le_refl _)) (Nat.pow_le_pow_right (by decide) (by omega))
                  unfold ndig
                  by_cases c : k < W
                  · rw [if_pos c]
                    have := HH.out.1.kinds k c
                    have e : ((if true = true then 1 else 0 : Nat)) = 1 := rfl
                    rw [e] at this
                    omega
                  · rw [if_neg c]
                    have := (hfr (by omega)).2.2 (k - W) (by omega)
                    have e : ((if true = true then 1 else 0 : Nat)) = 1 := rfl
                    rw [e, show 1 + W + 1 + (k - W) = 1 + 1 + k by omega] at this
                    omega
                have hFW : FastW s true W F x esg N = FP.c2 (FP.dnum 0 (ndig s 1 W) (W + F)) F (powOf esg N (nexp s x)) := rfl
                obtain ⟨D, hD⟩ : ∃ D, D = FP.dnum 0 (ndig s 1 W) (W + F) := ⟨_, rfl⟩
                rw [← hD] at CU hD18 hFW
                have hDi : (D : Int) ≤ 1000000000000000000 := by
                  have e : (10 : Nat) ^ 18 = 1000000000000000000 := by decide
                  rw [e] at hD18; omega
                obtain ⟨a0, ha0⟩ : ∃ a0, a0 = FP.c0 D := ⟨_, rfl⟩
                have h0 : floatOfInt .f64 (D : Int) = a0 := ha0.symm
                have FINF : Aside0 (∀ w3 c, Below w2.heap.size w2 w3 → c = FP.wordOf true (FastW s true W F x esg N) → R (.returned (.tuple #[.float .f64 c, .bool true])) w3) := ⟨fun w3 c h1 h2 => by
                  rw [HR.out, h2]
                  exact ⟨HB.out.trans (h1.mono HB.out.size), .inr ⟨HH.out.2, true, W, F, x, esg, N, HH.out.1, .inl ⟨HFAST.out, rfl⟩⟩⟩⟩
                have HPE2 : Aside0 (PowEnv w2) := ⟨HPE.out.below HB.out⟩
                obtain ⟨hdv1, hdv2⟩ := FP.c1_div hD18 (show 1 ≤ F by omega) (show F < 23 by omega)
                have hdiv : RunDiv a0 (FP.tens[F]!) (FP.c1 D F) := by rw [ha0]; exact runDiv_of hdv1
                obtain ⟨a1, ha1⟩ : ∃ a1, a1 = FP.c1 D F := ⟨_, rfl⟩
                rw [← ha1] at hdiv
                by_cases hN : N = 0
                · have hpw := (PP.out.2.2.1 hN).1
                  subst hpw
                  have hc2 : FastW s true W F x esg N = a1 := by rw [hFW, ha1]; unfold powOf FP.c2; rw [if_pos hN]
                  have hle : a1 ≤ FP.INF := by rw [ha1]; exact Nat.le_of_lt (FP.c1_lt hD18 (by omega))
                  have HC2 := Aside0.mk hc2
                  have hng0 := signed_of true hle
                  have hneg : RunNeg a1 (FP.wordOf true a1) := hng0
                  obtain ⟨a3, ha3⟩ : ∃ a3, a3 = FP.wordOf true a1 := ⟨_, rfl⟩
                  rw [← ha3] at hneg
                  have HA3 := Aside0.mk ha3
                  unfold RunNeg at hneg
                  clear hng0 ha3
                  unfold RunDiv at hdiv
                  clear hsz hfr hD hD18 hFW ha0 ha1 hW1 hdv1 hdv2 hN hc2 hle
                  go_wp2_with (go_at_call 11; (with_reducible refine CU.out.mono ?_); rintro e w3 ⟨rfl, rfl⟩)
                  go_loopg [13, 14] F (fun q v13 v14 w' => ∃ k : Nat, v14 = .int .i64 (k : Int) ∧ v13 = .float .f64 (FP.tens[k]!) ∧ Aside0 (q = F - k ∧ k ≤ F) ∧ Aside0 (w' = w3))
                  case atStart => exact ⟨0, rfl, rfl, ⟨⟨rfl, Nat.zero_le _⟩⟩, ⟨rfl⟩⟩
                  case round =>
                    obtain ⟨k, rfl, rfl, hkk, hw⟩ := hrel
                    have e := hw.out
                    subst e
                    by_cases hlt : k < F
                    · have hms : RunMul (FP.tens[k]!) 4621819117588971520 (FP.tens[k + 1]!) := runMul_of (tens_step ⟨k, by omega⟩)
                      obtain ⟨T0, hT0⟩ : ∃ T0, T0 = FP.tens[k]! := ⟨_, rfl⟩
                      obtain ⟨T1, hT1⟩ : ∃ T1, T1 = FP.tens[k + 1]! := ⟨_, rfl⟩
                      rw [← hT0, ← hT1] at hms
                      rw [← hT0]
                      have HT := Aside0.mk (And.intro hT1 hlt)
                      unfold RunMul at hms
                      have l1 : decide ((k : Int) < (F : Int)) = true := decide_eq_true (by omega)
                      have l1n : decide (k < F) = true := decide_eq_true hlt
                      have hk8 : (k : Int) ≤ 800 := by omega
                      clear hT0 hT1 hlt
                      go_wp2_with fail
                      go_roundg (F - (k + 1))
                      case measure => have := hkk.out; have := HT.out; omega
                      case rel => exact ⟨k + 1, by go_num, by rw [← HT.out.1], ⟨⟨rfl, by have := HT.out; omega⟩⟩, ⟨rfl⟩⟩
                    · have hkF : k = F := by have := hkk.out; omega
                      have l1 : decide ((k : Int) < (F : Int)) = false := decide_eq_false (by omega)
                      have l1n : decide (k < F) = false := decide_eq_false hlt
                      have hdv := hdiv
                      rw [← hkF] at hdv
                      obtain ⟨T0, hT0⟩ : ∃ T0, T0 = FP.tens[k]! := ⟨_, rfl⟩
                      rw [← hT0] at hdv
                      rw [← hT0]
                      clear hT0 hdiv hkF hlt
                      go_wp2_with fail
                      exact FINF.out _ _ (Below.refl _ _) (by rw [HC2.out, ← HA3.out])
                · obtain ⟨hpe, hp300⟩ := (PP.out.2.2.2 hN).1 rfl
                  have heg : esg = 1 ∨ esg = -1 := by
                    rcases HH.out.1.back with ⟨h1, _⟩ | ⟨_, q, hq, hlet, hsgn, hfin, hek⟩
                    · exact absurd h1 hN
                    · rcases hsgn with ⟨_, h⟩ | ⟨_, _, h⟩ | ⟨_, _, h⟩ <;> omega
                  have hpw0 : -300 ≤ pw := by rcases heg with e | e <;> rw [e] at hpe <;> omega
                  have hpw1 : pw ≤ 300 := by rcases heg with e | e <;> rw [e] at hpe <;> omega
                  have tp : (pw != 4611686018427387904) = true := by rw [bne_iff_ne]; omega
                  obtain ⟨hm1, hm2⟩ := FP.c2_mul (p := pw) hD18 (show F < 23 by omega) hpw0 hpw1
                  obtain ⟨a2, ha2⟩ : ∃ a2, a2 = FP.c2 D F (some pw) := ⟨_, rfl⟩
                  rw [← ha2, ← ha1] at hm1
                  rw [← ha2] at hm2
                  have hmul : RunMul a1 (FP.powF pw) a2 := runMul_of hm1
                  have hc2 : FastW s true W F x esg N = a2 := by
                    rw [hFW, ha2, hpe]
                    unfold powOf
                    rw [if_neg hN]
                    rfl
                  have hle : a2 ≤ FP.INF := hm2
                  have CPW := Aside0.mk (pow10_calls pw hpw0 hpw1 w2 HPE2.out)
                  have HC2 := Aside0.mk hc2
                  have hng0 := signed_of true hle
                  have hneg : RunNeg a2 (FP.wordOf true a2) := hng0
                  obtain ⟨a3, ha3⟩ : ∃ a3, a3 = FP.wordOf true a2 := ⟨_, rfl⟩
                  rw [← ha3] at hneg
                  have HA3 := Aside0.mk ha3
                  unfold RunNeg at hneg
                  clear hng0 ha3
                  unfold RunDiv at hdiv
                  unfold RunMul at hmul
                  clear hsz hfr hD hD18 hFW ha0 ha1 hW1 hdv1 hdv2 hN hpe hp300 heg hm1 hm2 ha2 hc2 hle
                  go_wp2_with (go_at_call 11; (with_reducible refine CU.out.mono ?_); rintro e w3 ⟨rfl, rfl⟩)
                  go_loopg [13, 14] F (fun q v13 v14 w' => ∃ k : Nat, v14 = .int .i64 (k : Int) ∧ v13 = .float .f64 (FP.tens[k]!) ∧ Aside0 (q = F - k ∧ k ≤ F) ∧ Aside0 (w' = w3))
                  case atStart => exact ⟨0, rfl, rfl, ⟨⟨rfl, Nat.zero_le _⟩⟩, ⟨rfl⟩⟩
                  case round =>
                    obtain ⟨k, rfl, rfl, hkk, hw⟩ := hrel
                    have e := hw.out
                    subst e
                    by_cases hlt : k < F
                    · have hms : RunMul (FP.tens[k]!) 4621819117588971520 (FP.tens[k + 1]!) := runMul_of (tens_step ⟨k, by omega⟩)
                      obtain ⟨T0, hT0⟩ : ∃ T0, T0 = FP.tens[k]! := ⟨_, rfl⟩
                      obtain ⟨T1, hT1⟩ : ∃ T1, T1 = FP.tens[k + 1]! := ⟨_, rfl⟩
                      rw [← hT0, ← hT1] at hms
                      rw [← hT0]
                      have HT := Aside0.mk (And.intro hT1 hlt)
                      unfold RunMul at hms
                      have l1 : decide ((k : Int) < (F : Int)) = true := decide_eq_true (by omega)
                      have l1n : decide (k < F) = true := decide_eq_true hlt
                      have hk8 : (k : Int) ≤ 800 := by omega
                      clear hT0 hT1 hlt
                      go_wp2_with fail
                      go_roundg (F - (k + 1))
                      case measure => have := hkk.out; have := HT.out; omega
                      case rel => exact ⟨k + 1, by go_num, by rw [← HT.out.1], ⟨⟨rfl, by have := HT.out; omega⟩⟩, ⟨rfl⟩⟩
                    · have hkF : k = F := by have := hkk.out; omega
                      have l1 : decide ((k : Int) < (F : Int)) = false := decide_eq_false (by omega)
                      have l1n : decide (k < F) = false := decide_eq_false hlt
                      have hdv := hdiv
                      rw [← hkF] at hdv
                      obtain ⟨T0, hT0⟩ : ∃ T0, T0 = FP.tens[k]! := ⟨_, rfl⟩
                      rw [← hT0] at hdv
                      rw [← hT0]
                      clear hT0 hdiv hkF hlt
                      go_wp2_with (go_at_call 12; (with_reducible refine CPW.out.mono ?_); rintro e w4 ⟨rfl, nd, rfl⟩)
                      exact FINF.out _ _ (pw_below_drewN (Below.refl _ _) nd) (by rw [HC2.out, ← HA3.out])
            · have u2 : decide ((15 : Int) < (W : Int) + (F : Int)) = true := decide_eq_true (by omega)
              have u2n : decide (15 < W + F) = true := decide_eq_true (by omega)
              have hnf : ¬ FastC s true W F x N := fun hf => absurd ((HFC.out.mp hf).2.1 c2) (by omega)
              have HNF := Aside0.mk hnf
              clear hnf
              go_wp2_with fail
              refine (CN.out _).mono ?_
              rintro e w3 ⟨hbel3, ⟨f, rfl⟩ | ⟨r, hn, rfl⟩⟩
              · go_wp2_with fail
                exact FINN.out _ _ hbel3
              · go_wp2_with fail
                exact FINS.out HNF.out _ _ hbel3 hn
        · have u1 : decide ((17 : Int) < (W : Int)) = true := decide_eq_true (by omega)
          have u1n : decide (17 < W) = true := decide_eq_true (by omega)
          have hnf : ¬ FastC s true W F x N := fun hf => absurd (HFC.out.mp hf).1 (by omega)
          have HNF := Aside0.mk hnf
          clear hnf
          go_wp2_with fail
          refine (CN.out _).mono ?_
          rintro e w3 ⟨hbel3, ⟨f, rfl⟩ | ⟨r, hn, rfl⟩⟩
          · go_wp2_with fail
            exact FINN.out _ _ hbel3
          · go_wp2_with fail
            exact FINS.out HNF.out _ _ hbel3 hn
      | false =>
        have hb0 : ¬ bt s ((0 : Nat) : Int) = 45 := by
          rcases h.sgn with ⟨e, _⟩ | ⟨_, e⟩
          · cases e
          · exact e
        obtain ⟨c0, hc0⟩ : ∃ c0 : Nat, (c0 : Int) = bt s ((0 : Nat) : Int) := ⟨(bt s ((0 : Nat) : Int)).toNat, by have := bt_range s ((0 : Nat) : Int); omega⟩
        have x0 : ∀ h : 0 < s.size, ((s[0]'h).toNat : Int) = (c0 : Int) := fun h => (bt_at s ((0 : Nat) : Int) h).trans hc0.symm
        rw [← hc0] at hb0
        have t45 : ((c0 : Int) == 45) = false := by rw [beq_eq_false_iff_ne]; exact hb0
        have t45n : (c0 == 45) = false := by rw [beq_eq_false_iff_ne]; intro e; exact hb0 (by rw [e]; rfl)
        have CP := Aside0.mk (parts_false h h8 w1)
        have CN := Aside0.mk (fun w2 => nearestTo_calls h h8 w2)
        have hs8 : (s.size : Int) ≤ 800 := by omega
        clear h h8 hbel hpos hb0 hc0 hs
        go_wp2_with fail
        refine CP.out.mono ?_
        rintro e w2 ⟨rfl, wh, be, pw, sm, rfl, hW, hF, hwb, hbb, hN0, hN1⟩
        have hW1 := HH.out.1.one
        have hWs : (W : Int) ≤ 800 := by have h9 : 0 + W ≤ s.size := HH.out.1.fits; omega
        have hFs : (F : Int) ≤ 800 := by
          by_cases hF0 : F = 0
          · omega
          · have h9 : 0 + W + 1 + F ≤ s.size := (HH.out.1.frac hF0).2.1
            omega
        have FINS : Aside0 (¬ FastC s false W F x N → ∀ w3 r, Below w2.heap.size w2 w3 → FP.Near (NumX s false W F x esg N) r → R (.returned (.tuple #[.float .f64 (FP.wordOf false r), .bool true])) w3) := ⟨fun hf w3 r h1 h2 => by
          rw [HR.out]
          exact ⟨HB.out.trans (h1.mono HB.out.size), .inr ⟨HH.out.2, false, W, F, x, esg, N, HH.out.1, .inr ⟨hf, r, h2, rfl⟩⟩⟩⟩
        have FINN : Aside0 (∀ w3 f, Below w2.heap.size w2 w3 → R (.returned (.tuple #[.float .f64 f, .bool false])) w3) := ⟨fun w3 f h1 => by
          rw [HR.out]
          exact ⟨HB.out.trans (h1.mono HB.out.size), .inl ⟨f, rfl⟩⟩⟩
        have PP := Aside0.mk (And.intro hwb (And.intro hbb (And.intro hN0 hN1)))
        have hfc : FastC s false W F x N ↔ (W ≤ 18 ∧ (F ≠ 0 → W + F ≤ 15) ∧ sm = true) := by
          unfold FastC Fast
          have e : nst false = 0 := rfl
          have e2 : nexp2 s x = nexp s x := rfl
          rw [e, ← e2]
          constructor
          · rintro ⟨a, b, c⟩
            refine ⟨by omega, b, ?_⟩
            by_cases hN : N = 0
            · exact (hN0 hN).2
            · cases hsm : sm with
              | true => rfl
              | false => have := (hN1 hN).2 hsm; have := c hN; omega
          · rintro ⟨a, b, c⟩
            exact ⟨by omega, b, fun hN => ((hN1 hN).1 c).2⟩
        have HFC := Aside0.mk hfc
        clear hwb hbb hN0 hN1 hfc
        by_cases c1 : W ≤ 18
        · have u1 : decide ((18 : Int) < (W : Int)) = false := decide_eq_false (by omega)
          have u1n : decide (18 < W) = false := decide_eq_false (by omega)
          by_cases c2 : F = 0
          · subst c2
            have hbe : be = ByteArray.empty := ByteArray.size_eq_zero_iff.mp hF
            subst hbe
            cases sm with
            | false =>
              have hnf : ¬ FastC s false W 0 x N := fun hf => absurd (HFC.out.mp hf).2.2 (by decide)
              have HNF := Aside0.mk hnf
              clear hnf
              go_wp2_with fail
              refine (CN.out _).mono ?_
              rintro e w3 ⟨hbel3, ⟨f, rfl⟩ | ⟨r, hn, rfl⟩⟩
              · go_wp2_with fail
                exact FINN.out _ _ hbel3
              · go_wp2_with fail
                exact FINS.out HNF.out _ _ hbel3 hn
            | true =>
              have HFAST : Aside0 (FastC s false W 0 x N) := ⟨HFC.out.mpr ⟨c1, fun h => absurd rfl h, rfl⟩⟩
              have hsz : (wh ++ ByteArray.empty).size = W + 0 := by rw [ByteArray.size_append, hW, hF]
              have hfr := HH.out.1.frac
              have CU : Aside0 (Calls Tryz.prog 11 #[.string (wh ++ ByteArray.empty)] w2 (UPost w2 (FP.dnum 0 (ndig s 0 W) (W + 0)))) := ⟨by
                rw [← hsz]
                refine uint64_calls (wh ++ ByteArray.empty) (ndig s 0 W) (by rw [hsz]; omega) (by rw [hsz]; omega) (fun k hk => ?_) (fun k hk => ?_) w2
                · rw [hsz] at hk
                  rw [bt_append (by rw [hW, hF]; exact hk), hW]
                  unfold ndig
                  by_cases c : k < W
                  · rw [if_pos c, if_pos c, PP.out.1 k c]
                    have := bt_range s ((0 + k : Nat) : Int)
                    omega
                  · rw [if_neg c, if_neg c, PP.out.2.1 (k - W) (by omega), show 0 + W + 1 + (k - W) = 0 + 1 + k by omega]
                    have := bt_range s ((0 + 1 + k : Nat) : Int)
                    omega
                · rw [hsz] at hk
                  unfold ndig
                  by_cases c : k < W
                  · rw [if_pos c]
                    have := HH.out.1.kinds k c
                    have e : ((if false = true then 1 else 0 : Nat)) = 0 := rfl
                    rw [e] at this
                    omega
                  · rw [if_neg c]
                    have := (hfr (by omega)).2.2 (k - W) (by omega)
                    have e : ((if false = true then 1 else 0 : Nat)) = 0 := rfl
                    rw [e, show 0 + W + 1 + (k - W) = 0 + 1 + k by omega] at this
                    omega⟩
              have hD18 : FP.dnum 0 (ndig s 0 W) (W + 0) < 10 ^ 18 := by
                refine Nat.lt_of_lt_of_le (FP.dnum_lt (j := 0) (n := W + 0) (by decide) (fun k hk => ?_) (W + 0) (Nat.le_refl _)) (Nat.pow_le_pow_right (by decide) (by omega))
                unfold ndig
                by_cases c : k < W
                · rw [if_pos c]
                  have := HH.out.1.kinds k c
                  have e : ((if false = true then 1 else 0 : Nat)) = 0 := rfl
                  rw [e] at this
                  omega
                · rw [if_neg c]
                  have := (hfr (by omega)).2.2 (k - W) (by omega)
                  have e : ((if false = true then 1 else 0 : Nat)) = 0 := rfl
                  rw [e, show 0 + W + 1 + (k - W) = 0 + 1 + k by omega] at this
                  omega
              have hFW : FastW s false W 0 x esg N = FP.c2 (FP.dnum 0 (ndig s 0 W) (W + 0)) 0 (powOf esg N (nexp s x)) := rfl
              obtain ⟨D, hD⟩ : ∃ D, D = FP.dnum 0 (ndig s 0 W) (W + 0) := ⟨_, rfl⟩
              rw [← hD] at CU hD18 hFW
              have CU := Aside0.mk (show Calls Tryz.prog 11 #[.string wh] w2 (UPost w2 D) from by have c9 := CU.out; rwa [ByteArray.append_empty] at c9)
              have hDi : (D : Int) ≤ 1000000000000000000 := by
                have e : (10 : Nat) ^ 18 = 1000000000000000000 := by decide
                rw [e] at hD18; omega
              obtain ⟨a0, ha0⟩ : ∃ a0, a0 = FP.c0 D := ⟨_, rfl⟩
              have h0 : floatOfInt .f64 (D : Int) = a0 := ha0.symm
              have FINF : Aside0 (∀ w3 c, Below w2.heap.size w2 w3 → c = FP.wordOf false (FastW s false W 0 x esg N) → R (.returned (.tuple #[.float .f64 c, .bool true])) w3) := ⟨fun w3 c h1 h2 => by
                rw [HR.out, h2]
                exact ⟨HB.out.trans (h1.mono HB.out.size), .inr ⟨HH.out.2, false, W, 0, x, esg, N, HH.out.1, .inl ⟨HFAST.out, rfl⟩⟩⟩⟩
              have HPE2 : Aside0 (PowEnv w2) := ⟨HPE.out.below HB.out⟩
              obtain ⟨a1, ha1⟩ : ∃ a1, a1 = FP.c1 D 0 := ⟨_, rfl⟩
              have ha10 : a1 = a0 := by rw [ha1, ha0]; unfold FP.c1; rw [if_pos rfl]
              by_cases hN : N = 0
              · have hpw := (PP.out.2.2.1 hN).1
                subst hpw
                have hc2 : FastW s false W 0 x esg N = a1 := by rw [hFW, ha1]; unfold powOf FP.c2; rw [if_pos hN]
                have hle : a1 ≤ FP.INF := by rw [ha1]; exact Nat.le_of_lt (FP.c1_lt hD18 (by omega))
                have HC2 := Aside0.mk hc2
                subst ha10
                clear hsz hfr hD hD18 hFW ha0 ha1 hW1 hF hN hc2 hle
                go_wp2_with (go_at_call 11; (with_reducible refine CU.out.mono ?_); rintro e w3 ⟨rfl, rfl⟩)
                exact FINF.out _ _ (Below.refl _ _) (by rw [HC2.out, FP.wordOf_false])
              · obtain ⟨hpe, hp300⟩ := (PP.out.2.2.2 hN).1 rfl
                have heg : esg = 1 ∨ esg = -1 := by
                  rcases HH.out.1.back with ⟨h1, _⟩ | ⟨_, q, hq, hlet, hsgn, hfin, hek⟩
                  · exact absurd h1 hN
                  · rcases hsgn with ⟨_, h⟩ | ⟨_, _, h⟩ | ⟨_, _, h⟩ <;> omega
                have hpw0 : -300 ≤ pw := by rcases heg with e | e <;> rw [e] at hpe <;> omega
                have hpw1 : pw ≤ 300 := by rcases heg with e | e <;> rw [e] at hpe <;> omega
                have tp : (pw != 4611686018427387904) = true := by rw [bne_iff_ne]; omega
                obtain ⟨hm1, hm2⟩ := FP.c2_mul (p := pw) hD18 (show 0 < 23 by omega) hpw0 hpw1
                obtain ⟨a2, ha2⟩ : ∃ a2, a2 = FP.c2 D 0 (some pw) := ⟨_, rfl⟩
                rw [← ha2, ← ha1] at hm1
                rw [← ha2] at hm2
                have hmul : RunMul a1 (FP.powF pw) a2 := runMul_of hm1
                have hc2 : FastW s false W 0 x esg N = a2 := by
                  rw [hFW, ha2, hpe]
                  unfold powOf
                  rw [if_neg hN]
                  rfl
                have hle : a2 ≤ FP.INF := hm2
                have CPW := Aside0.mk (pow10_calls pw hpw0 hpw1 w2 HPE2.out)
                have HC2 := Aside0.mk hc2
                unfold RunMul at hmul
                subst ha10
                clear hsz hfr hD hD18 hFW ha0 ha1 hW1 hF hN hpe hp300 heg hm1 hm2 ha2 hc2 hle
                go_wp2_with (first | (go_at_call 11; (with_reducible refine CU.out.mono ?_); rintro e w3 ⟨rfl, rfl⟩) | (go_at_call 12; (with_reducible refine CPW.out.mono ?_); rintro e w4 ⟨rfl, nd, rfl⟩))
                exact FINF.out _ _ (pw_below_drewN (Below.refl _ _) nd) (by rw [HC2.out, FP.wordOf_false])
          · have hds : (be = ByteArray.empty) = False := eq_false (fun e => c2 (by rw [← hF, e]; rfl))
            have hd2 : (be.toList = ([] : List UInt8)) = False := eq_false (fun e => c2 (by rw [← hF, (toList_nil_iff_emptyBytes be).mp e]; rfl))
            have hd4 : be.toList.isEmpty = false := by rw [List.isEmpty_eq_false_iff]; intro e; rw [hd2] at e; exact e
            by_cases c3 : W + F ≤ 15
            · have u2 : decide ((15 : Int) < (W : Int) + (F : Int)) = false := decide_eq_false (by omega)
              have u2n : decide (15 < W + F) = false := decide_eq_false (by omega)
              cases sm with
              | false =>
                have hnf : ¬ FastC s false W F x N := fun hf => absurd (HFC.out.mp hf).2.2 (by decide)
                have HNF := Aside0.mk hnf
                clear hnf
                go_wp2_with fail
                refine (CN.out _).mono ?_
                rintro e w3 ⟨hbel3, ⟨f, rfl⟩ | ⟨r, hn, rfl⟩⟩
                · go_wp2_with fail
                  exact FINN.out _ _ hbel3
                · go_wp2_with fail
                  exact FINS.out HNF.out _ _ hbel3 hn
              | true =>
                have HFAST : Aside0 (FastC s false W F x N) := ⟨HFC.out.mpr ⟨c1, fun _ => c3, rfl⟩⟩
                have hsz : (wh ++ be).size = W + F := by rw [ByteArray.size_append, hW, hF]
                have hfr := HH.out.1.frac
                have CU : Aside0 (Calls Tryz.prog 11 #[.string (wh ++ be)] w2 (UPost w2 (FP.dnum 0 (ndig s 0 W) (W + F)))) := ⟨by
                  rw [← hsz]
                  refine uint64_calls (wh ++ be) (ndig s 0 W) (by rw [hsz]; omega) (by rw [hsz]; omega) (fun k hk => ?_) (fun k hk => ?_) w2
                  · rw [hsz] at hk
                    rw [bt_append (by rw [hW, hF]; exact hk), hW]
                    unfold ndig
                    by_cases c : k < W
                    · rw [if_pos c, if_pos c, PP.out.1 k c]
                      have := bt_range s ((0 + k : Nat) : Int)
                      omega
                    · rw [if_neg c, if_neg c, PP.out.2.1 (k - W) (by omega), show 0 + W + 1 + (k - W) = 0 + 1 + k by omega]
                      have := bt_range s ((0 + 1 + k : Nat) : Int)
                      omega
                  · rw [hsz] at hk
                    unfold ndig
                    by_cases c : k < W
                    · rw [if_pos c]
                      have := HH.out.1.kinds k c
                      have e : ((if false = true then 1 else 0 : Nat)) = 0 := rfl
                      rw [e] at this
                      omega
                    · rw [if_neg c]
                      have := (hfr (by omega)).2.2 (k - W) (by omega)
                      have e : ((if false = true then 1 else 0 : Nat)) = 0 := rfl
                      rw [e, show 0 + W + 1 + (k - W) = 0 + 1 + k by omega] at this
                      omega⟩
                have hD18 : FP.dnum 0 (ndig s 0 W) (W + F) < 10 ^ 18 := by
                  refine Nat.lt_of_lt_of_le (FP.dnum_lt (j := 0) (n := W + F) (by decide) (fun k hk => ?_) (W + F) (Nat.le_refl _)) (Nat.pow_le_pow_right (by decide) (by omega))
                  unfold ndig
                  by_cases c : k < W
                  · rw [if_pos c]
                    have := HH.out.1.kinds k c
                    have e : ((if false = true then 1 else 0 : Nat)) = 0 := rfl
                    rw [e] at this
                    omega
                  · rw [if_neg c]
                    have := (hfr (by omega)).2.2 (k - W) (by omega)
                    have e : ((if false = true then 1 else 0 : Nat)) = 0 := rfl
                    rw [e, show 0 + W + 1 + (k - W) = 0 + 1 + k by omega] at this
                    omega
                have hFW : FastW s false W F x esg N = FP.c2 (FP.dnum 0 (ndig s 0 W) (W + F)) F (powOf esg N (nexp s x)) := rfl
                obtain ⟨D, hD⟩ : ∃ D, D = FP.dnum 0 (ndig s 0 W) (W + F) := ⟨_, rfl⟩
                rw [← hD] at CU hD18 hFW
                have hDi : (D : Int) ≤ 1000000000000000000 := by
                  have e : (10 : Nat) ^ 18 = 1000000000000000000 := by decide
                  rw [e] at hD18; omega
                obtain ⟨a0, ha0⟩ : ∃ a0, a0 = FP.c0 D := ⟨_, rfl⟩
                have h0 : floatOfInt .f64 (D : Int) = a0 := ha0.symm
                have FINF : Aside0 (∀ w3 c, Below w2.heap.size w2 w3 → c = FP.wordOf false (FastW s false W F x esg N) → R (.returned (.tuple #[.float .f64 c, .bool true])) w3) := ⟨fun w3 c h1 h2 => by
                  rw [HR.out, h2]
                  exact ⟨HB.out.trans (h1.mono HB.out.size), .inr ⟨HH.out.2, false, W, F, x, esg, N, HH.out.1, .inl ⟨HFAST.out, rfl⟩⟩⟩⟩
                have HPE2 : Aside0 (PowEnv w2) := ⟨HPE.out.below HB.out⟩
                obtain ⟨hdv1, hdv2⟩ := FP.c1_div hD18 (show 1 ≤ F by omega) (show F < 23 by omega)
                have hdiv : RunDiv a0 (FP.tens[F]!) (FP.c1 D F) := by rw [ha0]; exact runDiv_of hdv1
                obtain ⟨a1, ha1⟩ : ∃ a1, a1 = FP.c1 D F := ⟨_, rfl⟩
                rw [← ha1] at hdiv
                by_cases hN : N = 0
                · have hpw := (PP.out.2.2.1 hN).1
                  subst hpw
                  have hc2 : FastW s false W F x esg N = a1 := by rw [hFW, ha1]; unfold powOf FP.c2; rw [if_pos hN]
                  have hle : a1 ≤ FP.INF := by rw [ha1]; exact Nat.le_of_lt (FP.c1_lt hD18 (by omega))
                  have HC2 := Aside0.mk hc2
                  unfold RunDiv at hdiv
                  clear hsz hfr hD hD18 hFW ha0 ha1 hW1 hdv1 hdv2 hN hc2 hle
                  go_wp2_with (go_at_call 11; (with_reducible refine CU.out.mono ?_); rintro e w3 ⟨rfl, rfl⟩)
                  go_loopg [13, 14] F (fun q v13 v14 w' => ∃ k : Nat, v14 = .int .i64 (k : Int) ∧ v13 = .float .f64 (FP.tens[k]!) ∧ Aside0 (q = F - k ∧ k ≤ F) ∧ Aside0 (w' = w3))
                  case atStart => exact ⟨0, rfl, rfl, ⟨⟨rfl, Nat.zero_le _⟩⟩, ⟨rfl⟩⟩
                  case round =>
                    obtain ⟨k, rfl, rfl, hkk, hw⟩ := hrel
                    have e := hw.out
                    subst e
                    by_cases hlt : k < F
                    · have hms : RunMul (FP.tens[k]!) 4621819117588971520 (FP.tens[k + 1]!) := runMul_of (tens_step ⟨k, by omega⟩)
                      obtain ⟨T0, hT0⟩ : ∃ T0, T0 = FP.tens[k]! := ⟨_, rfl⟩
                      obtain ⟨T1, hT1⟩ : ∃ T1, T1 = FP.tens[k + 1]! := ⟨_, rfl⟩
                      rw [← hT0, ← hT1] at hms
                      rw [← hT0]
                      have HT := Aside0.mk (And.intro hT1 hlt)
                      unfold RunMul at hms
                      have l1 : decide ((k : Int) < (F : Int)) = true := decide_eq_true (by omega)
                      have l1n : decide (k < F) = true := decide_eq_true hlt
                      have hk8 : (k : Int) ≤ 800 := by omega
                      clear hT0 hT1 hlt
                      go_wp2_with fail
                      go_roundg (F - (k + 1))
                      case measure => have := hkk.out; have := HT.out; omega
                      case rel => exact ⟨k + 1, by go_num, by rw [← HT.out.1], ⟨⟨rfl, by have := HT.out; omega⟩⟩, ⟨rfl⟩⟩
                    · have hkF : k = F := by have := hkk.out; omega
                      have l1 : decide ((k : Int) < (F : Int)) = false := decide_eq_false (by omega)
                      have l1n : decide (k < F) = false := decide_eq_false hlt
                      have hdv := hdiv
                      rw [← hkF] at hdv
                      obtain ⟨T0, hT0⟩ : ∃ T0, T0 = FP.tens[k]! := ⟨_, rfl⟩
                      rw [← hT0] at hdv
                      rw [← hT0]
                      clear hT0 hdiv hkF hlt
                      go_wp2_with fail
                      exact FINF.out _ _ (Below.refl _ _) (by rw [HC2.out, FP.wordOf_false])
                · obtain ⟨hpe, hp300⟩ := (PP.out.2.2.2 hN).1 rfl
                  have heg : esg = 1 ∨ esg = -1 := by
                    rcases HH.out.1.back with ⟨h1, _⟩ | ⟨_, q, hq, hlet, hsgn, hfin, hek⟩
                    · exact absurd h1 hN
                    · rcases hsgn with ⟨_, h⟩ | ⟨_, _, h⟩ | ⟨_, _, h⟩ <;> omega
                  have hpw0 : -300 ≤ pw := by rcases heg with e | e <;> rw [e] at hpe <;> omega
                  have hpw1 : pw ≤ 300 := by rcases heg with e | e <;> rw [e] at hpe <;> omega
                  have tp : (pw != 4611686018427387904) = true := by rw [bne_iff_ne]; omega
                  obtain ⟨hm1, hm2⟩ := FP.c2_mul (p := pw) hD18 (show F < 23 by omega) hpw0 hpw1
                  obtain ⟨a2, ha2⟩ : ∃ a2, a2 = FP.c2 D F (some pw) := ⟨_, rfl⟩
                  rw [← ha2, ← ha1] at hm1
                  rw [← ha2] at hm2
                  have hmul : RunMul a1 (FP.powF pw) a2 := runMul_of hm1
                  have hc2 : FastW s false W F x esg N = a2 := by
                    rw [hFW, ha2, hpe]
                    unfold powOf
                    rw [if_neg hN]
                    rfl
                  have hle : a2 ≤ FP.INF := hm2
                  have CPW := Aside0.mk (pow10_calls pw hpw0 hpw1 w2 HPE2.out)
                  have HC2 := Aside0.mk hc2
                  unfold RunDiv at hdiv
                  unfold RunMul at hmul
                  clear hsz hfr hD hD18 hFW ha0 ha1 hW1 hdv1 hdv2 hN hpe hp300 heg hm1 hm2 ha2 hc2 hle
                  go_wp2_with (go_at_call 11; (with_reducible refine CU.out.mono ?_); rintro e w3 ⟨rfl, rfl⟩)
                  go_loopg [13, 14] F (fun q v13 v14 w' => ∃ k : Nat, v14 = .int .i64 (k : Int) ∧ v13 = .float .f64 (FP.tens[k]!) ∧ Aside0 (q = F - k ∧ k ≤ F) ∧ Aside0 (w' = w3))
                  case atStart => exact ⟨0, rfl, rfl, ⟨⟨rfl, Nat.zero_le _⟩⟩, ⟨rfl⟩⟩
                  case round =>
                    obtain ⟨k, rfl, rfl, hkk, hw⟩ := hrel
                    have e := hw.out
                    subst e
                    by_cases hlt : k < F
                    · have hms : RunMul (FP.tens[k]!) 4621819117588971520 (FP.tens[k + 1]!) := runMul_of (tens_step ⟨k, by omega⟩)
                      obtain ⟨T0, hT0⟩ : ∃ T0, T0 = FP.tens[k]! := ⟨_, rfl⟩
                      obtain ⟨T1, hT1⟩ : ∃ T1, T1 = FP.tens[k + 1]! := ⟨_, rfl⟩
                      rw [← hT0, ← hT1] at hms
                      rw [← hT0]
                      have HT := Aside0.mk (And.intro hT1 hlt)
                      unfold RunMul at hms
                      have l1 : decide ((k : Int) < (F : Int)) = true := decide_eq_true (by omega)
                      have l1n : decide (k < F) = true := decide_eq_true hlt
                      have hk8 : (k : Int) ≤ 800 := by omega
                      clear hT0 hT1 hlt
                      go_wp2_with fail
                      go_roundg (F - (k + 1))
                      case measure => have := hkk.out; have := HT.out; omega
                      case rel => exact ⟨k + 1, by go_num, by rw [← HT.out.1], ⟨⟨rfl, by have := HT.out; omega⟩⟩, ⟨rfl⟩⟩
                    · have hkF : k = F := by have := hkk.out; omega
                      have l1 : decide ((k : Int) < (F : Int)) = false := decide_eq_false (by omega)
                      have l1n : decide (k < F) = false := decide_eq_false hlt
                      have hdv := hdiv
                      rw [← hkF] at hdv
                      obtain ⟨T0, hT0⟩ : ∃ T0, T0 = FP.tens[k]! := ⟨_, rfl⟩
                      rw [← hT0] at hdv
                      rw [← hT0]
                      clear hT0 hdiv hkF hlt
                      go_wp2_with (go_at_call 12; (with_reducible refine CPW.out.mono ?_); rintro e w4 ⟨rfl, nd, rfl⟩)
                      exact FINF.out _ _ (pw_below_drewN (Below.refl _ _) nd) (by rw [HC2.out, FP.wordOf_false])
            · have u2 : decide ((15 : Int) < (W : Int) + (F : Int)) = true := decide_eq_true (by omega)
              have u2n : decide (15 < W + F) = true := decide_eq_true (by omega)
              have hnf : ¬ FastC s false W F x N := fun hf => absurd ((HFC.out.mp hf).2.1 c2) (by omega)
              have HNF := Aside0.mk hnf
              clear hnf
              go_wp2_with fail
              refine (CN.out _).mono ?_
              rintro e w3 ⟨hbel3, ⟨f, rfl⟩ | ⟨r, hn, rfl⟩⟩
              · go_wp2_with fail
                exact FINN.out _ _ hbel3
              · go_wp2_with fail
                exact FINS.out HNF.out _ _ hbel3 hn
        · have u1 : decide ((18 : Int) < (W : Int)) = true := decide_eq_true (by omega)
          have u1n : decide (18 < W) = true := decide_eq_true (by omega)
          have hnf : ¬ FastC s false W F x N := fun hf => absurd (HFC.out.mp hf).1 (by omega)
          have HNF := Aside0.mk hnf
          clear hnf
          go_wp2_with fail
          refine (CN.out _).mono ?_
          rintro e w3 ⟨hbel3, ⟨f, rfl⟩ | ⟨r, hn, rfl⟩⟩
          · go_wp2_with fail
            exact FINN.out _ _ hbel3
          · go_wp2_with fail
            exact FINS.out HNF.out _ _ hbel3 hn
    · have t1 : decide ((800 : Int) < (s.size : Int)) = true := decide_eq_true (by omega)
      have t1n : decide (800 < s.size) = true := decide_eq_true (by omega)
      clear h h8
      go_wp2_with fail
      rw [HR.out]
      exact ⟨hbel, .inl ⟨_, rfl⟩⟩


end Go.Proofs.YtodbjojglibniaaGreatDoor
