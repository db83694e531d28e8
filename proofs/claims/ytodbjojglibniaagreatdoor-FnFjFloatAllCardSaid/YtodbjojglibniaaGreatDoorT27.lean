/- Walks of functions of FnFjFloatAll (C10); conditions stand ahead of each theorem. -/
import Derived.Test.YtodbjojglibniaaGreatDoorT26
import Derived.Test.YtodbjojglibniaaGreatDoorT03
import Derived.Test.YtodbjojglibniaaGreatDoorT06
set_option linter.unusedVariables false
set_option linter.unusedSimpArgs false
namespace Go.Proofs.YtodbjojglibniaaGreatDoor
open Go.RowKit Go.Proofs.YtodbjojglibniaaGreatDoorW.PrintWords Go.Proofs.YtodbjojglibniaaGreatDoorW.PrintLast

theorem runDiv_of {a b c : Nat} (h : floatBits .quo .f64 a b = some c) : RunDiv a b c := fun t w => run_float_arith w .quo t .f64 a b c h

theorem runMul_of {a b c : Nat} (h : floatBits .mul .f64 a b = some c) : RunMul a b c := fun t w => run_float_arith w .mul t .f64 a b c h
theorem Drew.below {w w' : World} (h : Drew w w') : Below w.heap.size w w' := by
  obtain ⟨n, rfl⟩ := h
  exact ⟨rfl, rfl, rfl, Nat.le_refl _, fun _ _ => rfl⟩
/-- Where a number's digits begin. -/
def nst (neg : Bool) : Nat := if neg then 1 else 0
/-- Where the digits (and those behind the point) end. -/
def nq (neg : Bool) (W F : Nat) : Nat := nst neg + W + (if F = 0 then 0 else 1 + F)
/-- The parts of a number: W digits, F behind the point, N of the power. -/
structure JNum (s : ByteArray) (neg : Bool) (W : Nat) (gw : Nat → Nat) (F : Nat) (gf : Nat → Nat) (x esg : Int) (N : Nat) (ge : Nat → Nat) : Prop where
  sz : s.size ≤ 800
  sgn : neg = true → bt s 0 = 45
  one : 1 ≤ W
  fits : nst neg + W ≤ s.size
  bytes : ∀ k < W, bt s ((nst neg + k : Nat) : Int) = (gw k : Int)
  kinds : ∀ k < W, 48 ≤ gw k ∧ gw k ≤ 57
  frac : F ≠ 0 → bt s ((nst neg + W : Nat) : Int) = 46 ∧ nst neg + W + 1 + F ≤ s.size ∧ (∀ k < F, bt s ((nst neg + W + 1 + k : Nat) : Int) = (gf k : Int)) ∧ ∀ k < F, 48 ≤ gf k ∧ gf k ≤ 57
  back : (N = 0 ∧ nq neg W F = s.size) ∨ Back s ((nq neg W F : Nat) : Int) x esg N ge
/-- Whether fastfloat goes its short way. -/
def Fast (neg : Bool) (W F N : Nat) (ge : Nat → Nat) : Prop := nst neg + W ≤ 18 ∧ (F ≠ 0 → W + F ≤ 15) ∧ (N ≠ 0 → FP.dnum 0 ge N ≤ 300)
/-- The power, if there is one. -/
def powOf (esg : Int) (N : Nat) (ge : Nat → Nat) : Option Int := if N = 0 then none else some (esg * (FP.dnum 0 ge N : Int))
/-- fastfloat's table. -/
def FfTab (w : World) : Prop := ∀ k, k < 17 → w.cell? ⟨4, k, none⟩ = some (.float .f64 (FP.tens[k]!))
def FfPost (w : World) (neg : Bool) (X : Rat) (fast : Prop) (c : Nat) (e : Ending) (w' : World) : Prop :=
  Below w.heap.size w w' ∧ ((fast ∧ e = .returned (.tuple #[.float .f64 (FP.wordOf neg c), .nilIface])) ∨ (¬ fast ∧ ∃ r, FP.Near X r ∧ e = .returned (.tuple #[.float .f64 (FP.wordOf neg r), .nilIface])))
theorem signed_of (neg : Bool) {r : Nat} (h : r ≤ FP.INF) : Signed neg r (FP.wordOf neg r) := by
  unfold Signed
  cases neg with
  | true =>
    rw [if_pos rfl]
    intro w
    have := neg_run r (by unfold FP.INF at h; omega) w
    rwa [FP.wordOf_false] at this
  | false => rw [if_neg (by decide)]; exact FP.wordOf_false r
section
variable {s : ByteArray} {neg : Bool} {W : Nat} {gw : Nat → Nat} {F : Nat} {gf : Nat → Nat} {x esg : Int} {N : Nat} {ge : Nat → Nat} {X : Rat} {w : World}
/-- On from behind the first loop. -/
theorem ff_rest (h : JNum s neg W gw F gf x esg N ge) (hPE : PowEnv w) (hT : FfTab w) (h18 : nst neg + W ≤ 18)
    (hS : ¬ Fast neg W F N ge → Slow s neg X w (FfPost w neg X (Fast neg W F N ge) (FP.c2 (FP.dnum (FP.dnum 0 gw W) gf F) F (powOf esg N ge))))
    (v11 v12 v15 v16 v17 : Value) (u : Nat → Value) (Q : Exit → Act → World → Prop)
    (hQ : ∀ a w', Q .ret a w' = bodyPost Tryz.prog Tryz.f27 (FfPost w neg X (Fast neg W F N ge) (FP.c2 (FP.dnum (FP.dnum 0 gw W) gf F) F (powOf esg N ge))) .ret a w') :
    Code.wp Tryz.prog ffT0 Q ⟨ffr2 (.string s) (.float .f64 0) .nilIface (.int .u64 ((nst neg + W : Nat) : Int)) (.bool neg) (.int .u64 ((FP.dnum 0 gw W : Nat) : Int)) (.int .u64 ((nst neg : Nat) : Int)) v11 v12 v15 v16 v17 u, []⟩ w := by
  obtain ⟨sz, sgn, one, fits, bytes, kinds, frac, back⟩ := h
  have hD : FP.dnum 0 gw W < 10 ^ (nst neg + W - nst neg) := by
    rw [Nat.add_sub_cancel_left]
    have := FP.dnum_lt (a := 0) (g := gw) (j := 0) (by decide) (fun k hk => (kinds k hk).2) W (Nat.le_refl _)
    rwa [Nat.zero_add] at this
  have hD18 : FP.dnum 0 gw W < 10 ^ 18 := Nat.lt_of_lt_of_le hD (Nat.pow_le_pow_right (by omega) (by omega))
  generalize hDD : FP.dnum 0 gw W = D at *
  have hn1 : nst neg ≤ 1 := by unfold nst; split <;> omega
  generalize hst : nst neg = st at *
  have hfin0 : ∀ (c : Nat), Fast neg W F N ge → c = FP.wordOf neg (FP.c2 (FP.dnum D gf F) F (powOf esg N ge)) → ∀ w', Drew w w' → FfPost w neg X (Fast neg W F N ge) (FP.c2 (FP.dnum D gf F) F (powOf esg N ge)) (.returned (.tuple #[.float .f64 c, .nilIface])) w' := by
    rintro c hf rfl w' hd
    exact ⟨hd.below, .inl ⟨hf, rfl⟩⟩

  by_cases hF : F = 0
  · subst hF
    have hq0 : nq neg W 0 = st + W := by unfold nq; rw [hst, if_pos rfl, Nat.add_zero]
    rw [hq0] at back
    have c1e : FP.c1 D 0 = FP.c0 D := by unfold FP.c1; rw [if_pos rfl]
    rcases back with ⟨rfl, hend⟩ | hb
    · have hfast : Fast neg W 0 0 ge := ⟨by rw [hst]; exact h18, fun h => absurd rfl h, fun h => absurd rfl h⟩
      have ce : FP.c2 D 0 (powOf esg 0 ge) = FP.c0 D := by unfold powOf FP.c2; rw [if_pos rfl]; exact c1e
      exact fft_no_end (X := X) v11 v12 v15 v16 v17 (st + W) D st (by omega) sz fits hD h18 u Q hQ hend (FP.c0 D) (FP.c0 D) (FP.c0 D) (FP.wordOf neg (FP.c0 D)) hPE (fun h => absurd trivial h) rfl rfl rfl (signed_of neg (Nat.le_of_lt (FP.c0_lt hD18))) (hfin0 _ hfast (by show _ = FP.wordOf neg (FP.c2 D 0 _); rw [ce]))
    · obtain ⟨hlet, hsg, hN1, hN, hbe, hke⟩ := hb
      have hN0 : N ≠ 0 := by omega
      have pe : powOf esg N ge = some (esg * (FP.dnum 0 ge N : Int)) := by unfold powOf; rw [if_neg hN0]
      have hfast : FP.dnum 0 ge N ≤ 300 → Fast neg W 0 N ge := fun h300 => ⟨by rw [hst]; exact h18, fun h => absurd rfl h, fun _ => h300⟩
      have hslow : ¬ (FP.dnum 0 ge N ≤ 300) → ¬ Fast neg W 0 N ge := fun hn hf => hn (hf.2.2 hN0)
      have hesg : esg = 1 ∨ esg = -1 := by rcases hsg with ⟨_, e⟩ | ⟨_, _, e⟩ | ⟨_, _, e⟩ <;> omega
      have hm : FP.dnum 0 ge N ≤ 300 → floatBits .mul .f64 (FP.c1 D 0) (FP.powF (esg * (FP.dnum 0 ge N : Int))) = some (FP.c2 D 0 (some (esg * (FP.dnum 0 ge N : Int)))) ∧ FP.c2 D 0 (some (esg * (FP.dnum 0 ge N : Int))) ≤ FP.INF := fun h300 =>
        FP.c2_mul hD18 (by omega) (by rcases hesg with e | e <;> rw [e] <;> omega) (by rcases hesg with e | e <;> rw [e] <;> omega)
      rcases hlet with hl | hl
      · rcases hsg with ⟨hx, he⟩ | ⟨hx, hs, he⟩ | ⟨hx, hs, he⟩
        · refine fft_no_none_E v11 v12 v15 v16 v17 (st + W) D st (by omega) sz fits hD h18 u Q hQ hl ((st + W) + 1) rfl N ge hN1 (by omega) (fun k hk => ?_) hke (FP.c0 D) (FP.c1 D 0) (FP.c2 D 0 (some (esg * (FP.dnum 0 ge N : Int)))) (FP.wordOf neg (FP.c2 D 0 (some (esg * (FP.dnum 0 ge N : Int))))) hPE (fun hn => hS (hslow hn)) rfl c1e (fun h300 => ?_) (fun h300 => signed_of neg (hm h300).2) (fun h300 => hfin0 _ (hfast h300) (by first | (rw [pe]; done) | (rw [pe]; rfl)))
          · have := hbe k hk; rw [hx] at this; exact this
          · have := runMul_of (hm h300).1
            rw [he] at this
            rw [he]
            first | (rw [Int.one_mul] at this; rw [Int.one_mul]; exact this) | (rw [Int.neg_one_mul] at this; rw [Int.neg_one_mul]; exact this)
        · refine fft_no_plus_E v11 v12 v15 v16 v17 (st + W) D st (by omega) sz fits hD h18 u Q hQ hl ((st + W) + 1) rfl hs ((st + W) + 1 + 1) rfl N ge hN1 (by omega) (fun k hk => ?_) hke (FP.c0 D) (FP.c1 D 0) (FP.c2 D 0 (some (esg * (FP.dnum 0 ge N : Int)))) (FP.wordOf neg (FP.c2 D 0 (some (esg * (FP.dnum 0 ge N : Int))))) hPE (fun hn => hS (hslow hn)) rfl c1e (fun h300 => ?_) (fun h300 => signed_of neg (hm h300).2) (fun h300 => hfin0 _ (hfast h300) (by first | (rw [pe]; done) | (rw [pe]; rfl)))
          · have := hbe k hk; rw [hx] at this; exact this
          · have := runMul_of (hm h300).1
            rw [he] at this
            rw [he]
            first | (rw [Int.one_mul] at this; rw [Int.one_mul]; exact this) | (rw [Int.neg_one_mul] at this; rw [Int.neg_one_mul]; exact this)
        · refine fft_no_minus_E v11 v12 v15 v16 v17 (st + W) D st (by omega) sz fits hD h18 u Q hQ hl ((st + W) + 1) rfl hs ((st + W) + 1 + 1) rfl N ge hN1 (by omega) (fun k hk => ?_) hke (FP.c0 D) (FP.c1 D 0) (FP.c2 D 0 (some (esg * (FP.dnum 0 ge N : Int)))) (FP.wordOf neg (FP.c2 D 0 (some (esg * (FP.dnum 0 ge N : Int))))) hPE (fun hn => hS (hslow hn)) rfl c1e (fun h300 => ?_) (fun h300 => signed_of neg (hm h300).2) (fun h300 => hfin0 _ (hfast h300) (by first | (rw [pe]; done) | (rw [pe]; rfl)))
          · have := hbe k hk; rw [hx] at this; exact this
          · have := runMul_of (hm h300).1
            rw [he] at this
            rw [he]
            first | (rw [Int.one_mul] at this; rw [Int.one_mul]; exact this) | (rw [Int.neg_one_mul] at this; rw [Int.neg_one_mul]; exact this)
      · rcases hsg with ⟨hx, he⟩ | ⟨hx, hs, he⟩ | ⟨hx, hs, he⟩
        · refine fft_no_none_e v11 v12 v15 v16 v17 (st + W) D st (by omega) sz fits hD h18 u Q hQ hl ((st + W) + 1) rfl N ge hN1 (by omega) (fun k hk => ?_) hke (FP.c0 D) (FP.c1 D 0) (FP.c2 D 0 (some (esg * (FP.dnum 0 ge N : Int)))) (FP.wordOf neg (FP.c2 D 0 (some (esg * (FP.dnum 0 ge N : Int))))) hPE (fun hn => hS (hslow hn)) rfl c1e (fun h300 => ?_) (fun h300 => signed_of neg (hm h300).2) (fun h300 => hfin0 _ (hfast h300) (by first | (rw [pe]; done) | (rw [pe]; rfl)))
          · have := hbe k hk; rw [hx] at this; exact this
          · have := runMul_of (hm h300).1
            rw [he] at this
            rw [he]
            first | (rw [Int.one_mul] at this; rw [Int.one_mul]; exact this) | (rw [Int.neg_one_mul] at this; rw [Int.neg_one_mul]; exact this)
        · refine fft_no_plus_e v11 v12 v15 v16 v17 (st + W) D st (by omega) sz fits hD h18 u Q hQ hl ((st + W) + 1) rfl hs ((st + W) + 1 + 1) rfl N ge hN1 (by omega) (fun k hk => ?_) hke (FP.c0 D) (FP.c1 D 0) (FP.c2 D 0 (some (esg * (FP.dnum 0 ge N : Int)))) (FP.wordOf neg (FP.c2 D 0 (some (esg * (FP.dnum 0 ge N : Int))))) hPE (fun hn => hS (hslow hn)) rfl c1e (fun h300 => ?_) (fun h300 => signed_of neg (hm h300).2) (fun h300 => hfin0 _ (hfast h300) (by first | (rw [pe]; done) | (rw [pe]; rfl)))
          · have := hbe k hk; rw [hx] at this; exact this
          · have := runMul_of (hm h300).1
            rw [he] at this
            rw [he]
            first | (rw [Int.one_mul] at this; rw [Int.one_mul]; exact this) | (rw [Int.neg_one_mul] at this; rw [Int.neg_one_mul]; exact this)
        · refine fft_no_minus_e v11 v12 v15 v16 v17 (st + W) D st (by omega) sz fits hD h18 u Q hQ hl ((st + W) + 1) rfl hs ((st + W) + 1 + 1) rfl N ge hN1 (by omega) (fun k hk => ?_) hke (FP.c0 D) (FP.c1 D 0) (FP.c2 D 0 (some (esg * (FP.dnum 0 ge N : Int)))) (FP.wordOf neg (FP.c2 D 0 (some (esg * (FP.dnum 0 ge N : Int))))) hPE (fun hn => hS (hslow hn)) rfl c1e (fun h300 => ?_) (fun h300 => signed_of neg (hm h300).2) (fun h300 => hfin0 _ (hfast h300) (by first | (rw [pe]; done) | (rw [pe]; rfl)))
          · have := hbe k hk; rw [hx] at this; exact this
          · have := runMul_of (hm h300).1
            rw [he] at this
            rw [he]
            first | (rw [Int.one_mul] at this; rw [Int.one_mul]; exact this) | (rw [Int.neg_one_mul] at this; rw [Int.neg_one_mul]; exact this)
  · obtain ⟨hdot, hF2, hbf, hkf⟩ := frac hF
    have hq0 : nq neg W F = st + W + 1 + F := by unfold nq; rw [hst, if_neg hF]; omega
    rw [hq0] at back
    obtain ⟨q, hq⟩ : ∃ q, st + W + 1 + F = q := ⟨_, rfl⟩
    rw [hq] at back
    have hD2 : q < st + 17 → FP.dnum D gf F < 10 ^ 18 := fun hq17 =>
      Nat.lt_of_lt_of_le (FP.dnum_lt (j := st + W - st) hD (fun k hk => (hkf k hk).2) F (Nat.le_refl _)) (Nat.pow_le_pow_right (by omega) (by omega))
    rcases back with ⟨rfl, hend⟩ | hb
    · have hfast : q < st + 17 → Fast neg W F 0 ge := fun hq17 => ⟨by rw [hst]; exact h18, fun _ => by omega, fun h => absurd rfl h⟩
      have hslow : ¬ (q < st + 17) → ¬ Fast neg W F 0 ge := fun hn hf => hn (by have := hf.2.1 hF; omega)
      have ce : FP.c2 (FP.dnum D gf F) F (powOf esg 0 ge) = FP.c1 (FP.dnum D gf F) F := by unfold powOf FP.c2; rw [if_pos rfl]
      exact fft_dot_end v11 v12 v15 v16 v17 (st + W) D st (by omega) sz fits hD h18 u Q hQ F gf hdot (by omega) q hq hF2 hbf hkf hend (FP.c0 (FP.dnum D gf F)) (FP.c1 (FP.dnum D gf F) F) (FP.c1 (FP.dnum D gf F) F) (FP.wordOf neg (FP.c1 (FP.dnum D gf F) F)) hPE (fun hn => hS (hslow hn)) (fun _ => rfl) (FP.tens[F]!) (fun hq17 => hT F (by omega)) (fun hq17 => runDiv_of (FP.c1_div (hD2 hq17) (by omega) (by omega)).1) rfl (fun hq17 => signed_of neg (Nat.le_of_lt (FP.c1_lt (hD2 hq17) (by omega)))) (fun hq17 => hfin0 _ (hfast hq17) (by rw [ce]))
    · obtain ⟨hlet, hsg, hN1, hN, hbe, hke⟩ := hb
      have hN0 : N ≠ 0 := by omega
      have pe : powOf esg N ge = some (esg * (FP.dnum 0 ge N : Int)) := by unfold powOf; rw [if_neg hN0]
      have hfast : q < st + 17 → FP.dnum 0 ge N ≤ 300 → Fast neg W F N ge := fun hq17 h300 => ⟨by rw [hst]; exact h18, fun _ => by omega, fun _ => h300⟩
      have hslow : ¬ (q < st + 17 ∧ FP.dnum 0 ge N ≤ 300) → ¬ Fast neg W F N ge := fun hn hf => hn ⟨by have := hf.2.1 hF; omega, hf.2.2 hN0⟩
      have hesg : esg = 1 ∨ esg = -1 := by rcases hsg with ⟨_, e⟩ | ⟨_, _, e⟩ | ⟨_, _, e⟩ <;> omega
      have hm : q < st + 17 → FP.dnum 0 ge N ≤ 300 → floatBits .mul .f64 (FP.c1 (FP.dnum D gf F) F) (FP.powF (esg * (FP.dnum 0 ge N : Int))) = some (FP.c2 (FP.dnum D gf F) F (some (esg * (FP.dnum 0 ge N : Int)))) ∧ FP.c2 (FP.dnum D gf F) F (some (esg * (FP.dnum 0 ge N : Int))) ≤ FP.INF := fun hq17 h300 =>
        FP.c2_mul (hD2 hq17) (by omega) (by rcases hesg with e | e <;> rw [e] <;> omega) (by rcases hesg with e | e <;> rw [e] <;> omega)
      rcases hlet with hl | hl
      · rcases hsg with ⟨hx, he⟩ | ⟨hx, hs, he⟩ | ⟨hx, hs, he⟩
        · refine fft_dot_none_E v11 v12 v15 v16 v17 (st + W) D st (by omega) sz fits hD h18 u Q hQ F gf hdot (by omega) q hq hF2 hbf hkf hl (q + 1) rfl N ge hN1 (by omega) (fun k hk => ?_) hke (FP.c0 (FP.dnum D gf F)) (FP.c1 (FP.dnum D gf F) F) (FP.c2 (FP.dnum D gf F) F (some (esg * (FP.dnum 0 ge N : Int)))) (FP.wordOf neg (FP.c2 (FP.dnum D gf F) F (some (esg * (FP.dnum 0 ge N : Int))))) hPE (fun hn => hS (hslow hn)) (fun _ => rfl) (FP.tens[F]!) (fun hq17 => hT F (by omega)) (fun hq17 => runDiv_of (FP.c1_div (hD2 hq17) (by omega) (by omega)).1) (fun hq17 h300 => ?_) (fun hq17 h300 => signed_of neg (hm hq17 h300).2) (fun hq17 h300 => hfin0 _ (hfast hq17 h300) (by first | (rw [pe]; done) | (rw [pe]; rfl)))
          · have := hbe k hk; rw [hx] at this; exact this
          · have := runMul_of (hm hq17 h300).1
            rw [he] at this
            rw [he]
            first | (rw [Int.one_mul] at this; rw [Int.one_mul]; exact this) | (rw [Int.neg_one_mul] at this; rw [Int.neg_one_mul]; exact this)
        · refine fft_dot_plus_E v11 v12 v15 v16 v17 (st + W) D st (by omega) sz fits hD h18 u Q hQ F gf hdot (by omega) q hq hF2 hbf hkf hl (q + 1) rfl hs (q + 1 + 1) rfl N ge hN1 (by omega) (fun k hk => ?_) hke (FP.c0 (FP.dnum D gf F)) (FP.c1 (FP.dnum D gf F) F) (FP.c2 (FP.dnum D gf F) F (some (esg * (FP.dnum 0 ge N : Int)))) (FP.wordOf neg (FP.c2 (FP.dnum D gf F) F (some (esg * (FP.dnum 0 ge N : Int))))) hPE (fun hn => hS (hslow hn)) (fun _ => rfl) (FP.tens[F]!) (fun hq17 => hT F (by omega)) (fun hq17 => runDiv_of (FP.c1_div (hD2 hq17) (by omega) (by omega)).1) (fun hq17 h300 => ?_) (fun hq17 h300 => signed_of neg (hm hq17 h300).2) (fun hq17 h300 => hfin0 _ (hfast hq17 h300) (by first | (rw [pe]; done) | (rw [pe]; rfl)))
          · have := hbe k hk; rw [hx] at this; exact this
          · have := runMul_of (hm hq17 h300).1
            rw [he] at this
            rw [he]
            first | (rw [Int.one_mul] at this; rw [Int.one_mul]; exact this) | (rw [Int.neg_one_mul] at this; rw [Int.neg_one_mul]; exact this)
        · refine fft_dot_minus_E v11 v12 v15 v16 v17 (st + W) D st (by omega) sz fits hD h18 u Q hQ F gf hdot (by omega) q hq hF2 hbf hkf hl (q + 1) rfl hs (q + 1 + 1) rfl N ge hN1 (by omega) (fun k hk => ?_) hke (FP.c0 (FP.dnum D gf F)) (FP.c1 (FP.dnum D gf F) F) (FP.c2 (FP.dnum D gf F) F (some (esg * (FP.dnum 0 ge N : Int)))) (FP.wordOf neg (FP.c2 (FP.dnum D gf F) F (some (esg * (FP.dnum 0 ge N : Int))))) hPE (fun hn => hS (hslow hn)) (fun _ => rfl) (FP.tens[F]!) (fun hq17 => hT F (by omega)) (fun hq17 => runDiv_of (FP.c1_div (hD2 hq17) (by omega) (by omega)).1) (fun hq17 h300 => ?_) (fun hq17 h300 => signed_of neg (hm hq17 h300).2) (fun hq17 h300 => hfin0 _ (hfast hq17 h300) (by first | (rw [pe]; done) | (rw [pe]; rfl)))
          · have := hbe k hk; rw [hx] at this; exact this
          · have := runMul_of (hm hq17 h300).1
            rw [he] at this
            rw [he]
            first | (rw [Int.one_mul] at this; rw [Int.one_mul]; exact this) | (rw [Int.neg_one_mul] at this; rw [Int.neg_one_mul]; exact this)
      · rcases hsg with ⟨hx, he⟩ | ⟨hx, hs, he⟩ | ⟨hx, hs, he⟩
        · refine fft_dot_none_e v11 v12 v15 v16 v17 (st + W) D st (by omega) sz fits hD h18 u Q hQ F gf hdot (by omega) q hq hF2 hbf hkf hl (q + 1) rfl N ge hN1 (by omega) (fun k hk => ?_) hke (FP.c0 (FP.dnum D gf F)) (FP.c1 (FP.dnum D gf F) F) (FP.c2 (FP.dnum D gf F) F (some (esg * (FP.dnum 0 ge N : Int)))) (FP.wordOf neg (FP.c2 (FP.dnum D gf F) F (some (esg * (FP.dnum 0 ge N : Int))))) hPE (fun hn => hS (hslow hn)) (fun _ => rfl) (FP.tens[F]!) (fun hq17 => hT F (by omega)) (fun hq17 => runDiv_of (FP.c1_div (hD2 hq17) (by omega) (by omega)).1) (fun hq17 h300 => ?_) (fun hq17 h300 => signed_of neg (hm hq17 h300).2) (fun hq17 h300 => hfin0 _ (hfast hq17 h300) (by first | (rw [pe]; done) | (rw [pe]; rfl)))
          · have := hbe k hk; rw [hx] at this; exact this
          · have := runMul_of (hm hq17 h300).1
            rw [he] at this
            rw [he]
            first | (rw [Int.one_mul] at this; rw [Int.one_mul]; exact this) | (rw [Int.neg_one_mul] at this; rw [Int.neg_one_mul]; exact this)
        · refine fft_dot_plus_e v11 v12 v15 v16 v17 (st + W) D st (by omega) sz fits hD h18 u Q hQ F gf hdot (by omega) q hq hF2 hbf hkf hl (q + 1) rfl hs (q + 1 + 1) rfl N ge hN1 (by omega) (fun k hk => ?_) hke (FP.c0 (FP.dnum D gf F)) (FP.c1 (FP.dnum D gf F) F) (FP.c2 (FP.dnum D gf F) F (some (esg * (FP.dnum 0 ge N : Int)))) (FP.wordOf neg (FP.c2 (FP.dnum D gf F) F (some (esg * (FP.dnum 0 ge N : Int))))) hPE (fun hn => hS (hslow hn)) (fun _ => rfl) (FP.tens[F]!) (fun hq17 => hT F (by omega)) (fun hq17 => runDiv_of (FP.c1_div (hD2 hq17) (by omega) (by omega)).1) (fun hq17 h300 => ?_) (fun hq17 h300 => signed_of neg (hm hq17 h300).2) (fun hq17 h300 => hfin0 _ (hfast hq17 h300) (by first | (rw [pe]; done) | (rw [pe]; rfl)))
          · have := hbe k hk; rw [hx] at this; exact this
          · have := runMul_of (hm hq17 h300).1
            rw [he] at this
            rw [he]
            first | (rw [Int.one_mul] at this; rw [Int.one_mul]; exact this) | (rw [Int.neg_one_mul] at this; rw [Int.neg_one_mul]; exact this)
        · refine fft_dot_minus_e v11 v12 v15 v16 v17 (st + W) D st (by omega) sz fits hD h18 u Q hQ F gf hdot (by omega) q hq hF2 hbf hkf hl (q + 1) rfl hs (q + 1 + 1) rfl N ge hN1 (by omega) (fun k hk => ?_) hke (FP.c0 (FP.dnum D gf F)) (FP.c1 (FP.dnum D gf F) F) (FP.c2 (FP.dnum D gf F) F (some (esg * (FP.dnum 0 ge N : Int)))) (FP.wordOf neg (FP.c2 (FP.dnum D gf F) F (some (esg * (FP.dnum 0 ge N : Int))))) hPE (fun hn => hS (hslow hn)) (fun _ => rfl) (FP.tens[F]!) (fun hq17 => hT F (by omega)) (fun hq17 => runDiv_of (FP.c1_div (hD2 hq17) (by omega) (by omega)).1) (fun hq17 h300 => ?_) (fun hq17 h300 => signed_of neg (hm hq17 h300).2) (fun hq17 h300 => hfin0 _ (hfast hq17 h300) (by first | (rw [pe]; done) | (rw [pe]; rfl)))
          · have := hbe k hk; rw [hx] at this; exact this
          · have := runMul_of (hm hq17 h300).1
            rw [he] at this
            rw [he]
            first | (rw [Int.one_mul] at this; rw [Int.one_mul]; exact this) | (rw [Int.neg_one_mul] at this; rw [Int.neg_one_mul]; exact this)
end

end Go.Proofs.YtodbjojglibniaaGreatDoor
