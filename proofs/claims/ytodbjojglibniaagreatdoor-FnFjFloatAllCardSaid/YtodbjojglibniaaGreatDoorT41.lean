/- Walks of functions of FnFjFloatAll (C11); conditions stand ahead of each theorem. -/
import Derived.Test.YtodbjojglibniaaGreatDoorT27
import Derived.Test.YtodbjojglibniaaGreatDoorT28
import Derived.Test.YtodbjojglibniaaGreatDoorT40
import Derived.Test.YtodbjojglibniaaGreatDoorT03
set_option linter.unusedVariables false
set_option linter.unusedSimpArgs false
namespace Go.Proofs.YtodbjojglibniaaGreatDoor
open Go.RowKit Go.Proofs.YtodbjojglibniaaGreatDoorW.PrintWords Go.Proofs.YtodbjojglibniaaGreatDoorW.PrintLast

/-- All that the machine's tables hold. -/
structure GEnv (n : Nat) (w : World) : Prop where
  a : AEnv n w
  r0 : 6 < n
  rv : ∃ ev, w.cell? ⟨6, 0, none⟩ = some ev ∧ (ev = .nilIface ∨ ∃ te pe, ev = .iface te pe)
  p : PowEnv w
  p1 : 1 < n ∧ 2 < n ∧ 3 < n
  f0 : 4 < n
  f : FfTab w
theorem GEnv.below {n : Nat} {w w' : World} (h : GEnv n w) (hb : Below n w w') : GEnv n w' := by
  have hc : ∀ b o, b < n → w'.cell? ⟨b, o, none⟩ = w.cell? ⟨b, o, none⟩ := fun b o hbn => hb.cell (p := ⟨b, o, none⟩) hbn
  obtain ⟨h1, h2, ⟨ev, h3, h4⟩, ⟨h5, h6, h7⟩, ⟨h8, h9, h10⟩, h11, h12⟩ := h
  exact ⟨h1.below hb, h2, ⟨ev, by rw [hc _ _ h2, h3], h4⟩, ⟨fun i hi => by rw [hc _ _ h8]; exact h5 i hi, fun i hi => by rw [hc _ _ h9]; exact h6 i hi, fun i hi => by rw [hc _ _ h10]; exact h7 i hi⟩, ⟨h8, h9, h10⟩, h11, fun k hk => by rw [hc _ _ h11]; exact h12 k hk⟩
theorem GEnv.le {n : Nat} {w : World} (h : GEnv n w) : n ≤ w.heap.size := h.a.f.le

/-- The bytes from the number's first digit on. -/
def fbyte (s : ByteArray) (st k : Nat) : Nat := (bt s ((st + k : Nat) : Int)).toNat
/-- The number as the machine's reader has it: its power cut at 10000 and more. -/
def CutX (s : ByteArray) (neg : Bool) (W F : Nat) (x esg : Int) (N : Nat) : Rat := (FP.dnum 0 (ndig s (nst neg) W) (W + F) : Rat) * FP.p10 ((FP.ecl (nexp s x) N : Int) * esg - F)
section
variable {s : ByteArray} {neg : Bool} {W F : Nat} {x esg : Int} {N : Nat}
theorem nst_eq (neg : Bool) : (if neg = true then 1 else 0 : Nat) = nst neg := rfl
theorem fbyte_int {k : Nat} (st : Nat) : ((fbyte s st k : Nat) : Int) = bt s ((st + k : Nat) : Int) := by
  unfold fbyte
  have := bt_range s ((st + k : Nat) : Int)
  omega
theorem num_jnum (h : Num0 s neg W F x esg N) (hs : s.size ≤ 800) : JNum s neg W (fbyte s (nst neg)) F (fun k => fbyte s (nst neg) (W + 1 + k)) x esg N (nexp s x) := by
  have hst := nst_eq neg
  obtain ⟨h1, h2, h3, h4, h5, h6, h7⟩ := h
  rw [hst] at h3 h4 h5 h6 h7
  refine ⟨hs, fun e => ?_, h2, h3, fun k hk => (fbyte_int _).symm, fun k hk => ?_, fun hF => ⟨(h6 hF).1, (h6 hF).2.1, fun k hk => ?_, fun k hk => ?_⟩, ?_⟩
  · rcases h1 with ⟨_, e1⟩ | ⟨e1, _⟩
    · exact e1
    · rw [e] at e1; cases e1
  · have := h4 k hk; unfold fbyte; omega
  · show _ = ((fbyte s (nst neg) (W + 1 + k) : Nat) : Int)
    rw [fbyte_int]
    congr 2
    omega
  · have := (h6 hF).2.2 k hk
    show 48 ≤ fbyte s (nst neg) (W + 1 + k) ∧ fbyte s (nst neg) (W + 1 + k) ≤ 57
    unfold fbyte
    rw [show nst neg + (W + 1 + k) = nst neg + W + 1 + k by omega]
    omega
  · unfold nq
    rcases h7 with h7 | ⟨a, q, b, c, d, e, f⟩
    · exact .inl h7
    · rw [← b]
      refine .inr ⟨c, d, a, e, fun k hk => ?_, fun k hk => ?_⟩
      · have := f k hk
        unfold nexp
        omega
      · have := f k hk
        unfold nexp
        omega
theorem num_whole (h : Num0 s neg W F x esg N) : FP.dnum (FP.dnum 0 (fbyte s (nst neg)) W) (fun k => fbyte s (nst neg) (W + 1 + k)) F = FP.dnum 0 (ndig s (nst neg) W) (W + F) := by
  rw [FP.dnum_split]
  have e1 : FP.dnum 0 (ndig s (nst neg) W) W = FP.dnum 0 (fbyte s (nst neg)) W := FP.dnum_same W (fun k hk => by unfold ndig fbyte; rw [if_pos hk])
  rw [e1]
  exact FP.dnum_same F (fun k hk => by
    show fbyte s (nst neg) (W + 1 + k) = ndig s (nst neg) W (W + k)
    unfold ndig fbyte
    rw [if_neg (by omega), show nst neg + (W + 1 + k) = nst neg + 1 + (W + k) by omega])
/-- How long the front is. -/
def frontLen (W F : Nat) : Nat := W + (if F = 0 then 0 else 1 + F)
theorem num_front (h : Num0 s neg W F x esg N) (hs : s.size ≤ 800) : Front s neg (nst neg : Int) (frontLen W F) (fbyte s (nst neg)) ∧ (∀ e : Int, FP.dval (FP.sds (fbyte s (nst neg)) (frontLen W F)) (Dp0 (FP.rst (fbyte s (nst neg)) (frontLen W F)) + e) = (FP.dnum 0 (ndig s (nst neg) W) (W + F) : Rat) * FP.p10 (e - F)) ∧
    (48 ≤ fbyte s (nst neg) 0 ∧ fbyte s (nst neg) 0 ≤ 57) ∧ ((N = 0 ∧ (nst neg : Int) + (frontLen W F : Nat) = s.size) ∨ Back s ((nst neg : Int) + (frontLen W F : Nat)) x esg N (nexp s x)) := by
  have hj := num_jnum h hs
  have hw := num_whole h
  have hst := nst_eq neg
  have hfr : ∀ k < F, 48 ≤ fbyte s (nst neg) (W + 1 + k) ∧ fbyte s (nst neg) (W + 1 + k) ≤ 57 := fun k hk => (hj.frac (by omega)).2.2.2 k hk
  have hd46 : F ≠ 0 → fbyte s (nst neg) W = 46 := fun hF => by
    have := (hj.frac hF).1
    have e := fbyte_int (s := s) (k := W) (nst neg)
    omega
  obtain ⟨M, hM⟩ : ∃ M, M = frontLen W F := ⟨_, rfl⟩
  have hM2 : M = W + (if F = 0 then 0 else 1 + F) := hM
  rw [← hM]
  have V := fun e => FP.val_front (g := fbyte s (nst neg)) (W := W) (F := F) (M := M) hj.one hj.kinds hd46 hfr hM2 e
  have hback : (N = 0 ∧ nst neg + M = s.size) ∨ Back s ((nst neg + M : Nat) : Int) x esg N (nexp s x) := by
    have := hj.back
    unfold nq at this
    rw [hM2, ← Nat.add_assoc]
    exact this
  have hMs : nst neg + M ≤ s.size := by
    rcases hback with ⟨_, e⟩ | hb
    · omega
    · have h1 := hb.fin
      have h2 := hb.one
      rcases hb.sgn with ⟨e, _⟩ | ⟨e, _⟩ | ⟨e, _⟩ <;> omega
  have h0 := hj.kinds 0 (by have := hj.one; omega)
  have hb0 : bt s ((nst neg : Nat) : Int) = (fbyte s (nst neg) 0 : Int) := by rw [fbyte_int, Nat.add_zero]
  have ec : ((nst neg + M : Nat) : Int) = (nst neg : Int) + (M : Int) := by omega
  have hone := hj.one
  refine ⟨⟨by omega, ?_, ?_, ?_, by omega, by omega, ?_, ?_, (V 0).2.2, (V 0).2.1, ?_, ?_⟩, ?_, h0, ?_⟩
  · rcases h.sgn with ⟨e1, e2⟩ | ⟨e1, e2⟩
    · rw [e1, e2]; rfl
    · rw [e1]; symm; rw [beq_eq_false_iff_ne]; exact e2
  · unfold nst; cases neg <;> rfl
  · rw [beq_eq_false_iff_ne]
    rcases h.sgn with ⟨e1, e2⟩ | ⟨e1, e2⟩
    · rw [e2]; decide
    · rw [e1] at hb0 h0
      have e3 : bt s ((nst false : Nat) : Int) = bt s 0 := rfl
      rw [e3] at hb0
      intro e4
      rw [e4] at hb0
      omega
  · intro j hj'
    have := fbyte_int (s := s) (k := j) (nst neg)
    rw [this]
    congr 1
  · intro j hj'
    by_cases hjW : j < W
    · exact .inr (hj.kinds j hjW)
    · by_cases he : j = W
      · rw [he]; exact .inl (hd46 (by intro e; rw [e, if_pos rfl] at hM2; omega))
      · have hF : F ≠ 0 := by intro e; rw [e, if_pos rfl] at hM2; omega
        rw [if_neg hF] at hM2
        have := hfr (j - W - 1) (by omega)
        rw [show W + 1 + (j - W - 1) = j by omega] at this
        exact .inr this
  · rcases hback with ⟨_, e⟩ | hb
    · exact .inl (by omega)
    · have h1 := hb.fin
      have h2 := hb.one
      have hl := hb.letter
      rw [ec] at hl
      refine .inr ⟨?_, hl⟩
      rcases hb.sgn with ⟨e, _⟩ | ⟨e, _⟩ | ⟨e, _⟩ <;> omega
  · intro hz hlt
    have hW1 : W = 1 := by
      have := h.zero
      rw [hst] at this
      exact this hz
    by_cases hF : F = 0
    · rw [hF, if_pos rfl] at hM2
      rcases hback with ⟨_, e⟩ | hb
      · omega
      · have hl := hb.letter
        rw [show ((nst neg + M : Nat) : Int) = (nst neg : Int) + 1 by omega] at hl
        omega
    · have := (hj.frac hF).1
      rw [show ((nst neg + W : Nat) : Int) = (nst neg : Int) + 1 by omega] at this
      exact .inl this
  · intro e
    have := (V e).1
    rw [hw] at this
    unfold Dp0
    exact this
  · rw [ec] at hback
    rcases hback with ⟨a, b⟩ | hb
    · exact .inl ⟨a, by omega⟩
    · exact .inr hb
/-- ParseFloat on a number. -/
theorem num_pf (h : Num0 s neg W F x esg N) (hs : s.size ≤ 800) {n : Nat} {w : World} (hE : GEnv n w) : Calls Tryz.prog 42 #[.string s, .int .i64 64] w (PfPost w neg (CutX s neg W F x esg N)) := by
  obtain ⟨hf, hv, h0, hb⟩ := num_front h hs
  obtain ⟨ev, r1, r2⟩ := hE.rv
  have r0 : 6 < w.heap.size := Nat.lt_of_lt_of_le hE.r0 hE.le
  rcases hb with ⟨hN, hend⟩ | hb
  · have e : CutX s neg W F x esg N = FP.dval (FP.sds (fbyte s (nst neg)) (frontLen W F)) (Dp0 (FP.rst (fbyte s (nst neg)) (frontLen W F)) + 0) := by
      rw [hv 0]
      unfold CutX
      rw [hN]
      congr 2
      show ((0 : Nat) : Int) * esg - F = _
      omega
    rw [e]
    cases neg with
    | true => exact pf_calls (numIn_plain_true hf h0 hend) hE.a r0 r1 r2
    | false => exact pf_calls (numIn_plain_false hf h0 hend) hE.a r0 r1 r2
  · have e : CutX s neg W F x esg N = FP.dval (FP.sds (fbyte s (nst neg)) (frontLen W F)) (Dp0 (FP.rst (fbyte s (nst neg)) (frontLen W F)) + (FP.ecl (nexp s x) N : Int) * esg) := by
      rw [hv _]
      rfl
    rw [e]
    cases neg with
    | true => exact pf_calls (numIn_exp_true hf h0 hb) hE.a r0 r1 r2
    | false => exact pf_calls (numIn_exp_false hf h0 hb) hE.a r0 r1 r2
/-- What fastfloat gives for a number. -/
def FfAns (w : World) (s : ByteArray) (neg : Bool) (W F : Nat) (x esg : Int) (N : Nat) : Ending → World → Prop := FfPost w neg (CutX s neg W F x esg N) (FastC s neg W F x N) (FastW s neg W F x esg N)
theorem ff_calls (h : Num0 s neg W F x esg N) (hs : s.size ≤ 800) {n : Nat} {w : World} (hE : GEnv n w) : Calls Tryz.prog 27 #[.string s] w (FfAns w s neg W F x esg N) := by
  have hj := num_jnum h hs
  have hw := num_whole h
  have hSl : ¬ FastC s neg W F x N → Slow s neg (CutX s neg W F x esg N) w (FfAns w s neg W F x esg N) := fun hn => ⟨num_pf h hs hE, fun r w' h1 h2 => ⟨h2, .inr ⟨hn, r, h1, rfl⟩⟩⟩
  have hc : FastW s neg W F x esg N = FP.c2 (FP.dnum (FP.dnum 0 (fbyte s (nst neg)) W) (fun k => fbyte s (nst neg) (W + 1 + k)) F) F (powOf esg N (nexp s x)) := by rw [hw]; rfl
  have hend : nst neg + W = s.size ∨ (nst neg + W < s.size ∧ ∃ c : Nat, bt s ((nst neg + W : Nat) : Int) = (c : Int) ∧ (c = 46 ∨ c = 69 ∨ c = 101)) := by
    by_cases hF : F = 0
    · have hb := hj.back
      unfold nq at hb
      rw [if_pos hF, Nat.add_zero] at hb
      rcases hb with ⟨_, e⟩ | hb
      · exact .inl e
      · refine .inr ⟨?_, ?_⟩
        · have h1 := hb.fin
          have h2 := hb.one
          rcases hb.sgn with ⟨e, _⟩ | ⟨e, _⟩ | ⟨e, _⟩ <;> omega
        · rcases hb.letter with e | e
          · exact ⟨69, e, .inr (.inl rfl)⟩
          · exact ⟨101, e, .inr (.inr rfl)⟩
    · obtain ⟨a, b, _⟩ := hj.frac hF
      exact .inr ⟨by omega, 46, a, .inl rfl⟩
  have hS18 : ¬ (nst neg + W ≤ 18) → ¬ FastC s neg W F x N := fun hn hf => hn hf.1
  cases neg with
  | true =>
    refine ff_enter_true W (fbyte s 1) hs hj.one hj.fits (hj.sgn rfl) hj.bytes hj.kinds hend (fun hn => hSl (hS18 hn)) (fun h18 => ?_)
    intro v11 v12 v15 v16 v17 u Q hQ
    have := ff_rest (X := CutX s true W F x esg N) hj hE.p hE.f h18 (fun hn => by rw [← hc]; exact hSl hn) v11 v12 v15 v16 v17 u Q (by rw [← hc]; exact hQ)
    exact this
  | false =>
    refine ff_enter_false W (fbyte s 0) hs hj.one hj.fits hj.bytes hj.kinds hend (fun hn => hSl (hS18 hn)) (fun h18 => ?_)
    intro v11 v12 v15 v16 v17 u Q hQ
    have := ff_rest (X := CutX s false W F x esg N) hj hE.p hE.f h18 (fun hn => by rw [← hc]; exact hSl hn) v11 v12 v15 v16 v17 u Q (by rw [← hc]; exact hQ)
    exact this
end

end Go.Proofs.YtodbjojglibniaaGreatDoor
