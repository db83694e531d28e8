/- Walks of functions of FnFjFloatAll (K6, K7, K8); conditions stand ahead of each theorem. -/
import Derived.Test.YtodbjojglibniaaGreatDoorT44
set_option linter.unusedVariables false
set_option linter.unusedSimpArgs false
namespace Go.Proofs.YtodbjojglibniaaGreatDoor
open Go.RowKit Go.Proofs.YtodbjojglibniaaGreatDoorW.PrintWords Go.Proofs.YtodbjojglibniaaGreatDoorW.PrintLast

def FjParsePost (w : World) (g : Nat) (s : ByteArray) (e : Ending) (w' : World) : Prop := ∃ gv, e = .returned (.tuple #[.pointer (some ⟨gv, 0, none⟩), .nilIface]) ∧ ValAt w' gv s ∧ Below g w w'
set_option maxRecDepth 100000 in
set_option maxHeartbeats 2000000 in
theorem fjParse_calls {w : World} {g : Nat} {Ty : TypeId} {s a : ByteArray} {neg : Bool} {W F : Nat} {x esg : Int} {N : Nat} (hg : w.heap[g]? = some (.cells #[.slice none 0 0, .slice none 0 0] Ty (0, 0))) (h : Num0 s neg W F x esg N) (hs : s.size ≤ 800) (ha : Ahead a) :
    Calls Tryz.prog 13 #[.pointer (some ⟨g, 0, none⟩), .string (a ++ s ++ a)] w (FjParsePost w g s) := by
  obtain ⟨R, hR⟩ : ∃ R : Ending → World → Prop, R = FjParsePost w g s := ⟨_, rfl⟩
  rw [← hR]
  have HR := Aside0.mk hR
  obtain ⟨n1, n2, n3, n4⟩ := num_head h
  have CS := Aside0.mk (skip_front ha hs n1 (by omega) w)
  have CB := Aside0.mk (fun w' => skip_back ha w')
  have HH := Aside0.mk (And.intro h (And.intro hs ha))
  have HG := Aside0.mk hg
  have HLT := Aside0.mk (blk_lt hg)
  obtain ⟨i0, hi, hz0, hz1, hz2⟩ := info_parts info_u8
  have hz : (s ++ a).size = s.size + a.size := ByteArray.size_append
  have haz : a.size ≤ 2 := by rcases ha with rfl | rfl | rfl | rfl <;> decide
  obtain ⟨T, hT⟩ : ∃ T, T = s ++ a := ⟨_, rfl⟩
  obtain ⟨T0, hT0⟩ : ∃ T0, T0 = a ++ s ++ a := ⟨_, rfl⟩
  have HT := Aside0.mk hT
  have hTz : 1 ≤ T.size ∧ T.size ≤ 802 := by rw [hT, hz]; omega
  rw [← hT, ← hT0] at CS
  rw [← hT0]
  have c0 : w.cell? ⟨g, 0, none⟩ = some (.slice none 0 0) := (blk_cell hg 0).trans rfl
  have f0 := blk_frozen hg 0
  clear hR hg h hs ha hT0 hT hz haz n1 n2 n3 n4
  obtain ⟨z1, z2⟩ := hTz
  go_enter Tryz.func13, Tryz.ntmps13
  go_wp2_with (first
    | (go_at_call 21; (with_reducible refine CS.out.mono ?_); rintro e w1 ⟨rfl, rfl⟩)
    | (at_builtin; refine Go.Lib.wpList_append_own_string _ rfl _ _ 35 9 rfl w1.heap.size 5 i0 Tryz.underlying35 Tryz.underlying9 hi hz0 hz1 hz2 _ 0 [] rfl (World.ownsRow_nil _ _ _ _) T rfl (by unfold maxLen; omega) (by omega) (Nat.le_refl _) ?_; intro v1 w2 hown2 hgrow2 hnil2; clear hnil2; replace hgrow2 : World.grownBy _ w2 none := hgrow2; rw [Nat.zero_add, List.nil_append, strCells_nums] at hown2; obtain ⟨gb, cp, hv2, hgb, hcp⟩ := hown2.form (by omega); subst hv2; have hG2 : w2.heap[g]? = some (.cells #[.slice none 0 0, .slice none 0 0] Ty (0, 0)) := (hgrow2.block g HLT.out (by simp)).trans HG.out; have c2 : w2.cell? ⟨g, 0, none⟩ = some (.slice none 0 0) := (blk_cell hG2 0).trans rfl; have f2 := blk_frozen hG2 0; have hG3 := blk_set hG2 0 (.slice (some ⟨gb, 0, none⟩) T.size cp); have HK := Aside0.mk (And.intro hgrow2 (And.intro hown2 (And.intro hgb (And.intro hcp hG3)))); have CRE := Aside0.mk (reset_calls hG3); clear hgrow2 hown2 hG2 hG3 hcp hgb)
    | (go_at_call 22; (with_reducible refine CRE.out.mono ?_); rintro e w3 ⟨rfl, rfl⟩)
    )
  obtain ⟨k1, k2, k3, k4, k5⟩ := HK.out
  have hne : gb ≠ g := by have := HLT.out; omega
  have hr3 : ReadsInt ((w2.setCell ⟨g, 0, none⟩ (.slice (some ⟨gb, 0, none⟩) T.size cp)).setCell ⟨g, 1, none⟩ (.slice none 0 0)) .u8 (some ⟨gb, 0, none⟩) T.size (strNums T) :=
    ReadsInt.keep (own_reads' k2) (((KeepBut.refl w2 g none).set_ 0 _).set_ 1 _) (fun ad e _ => by cases e; exact hne)
  have hG4 : ((w2.setCell ⟨g, 0, none⟩ (.slice (some ⟨gb, 0, none⟩) T.size cp)).setCell ⟨g, 1, none⟩ (.slice none 0 0)).heap[g]? = some (.cells #[.slice (some ⟨gb, 0, none⟩) T.size cp, .slice none 0 0] Ty (0, 0)) := (blk_set k5 1 _).trans rfl
  have hbl : Below g w1 ((w2.setCell ⟨g, 0, none⟩ (.slice (some ⟨gb, 0, none⟩) T.size cp)).setCell ⟨g, 1, none⟩ (.slice none 0 0)) := by
    have h : Below g w1 w2 := ⟨k1.os, k1.tape, k1.output, k1.size, fun k hk => k1.block k (Nat.lt_trans hk HLT.out) (by simp)⟩
    exact (h.setCell (p := ⟨g, 0, none⟩) (Nat.le_refl _) _).setCell (p := ⟨g, 1, none⟩) (Nat.le_refl _) _
  obtain ⟨w3, hw3⟩ : ∃ w3, w3 = ((w2.setCell ⟨g, 0, none⟩ (.slice (some ⟨gb, 0, none⟩) T.size cp)).setCell ⟨g, 1, none⟩ (.slice none 0 0)) := ⟨_, rfl⟩
  rw [← hw3] at hr3 hG4 hbl ⊢
  have c3 : w3.cell? ⟨g, 0, none⟩ = some (.slice (some ⟨gb, 0, none⟩) T.size cp) := (blk_cell hG4 0).trans rfl
  have HX := Aside0.mk (And.intro hr3 (And.intro hG4 hbl))
  have CPV : Aside0 (∀ w' : World, w'.heap[g]? = some (.cells #[.slice (some ⟨gb, 0, none⟩) T.size cp, .slice none 0 0] Ty (0, 0)) → Calls Tryz.prog 23 #[.pointer (some ⟨g, 1, none⟩), .string T, .int .i64 0] w' (PvPost w' g (.slice (some ⟨gb, 0, none⟩) T.size cp) s a)) := ⟨fun w' hw' => by rw [HT.out] at hw' ⊢; exact parseValue_calls hw' HH.out.1 HH.out.2.1 HH.out.2.2⟩
  clear hr3 hG4 hbl hw3 k1 k2 k3 k4 k5 hne c2 f2 CRE HK c0 f0 CS HG
  go_region_held3 (fun w' => w'.cell? ⟨g, 0, none⟩ = some (.slice (some ⟨gb, 0, none⟩) T.size cp)) (first | go_keep | assumption) (first | (go_at_call 24; refine Calls.mono (b2s_calls (s := T) ?_) ?_; exact HX.out.1; rintro e w4 ⟨rfl, rfl⟩) | (go_at_call 23; refine Calls.mono (CPV.out _ ?_) ?_; exact HX.out.2.1; rintro e w5 ⟨gv, rfl, hV, hbel5, c5⟩))
  clear c3 c5
  go_wp2_with (go_at_call 21; (with_reducible refine (CB.out _).mono ?_); rintro e w6 ⟨rfl, rfl⟩)
  rw [HR.out]
  exact ⟨gv, rfl, hV, HX.out.2.2.trans ⟨hbel5.os, hbel5.tape, hbel5.output, hbel5.size, hbel5.block⟩⟩

end Go.Proofs.YtodbjojglibniaaGreatDoor

set_option linter.unusedVariables false
set_option linter.unusedSimpArgs false
namespace Go.Proofs.YtodbjojglibniaaGreatDoor
open Go.RowKit Go.Proofs.YtodbjojglibniaaGreatDoorW.PrintWords Go.Proofs.YtodbjojglibniaaGreatDoorW.PrintLast

def FjPost (w : World) (Q : Nat → Prop) (e : Ending) (w' : World) : Prop := ∃ f, e = .returned (.tuple #[.float .f64 f, .bool true]) ∧ Q f ∧ Below w.heap.size w w'
section
variable {s a : ByteArray} {neg : Bool} {W F : Nat} {x esg : Int} {N : Nat} {n : Nat} {w : World}
set_option maxRecDepth 100000 in
set_option maxHeartbeats 2000000 in
theorem fjFloat_calls (h : Num0 s neg W F x esg N) (hs : s.size ≤ 800) (ha : Ahead a) (hE : GEnv n w) :
    Calls Tryz.prog 5 #[.string (a ++ s ++ a)] w (FjPost w (FfIs s neg W F x esg N)) := by
  obtain ⟨R, hR⟩ : ∃ R : Ending → World → Prop, R = FjPost w (FfIs s neg W F x esg N) := ⟨_, rfl⟩
  rw [← hR]
  have HR := Aside0.mk hR
  have hn : (w.alloc (.cells #[.slice none 0 0, .slice none 0 0] 40)).heap[w.heap.size]? = some (.cells #[.slice none 0 0, .slice none 0 0] 40 (0, 0)) := heap_alloc_new w _
  have CP := Aside0.mk (fjParse_calls hn h hs ha)
  have b0 : Below w.heap.size w (w.alloc (.cells #[.slice none 0 0, .slice none 0 0] 40)) := (Below.refl _ _).alloc (Nat.le_refl _) _
  have HB := Aside0.mk b0
  have HE := Aside0.mk (And.intro h (And.intro hs hE))
  obtain ⟨T0, hT0⟩ : ∃ T0, T0 = a ++ s ++ a := ⟨_, rfl⟩
  rw [← hT0] at CP ⊢
  clear hR hn b0 h hs hE ha hT0
  go_enter Tryz.func5, Tryz.ntmps5
  go_wp2_with (first
    | (go_at_call 13; (with_reducible refine CP.out.mono ?_); rintro e w1 ⟨gv, rfl, hV, hbel⟩; have hbl := Aside0.mk (HB.out.trans hbel); have CF := Aside0.mk (float64_calls HE.out.1 HE.out.2.1 (HE.out.2.2.below (hbl.out.mono HE.out.2.2.le)) hV); clear hV hbel)
    | (go_at_call 14; (with_reducible refine CF.out.mono ?_); rintro e w2 ⟨f, rfl, hQ, hbel2⟩))
  have hbl2 := hbl.out.trans (hbel2.mono hbl.out.size)
  have HQ := Aside0.mk (And.intro hQ hbl2)
  clear hQ hbl2 hbel2 hbl CF CP
  go_quiet (fail)
  go_wp2_with fail
  rw [HR.out]
  exact ⟨f, rfl, HQ.out.1, Go.Proofs.YtodbjojglibniaaGreatDoor.Below.ofDrew HQ.out.2 _⟩
set_option maxRecDepth 100000 in
set_option maxHeartbeats 2000000 in
theorem fjNumber_calls (h : Num0 s neg W F x esg N) (hs : s.size ≤ 800) (hE : GEnv n w) :
    Calls Tryz.prog 6 #[.string s] w (FjPost w (FfIs s neg W F x esg N)) := by
  obtain ⟨R, hR⟩ : ∃ R : Ending → World → Prop, R = FjPost w (FfIs s neg W F x esg N) := ⟨_, rfl⟩
  rw [← hR]
  have HR := Aside0.mk hR
  have hn : (w.alloc (.cells #[.slice none 0 0, .slice none 0 0] 48)).heap[w.heap.size]? = some (.cells #[.slice none 0 0, .slice none 0 0] 48 (0, 0)) := heap_alloc_new w _
  have CP := Aside0.mk (newNumber_calls (s := s) hn)
  have b0 : Below w.heap.size w (w.alloc (.cells #[.slice none 0 0, .slice none 0 0] 48)) := (Below.refl _ _).alloc (Nat.le_refl _) _
  have HB := Aside0.mk b0
  have HE := Aside0.mk (And.intro h (And.intro hs hE))
  clear hR hn b0 h hs hE
  go_enter Tryz.func6, Tryz.ntmps6
  go_wp2_with (first
    | (go_at_call 15; (with_reducible refine CP.out.mono ?_); rintro e w1 ⟨gv, rfl, hV, hbel⟩; have hbl := Aside0.mk (HB.out.trans hbel); have CF := Aside0.mk (float64_calls HE.out.1 HE.out.2.1 (HE.out.2.2.below (hbl.out.mono HE.out.2.2.le)) hV); clear hV hbel)
    | (go_at_call 14; (with_reducible refine CF.out.mono ?_); rintro e w2 ⟨f, rfl, hQ, hbel2⟩))
  have hbl2 := hbl.out.trans (hbel2.mono hbl.out.size)
  have HQ := Aside0.mk (And.intro hQ hbl2)
  clear hQ hbl2 hbel2 hbl CF CP
  go_quiet (fail)
  go_wp2_with fail
  rw [HR.out]
  exact ⟨f, rfl, HQ.out.1, Go.Proofs.YtodbjojglibniaaGreatDoor.Below.ofDrew HQ.out.2 _⟩
end

end Go.Proofs.YtodbjojglibniaaGreatDoor

set_option linter.unusedVariables false
set_option linter.unusedSimpArgs false
namespace Go.Proofs.YtodbjojglibniaaGreatDoor
open Go.RowKit Go.Proofs.YtodbjojglibniaaGreatDoorW.PrintWords Go.Proofs.YtodbjojglibniaaGreatDoorW.PrintLast

theorem num_digs {s : ByteArray} {neg : Bool} {W F : Nat} {x esg : Int} {N : Nat} (h : Num0 s neg W F x esg N) (hs : s.size ≤ 800) : ∀ k < W + F, ndig s (nst neg) W k ≤ 57 := by
  intro k hk
  have hj := num_jnum h hs
  unfold ndig
  by_cases c : k < W
  · rw [if_pos c]
    exact (hj.kinds k c).2
  · rw [if_neg c]
    have := ((hj.frac (by omega)).2.2.2 (k - W) (by omega)).2
    have e : fbyte s (nst neg) (W + 1 + (k - W)) = (bt s ((nst neg + 1 + k : Nat) : Int)).toNat := by
      unfold fbyte
      rw [show nst neg + (W + 1 + (k - W)) = nst neg + 1 + k by omega]
    rw [← e]
    exact this
theorem num_len {s : ByteArray} {neg : Bool} {W F : Nat} {x esg : Int} {N : Nat} (h : Num0 s neg W F x esg N) (hs : s.size ≤ 800) : W + F ≤ 800 := by
  have hj := num_jnum h hs
  have h1 := hj.fits
  by_cases hF : F = 0
  · omega
  · have := (hj.frac hF).2.1
    omega
/-- Both floats are one. -/
theorem same_float {s : ByteArray} {neg : Bool} {W F : Nat} {x esg : Int} {N : Nat} (h : Num0 s neg W F x esg N) (hs : s.size ≤ 800) {f g : Nat}
    (hf : (FastC s neg W F x N ∧ f = FP.wordOf neg (FastW s neg W F x esg N)) ∨ (¬ FastC s neg W F x N ∧ ∃ r, FP.Near (NumX s neg W F x esg N) r ∧ f = FP.wordOf neg r)) (hg : FfIs s neg W F x esg N g) : f = g := by
  rcases hf with ⟨a, b⟩ | ⟨a, r, b, c⟩
  · rcases hg with ⟨a', b'⟩ | ⟨a', _⟩
    · rw [b, b']
    · exact absurd a a'
  · rcases hg with ⟨a', b'⟩ | ⟨a', r', b', c'⟩
    · exact absurd a' a
    · have hj := num_jnum h hs
      have hD : FP.dnum 0 (ndig s (nst neg) W) (W + F) < 10 ^ (0 + (W + F)) := FP.dnum_lt (by decide) (num_digs h hs) _ (Nat.le_refl _)
      have hl : W + F ≤ 800 := num_len h hs
      have e : r = r' := by
        unfold NumX at b
        unfold CutX at b'
        by_cases hN : N = 0
        · subst hN
          have e1 : esg * (FP.dnum 0 (nexp s x) 0 : Int) - F = (FP.ecl (nexp s x) 0 : Int) * esg - F := by
            show esg * ((0 : Nat) : Int) - F = ((0 : Nat) : Int) * esg - F
            simp
          rw [e1] at b
          exact b.unique b'
        · have he : esg = 1 ∨ esg = -1 := by
            rcases hj.back with ⟨e, _⟩ | hb
            · exact absurd e hN
            · rcases hb.sgn with ⟨_, e⟩ | ⟨_, _, e⟩ | ⟨_, _, e⟩
              · exact .inl e
              · exact .inl e
              · exact .inr e
          exact FP.near_cut hD (by omega) (by omega) he b b'
      rw [c, c', e]
def TruePost (w : World) (e : Ending) (w' : World) : Prop := e = .returned (.bool true) ∧ Below w.heap.size w w'
set_option maxRecDepth 100000 in
set_option maxHeartbeats 2000000 in
theorem law_calls {n : Nat} {w : World} (s : ByteArray) (b : Int) (hb0 : 0 ≤ b) (hb1 : b < 256) (hE : GEnv n w) : Calls Tryz.prog 3 #[.string s, .int .u8 b] w (TruePost w) := by
  obtain ⟨R, hR⟩ : ∃ R : Ending → World → Prop, R = TruePost w := ⟨_, rfl⟩
  rw [← hR]
  have HR := Aside0.mk hR
  have HE := Aside0.mk hE
  have bits : ∀ (x : Nat) (w : World), (callFunc 7 #[.float .f64 x]).run Tryz.prog w = .ok (.value (.int .u64 x)) w := by intro x w; kernel_rfl
  by_cases hz : (s.size : Int) ≤ 2147483647
  · have t0 : decide ((2147483647 : Int) < (s.size : Int)) = false := decide_eq_false (by omega)
    have t0n : decide (2147483647 < s.size) = false := decide_eq_false (by omega)
    have CF := Aside0.mk (fast_calls s (by omega) w hE.p)
    clear hR hE
    go_enter Tryz.func3, Tryz.ntmps3
    go_wp2_with fail
    refine CF.out.mono ?_
    rintro e w1 ⟨hbel, hh⟩
    have hbl := Aside0.mk hbel
    rcases hh with ⟨f, rfl⟩ | ⟨hs, neg, W, F, x, esg, N, hN, hf⟩
    · clear hbel
      go_wp2_with fail
      rw [HR.out]
      exact ⟨rfl, hbl.out⟩
    · obtain ⟨f, rfl, hff⟩ : ∃ f, e = .returned (.tuple #[.float .f64 f, .bool true]) ∧ ((FastC s neg W F x N ∧ f = FP.wordOf neg (FastW s neg W F x esg N)) ∨ (¬ FastC s neg W F x N ∧ ∃ r, FP.Near (NumX s neg W F x esg N) r ∧ f = FP.wordOf neg r)) := by
        rcases hf with ⟨a, rfl⟩ | ⟨a, r, b, rfl⟩
        · exact ⟨_, rfl, .inl ⟨a, rfl⟩⟩
        · exact ⟨_, rfl, .inr ⟨a, r, b, rfl⟩⟩
      have HF := Aside0.mk (And.intro hff (And.intro hN hs))
      have hE1 := Aside0.mk (HE.out.below (hbel.mono HE.out.le))
      clear hff hf hbel hN hs CF
      have hb4 : b % 4 = 0 ∨ b % 4 = 1 ∨ b % 4 = 2 ∨ b % 4 = 3 := by omega
      rcases hb4 with hb4 | hb4 | hb4 | hb4
      · have CA : Aside0 (Calls Tryz.prog 5 #[.string (⟨#[]⟩ ++ s ++ ⟨#[]⟩)] w1 (FjPost w1 (FfIs s neg W F x esg N))) := ⟨by
          have := fjFloat_calls (a := ⟨#[]⟩) HF.out.2.1 HF.out.2.2 (.inl rfl) hE1.out
          exact this⟩
        have hix : Sem.run Tryz.prog (Instr.index 25 (.agg #[.string ⟨#[]⟩, .string ⟨#[32]⟩, .string ⟨#[10, 9]⟩, .string ⟨#[13]⟩]) (.int .u8 (b % 4))) w1 = .ok (.string ⟨#[]⟩) w1 := by rw [hb4]; kernel_rfl
        clear hb4
        go_wp2_with (first
          | (go_at_call 5; (with_reducible refine CA.out.mono ?_); rintro e w2 ⟨f2, rfl, hQ2, hbel2⟩; have hbl2 := Aside0.mk (hbl.out.trans (hbel2.mono hbl.out.size)); obtain rfl := same_float HF.out.2.1 HF.out.2.2 HF.out.1 hQ2; have CN := Aside0.mk (fjNumber_calls HF.out.2.1 HF.out.2.2 (HE.out.below (hbl2.out.mono HE.out.le))); clear hQ2 hbel2)
          | (go_at_call 6; (with_reducible refine CN.out.mono ?_); rintro e w3 ⟨f3, rfl, hQ3, hbel3⟩; have hbl3 := Aside0.mk (hbl2.out.trans (hbel3.mono hbl2.out.size)); obtain rfl := same_float HF.out.2.1 HF.out.2.2 HF.out.1 hQ3; clear hQ3 hbel3))
        rw [HR.out]
        exact ⟨rfl, hbl3.out⟩
      · have CA : Aside0 (Calls Tryz.prog 5 #[.string (⟨#[32]⟩ ++ s ++ ⟨#[32]⟩)] w1 (FjPost w1 (FfIs s neg W F x esg N))) := ⟨by
          have := fjFloat_calls (a := ⟨#[32]⟩) HF.out.2.1 HF.out.2.2 (.inr (.inl rfl)) hE1.out
          exact this⟩
        have hix : Sem.run Tryz.prog (Instr.index 25 (.agg #[.string ⟨#[]⟩, .string ⟨#[32]⟩, .string ⟨#[10, 9]⟩, .string ⟨#[13]⟩]) (.int .u8 (b % 4))) w1 = .ok (.string ⟨#[32]⟩) w1 := by rw [hb4]; kernel_rfl
        clear hb4
        go_wp2_with (first
          | (go_at_call 5; (with_reducible refine CA.out.mono ?_); rintro e w2 ⟨f2, rfl, hQ2, hbel2⟩; have hbl2 := Aside0.mk (hbl.out.trans (hbel2.mono hbl.out.size)); obtain rfl := same_float HF.out.2.1 HF.out.2.2 HF.out.1 hQ2; have CN := Aside0.mk (fjNumber_calls HF.out.2.1 HF.out.2.2 (HE.out.below (hbl2.out.mono HE.out.le))); clear hQ2 hbel2)
          | (go_at_call 6; (with_reducible refine CN.out.mono ?_); rintro e w3 ⟨f3, rfl, hQ3, hbel3⟩; have hbl3 := Aside0.mk (hbl2.out.trans (hbel3.mono hbl2.out.size)); obtain rfl := same_float HF.out.2.1 HF.out.2.2 HF.out.1 hQ3; clear hQ3 hbel3))
        rw [HR.out]
        exact ⟨rfl, hbl3.out⟩
      · have CA : Aside0 (Calls Tryz.prog 5 #[.string (⟨#[10, 9]⟩ ++ s ++ ⟨#[10, 9]⟩)] w1 (FjPost w1 (FfIs s neg W F x esg N))) := ⟨by
          have := fjFloat_calls (a := ⟨#[10, 9]⟩) HF.out.2.1 HF.out.2.2 (.inr (.inr (.inl rfl))) hE1.out
          exact this⟩
        have hix : Sem.run Tryz.prog (Instr.index 25 (.agg #[.string ⟨#[]⟩, .string ⟨#[32]⟩, .string ⟨#[10, 9]⟩, .string ⟨#[13]⟩]) (.int .u8 (b % 4))) w1 = .ok (.string ⟨#[10, 9]⟩) w1 := by rw [hb4]; kernel_rfl
        clear hb4
        go_wp2_with (first
          | (go_at_call 5; (with_reducible refine CA.out.mono ?_); rintro e w2 ⟨f2, rfl, hQ2, hbel2⟩; have hbl2 := Aside0.mk (hbl.out.trans (hbel2.mono hbl.out.size)); obtain rfl := same_float HF.out.2.1 HF.out.2.2 HF.out.1 hQ2; have CN := Aside0.mk (fjNumber_calls HF.out.2.1 HF.out.2.2 (HE.out.below (hbl2.out.mono HE.out.le))); clear hQ2 hbel2)
          | (go_at_call 6; (with_reducible refine CN.out.mono ?_); rintro e w3 ⟨f3, rfl, hQ3, hbel3⟩; have hbl3 := Aside0.mk (hbl2.out.trans (hbel3.mono hbl2.out.size)); obtain rfl := same_float HF.out.2.1 HF.out.2.2 HF.out.1 hQ3; clear hQ3 hbel3))
        rw [HR.out]
        exact ⟨rfl, hbl3.out⟩
      · have CA : Aside0 (Calls Tryz.prog 5 #[.string (⟨#[13]⟩ ++ s ++ ⟨#[13]⟩)] w1 (FjPost w1 (FfIs s neg W F x esg N))) := ⟨by
          have := fjFloat_calls (a := ⟨#[13]⟩) HF.out.2.1 HF.out.2.2 (.inr (.inr (.inr rfl))) hE1.out
          exact this⟩
        have hix : Sem.run Tryz.prog (Instr.index 25 (.agg #[.string ⟨#[]⟩, .string ⟨#[32]⟩, .string ⟨#[10, 9]⟩, .string ⟨#[13]⟩]) (.int .u8 (b % 4))) w1 = .ok (.string ⟨#[13]⟩) w1 := by rw [hb4]; kernel_rfl
        clear hb4
        go_wp2_with (first
          | (go_at_call 5; (with_reducible refine CA.out.mono ?_); rintro e w2 ⟨f2, rfl, hQ2, hbel2⟩; have hbl2 := Aside0.mk (hbl.out.trans (hbel2.mono hbl.out.size)); obtain rfl := same_float HF.out.2.1 HF.out.2.2 HF.out.1 hQ2; have CN := Aside0.mk (fjNumber_calls HF.out.2.1 HF.out.2.2 (HE.out.below (hbl2.out.mono HE.out.le))); clear hQ2 hbel2)
          | (go_at_call 6; (with_reducible refine CN.out.mono ?_); rintro e w3 ⟨f3, rfl, hQ3, hbel3⟩; have hbl3 := Aside0.mk (hbl2.out.trans (hbel3.mono hbl2.out.size)); obtain rfl := same_float HF.out.2.1 HF.out.2.2 HF.out.1 hQ3; clear hQ3 hbel3))
        rw [HR.out]
        exact ⟨rfl, hbl3.out⟩
  · have t0 : decide ((2147483647 : Int) < (s.size : Int)) = true := decide_eq_true (by omega)
    have t0n : decide (2147483647 < s.size) = true := decide_eq_true (by omega)
    clear hR hE
    go_enter Tryz.func3, Tryz.ntmps3
    go_wp2_with fail
    rw [HR.out]
    exact ⟨rfl, Below.refl _ _⟩

end Go.Proofs.YtodbjojglibniaaGreatDoor
