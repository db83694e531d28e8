/- Walks of functions of FnJpGetFloat (X7, X8); conditions stand ahead of each theorem. -/
import Derived.Test.YtbimfhaokgigkaaGreatDoorT27
set_option linter.unusedVariables false
set_option linter.unusedSimpArgs false
set_option maxRecDepth 100000
set_option maxHeartbeats 4000000
namespace Go.Proofs.YtbimfhaokgigkaaGreatDoor
open Go.RowKit Go.Proofs.YtbimfhaokgigkaaGreatDoorW.PrintWords Go.Proofs.YtbimfhaokgigkaaGreatDoorW.PrintLast
namespace JS
theorem ret64 {a b : Int} (h : a = b) : Ending.returned (.int .i64 a) = .returned (.int .i64 b) := by rw [h]
theorem h2I_calls {c : Nat} (h : hex c) (w : World) : Calls Tryz.prog 126 #[.int .u8 (c : Int)] w fun e w' => e = .returned (.int .i64 (hexv c : Int)) ∧ w' = w := by
 obtain ⟨x, hx⟩ : ∃ x, x = hexv c := ⟨_, rfl⟩
 rw [← hx]
 unfold hexv at hx
 have hc : c < 256 := by unfold hex at h; omega
 have HX : Aside0 ((c ≤ 57 → (x : Int) = (c : Int) - 48) ∧ (57 < c → c ≤ 70 → (x : Int) = (c : Int) - 65 + 10) ∧ (70 < c → (x : Int) = (c : Int) - 97 + 10)) := ⟨by
  unfold hex at h
  refine ⟨fun h1 => ?_, fun h1 h2 => ?_, fun h1 => ?_⟩
  ·rw [if_pos h1] at hx; omega
  ·rw [if_neg (by omega), if_pos h2] at hx; omega
  ·rw [if_neg (by omega), if_neg (by omega)] at hx; omega⟩
 clear hx hc
 rcases h with ⟨h1, h2⟩ | ⟨h1, h2⟩ | ⟨h1, h2⟩
 all_goals
  have HC := az2 h1 h2
  go_enter Tryz.func126, Tryz.ntmps126
  go_wp2
  go_ret
  have hc := HC.out
  first
   | exact ⟨ret64 (HX.out.1 (by omega)).symm, rfl⟩
   | exact ⟨ret64 (HX.out.2.1 (by omega) (by omega)).symm, rfl⟩
   | exact ⟨ret64 (HX.out.2.2 (by omega)).symm, rfl⟩
theorem ret32 {a b : Int} (h : a = b) : Ending.returned (.int .i32 a) = .returned (.int .i32 b) := by rw [h]
theorem tup32 {a b : Int} (h : a = b) : Ending.returned (.tuple #[.int .i32 a, .bool true]) = .returned (.tuple #[.int .i32 b, .bool true]) := by rw [h]
theorem drewB (w : World) (n : Nat) : Below w.heap.size w (w.drewN n) := ⟨rfl, rfl, rfl, Nat.le_refl _, fun _ _ => rfl⟩
def UniPost (w : World) (c : Nat) (e : Ending) (w' : World) : Prop := e = .returned (.tuple #[.int .i32 (c : Int), .bool true]) ∧ Below w.heap.size w w'
theorem single_calls {w : World} {s : ByteArray} {a n cp z : Nat} {A : Option Addr} (h : Dat w s a n A) (hu : unitAt s a z) (hz : z ≤ a + n) :
  Calls Tryz.prog 104 #[.slice A n cp] w (UniPost w (code s a)) := by
 refine byR fun R hR => ?_
 have HR := az hR
 obtain ⟨u0, _, _, u3, u4, u5, u6⟩ := hu
 have hn6 : 6 ≤ (n : Int) := by omega
 have hsz : (n : Int) ≤ 65536 := by have := h.1; have := h.2.1; omega
 obtain ⟨g, o, rfl, hg, hc⟩ := h.2.2 (by omega)
 have c2 := hc 2 (by omega)
 have c3 := hc 3 (by omega)
 have c4 := hc 4 (by omega)
 have c5 := hc 5 (by omega)
 have l2 := hexv_lt u3
 have l3 := hexv_lt u4
 have l4 := hexv_lt u5
 have l5 := hexv_lt u6
 obtain ⟨d2, e2⟩ : ∃ d, d = bn s (a + 2) := ⟨_, rfl⟩
 obtain ⟨d3, e3⟩ : ∃ d, d = bn s (a + 3) := ⟨_, rfl⟩
 obtain ⟨d4, e4⟩ : ∃ d, d = bn s (a + 4) := ⟨_, rfl⟩
 obtain ⟨d5, e5⟩ : ∃ d, d = bn s (a + 5) := ⟨_, rfl⟩
 have hcode : code s a = ((hexv d2 * 16 + hexv d3) * 16 + hexv d4) * 16 + hexv d5 := by rw [e2, e3, e4, e5]; rfl
 rw [← e2] at c2 u3 l2
 rw [← e3] at c3 u4 l3
 rw [← e4] at c4 u5 l4
 rw [← e5] at c5 u6 l5
 have HC := az hcode
 have b2 : (hexv d2 : Int) < 16 := by omega
 have b3 : (hexv d3 : Int) < 16 := by omega
 have b4 : (hexv d4 : Int) < 16 := by omega
 have b5 : (hexv d5 : Int) < 16 := by omega
 have t2 : ((hexv d2 : Int) == -1) = false := beqF
 have t3 : ((hexv d3 : Int) == -1) = false := beqF
 have t4 : ((hexv d4 : Int) == -1) = false := beqF
 have t5 : ((hexv d5 : Int) == -1) = false := beqF
 have i2 : (2 : Int) < (n : Int) := by omega
 have i3 : (3 : Int) < (n : Int) := by omega
 have i4 : (4 : Int) < (n : Int) := by omega
 have i5 : (5 : Int) < (n : Int) := by omega
 clear hR h u0 hz hg hc e2 e3 e4 e5 hcode l2 l3 l4 l5
 go_enter Tryz.func104, Tryz.ntmps104
 go_wp2_with fail
 go_quiet ((go_at_call 126; exact Calls.quiet_of_same (h2I_calls (by assumption) _)))
 go_wp2_with fail
 rw [HR.out]
 exact ⟨tup32 (by have := HC.out; omega), drewB _ _⟩
def rune (s : ByteArray) (a z : Nat) : Nat := if pairAt s a z then 65536 + (code s a - 55296) * 1024 + (code s (a + 6) - 56320) else if high (code s a) ∨ low (code s a) then 65533 else code s a
def DecPost (w : World) (r k : Nat) (e : Ending) (w' : World) : Prop := e = .returned (.tuple #[.int .i32 (r : Int), .int .i64 (k : Int)]) ∧ Below w.heap.size w w'
theorem isU16_calls (r : Nat) (hr : r < 1114112) (w : World) : Calls Tryz.prog 105 #[.int .i32 (r : Int)] w fun e w' => e = .returned (.bool (decide (55296 ≤ (r : Int) ∧ (r : Int) ≤ 57343))) ∧ w' = w := by
 by_cases h1 : 55296 ≤ (r : Int)
 ·by_cases h2 : (r : Int) ≤ 57343
  ·rw [decide_eq_true (And.intro h1 h2)]
   go_enter Tryz.func105, Tryz.ntmps105
   go_wp2
   go_ret
   exact ⟨rfl, rfl⟩
  ·rw [decide_eq_false (fun h => h2 h.2)]
   go_enter Tryz.func105, Tryz.ntmps105
   go_wp2
   go_ret
   exact ⟨rfl, rfl⟩
 ·rw [decide_eq_false (fun h => h1 h.1)]
  go_enter Tryz.func105, Tryz.ntmps105
  go_wp2
  go_ret
  exact ⟨rfl, rfl⟩
theorem combine_calls (x y : Nat) (hx : high x) (hy : low y) (w : World) : Calls Tryz.prog 106 #[.int .i32 (x : Int), .int .i32 (y : Int)] w fun e w' => e = .returned (.int .i32 ((65536 + (x - 55296) * 1024 + (y - 56320) : Nat) : Int)) ∧ w' = w := by
 have x1 : 55296 ≤ (x : Int) := by unfold high at hx; omega
 have x2 : (x : Int) ≤ 56319 := by unfold high at hx; omega
 have y1 : 56320 ≤ (y : Int) := by unfold low at hy; omega
 have y2 : (y : Int) ≤ 57343 := by unfold low at hy; omega
 go_enter Tryz.func106, Tryz.ntmps106
 go_wp2
 go_ret
 exact ⟨ret32 (by omega), rfl⟩
theorem decU_calls {w : World} {s : ByteArray} {a n cp : Nat} {A : Option Addr} (h : Dat w s a n A) (hn : n ≤ cp) (hu : unitAt s a (a + n)) (hi : Inner s (a + 6) (a + n)) :
  Calls Tryz.prog 87 #[.slice A n cp] w (DecPost w (rune s a (a + n)) (if pairAt s a (a + n) then 12 else 6)) := by
 refine byR fun R hR => ?_
 have HR := az hR
 have hcl := code_lt hu
 have hn6 : 6 ≤ n := by have := hu.1; omega
 have hsz : (n : Int) ≤ 65536 := by have := h.1; have := h.2.1; omega
 have CS := az (single_calls (cp := cp) h hu (Nat.le_refl _))
 obtain ⟨r, hr⟩ : ∃ r, r = code s a := ⟨_, rfl⟩
 rw [← hr] at hcl CS
 have CU := az (fun w => isU16_calls r (by omega) w)
 have hr6 : (r : Int) < 65536 := by omega
 by_cases hsur : 55296 ≤ r ∧ r ≤ 57343
 ·have e1 : decide (55296 ≤ (r : Int) ∧ (r : Int) ≤ 57343) = true := dT
  rw [e1] at CU
  by_cases hlow : 56320 ≤ r
  ·have hE : rune s a (a + n) = 65533 ∧ (if pairAt s a (a + n) then 12 else 6) = 6 := by
    have np : ¬ pairAt s a (a + n) := fun hp => by have := hp.2.1; unfold high at this; omega
    unfold rune
    rw [if_neg np, if_neg np, if_pos (.inr (by unfold low; omega))]
    exact ⟨rfl, rfl⟩
   have HE := az hE
   have t1 : decide ((56320 : Int) ≤ (r : Int)) = true := dT
   clear hR h hn hu hi hr e1 hE hsur hlow
   go_enter Tryz.func87, Tryz.ntmps87
   go_wp2_with (first
    | (go_at_call 104; (with_reducible refine CS.out.mono ?_); rintro e w1 ⟨rfl, hbl⟩; have HB := az hbl; clear hbl)
    | (go_at_call 105; (with_reducible refine (CU.out _).mono ?_); rintro e w2 ⟨rfl, rfl⟩))
   rw [HR.out, HE.out.1, HE.out.2]
   exact ⟨rfl, HB.out⟩
  ·have t1 : decide ((56320 : Int) ≤ (r : Int)) = false := dF
   have hh : high (code s a) := by rw [← hr]; unfold high; omega
   have alone : ¬ pairAt s a (a + n) → rune s a (a + n) = 65533 ∧ (if pairAt s a (a + n) then 12 else 6) = 6 := fun np => by
    unfold rune
    rw [if_neg np, if_neg np, if_pos (.inl hh)]
    exact ⟨rfl, rfl⟩
   obtain ⟨g, o, rfl, hg, hc⟩ := h.2.2 (by omega)
   have HD := az h
   have i6 : (6 : Int) ≤ (cp : Int) := by omega
   have i7 : (n : Int) ≤ (cp : Int) := by omega
   by_cases h8 : 8 ≤ n
   ·have t8 : decide ((n : Int) < 8) = false := dF
    have t8n : decide (n < 8) = false := dF
    have j6 : (6 : Int) < (n : Int) := by omega
    have j7 : (7 : Int) < (n : Int) := by omega
    have k6 := hc 6 (by omega)
    have k7 := hc 7 (by omega)
    have K6 := az k6
    obtain ⟨x6, e6⟩ : ∃ x, x = bn s (a + 6) := ⟨_, rfl⟩
    obtain ⟨x7, e7⟩ : ∃ x, x = bn s (a + 7) := ⟨_, rfl⟩
    rw [← e6] at k6
    rw [← e7] at k7
    by_cases h6 : x6 = 92
    ·by_cases h7 : x7 = 117
     ·have hu6 : unitAt s (a + 6) (a + n) := by
       rcases Inner.unit hi (by omega) with ⟨q, _⟩ | ⟨_, q, _⟩ | ⟨_, _, q, _⟩
       ·exact absurd (e6.symm.trans h6) q
       ·exact absurd (e7.symm.trans h7) q
       ·exact q
      subst h6
      subst h7
      obtain ⟨r2, hr2⟩ : ∃ r2, r2 = code s (a + 6) := ⟨_, rfl⟩
      have hcl2 := code_lt hu6
      rw [← hr2] at hcl2
      have C2 : Aside0 (∀ W, Below w.heap.size w W → Calls Tryz.prog 104 #[.slice (some ⟨g, o + 6, none⟩) (n - 6) (cp - 6)] W (UniPost W r2)) := ⟨fun W hW => hr2 ▸ single_calls ((HD.out.below hW).cutS (by omega)) hu6 (by omega)⟩
      have hc6 : ¬ cp = 6 := by omega
      have b2 : (r2 : Int) < 65536 := by omega
      by_cases hl2 : low r2
      ·have hp : pairAt s a (a + n) := ⟨hu6, hh, by rw [← hr2]; exact hl2⟩
       have hE : rune s a (a + n) = 65536 + (r - 55296) * 1024 + (r2 - 56320) ∧ (if pairAt s a (a + n) then 12 else 6) = 12 := by
        unfold rune
        rw [if_pos hp, if_pos hp, hr, hr2]
        exact ⟨rfl, rfl⟩
       have HE := az hE
       have CC := az (fun w => combine_calls r r2 (by rw [hr]; exact hh) hl2 w)
       have t2 : decide ((r2 : Int) < 56320) = false := decide_eq_false (by unfold low at hl2; omega)
       have t3 : decide ((57343 : Int) < (r2 : Int)) = false := decide_eq_false (by unfold low at hl2; omega)
       clear hR h hn hu hi hr e1 hsur hlow hh alone hE hp hl2 hr2 hu6 e6 e7 hc hg K6
       go_enter Tryz.func87, Tryz.ntmps87
       go_wp2_with (first
        | (go_at_call_of 104 (Value.slice (some ⟨g, o, none⟩) n cp); (with_reducible refine CS.out.mono ?_); rintro e w1 ⟨rfl, hbl⟩; have HB := az hbl; have k6' := (hbl.cell (World.block_lt_of_cell? _ _ k6)).trans k6; have k7' := (hbl.cell (World.block_lt_of_cell? _ _ k7)).trans k7; clear hbl)
        | (go_at_call 105; (with_reducible refine (CU.out _).mono ?_); rintro e w2 ⟨rfl, rfl⟩)
        | fail)
       refine Calls.mono (C2.out _ HB.out) ?_
       rintro e w3 ⟨rfl, hbl⟩
       have HB3 := az (HB.out.trans (hbl.mono HB.out.size))
       clear hbl
       go_wp2_with (go_at_call 106; (with_reducible refine (CC.out _).mono ?_); rintro e w2 ⟨rfl, rfl⟩)
       rw [HR.out, HE.out.1, HE.out.2]
       exact ⟨rfl, HB3.out⟩
      ·have HE := az (alone (fun hp => hl2 (by have := hp.2.2; rwa [← hr2] at this)))
       by_cases h56 : r2 < 56320
       ·have t2 : decide ((r2 : Int) < 56320) = true := dT
        clear hR h hn hu hi hr e1 hsur hlow hh alone hl2 hr2 hu6 e6 e7 hc hg K6 h56
        go_enter Tryz.func87, Tryz.ntmps87
        go_wp2_with (first
        | (go_at_call_of 104 (Value.slice (some ⟨g, o, none⟩) n cp); (with_reducible refine CS.out.mono ?_); rintro e w1 ⟨rfl, hbl⟩; have HB := az hbl; have k6' := (hbl.cell (World.block_lt_of_cell? _ _ k6)).trans k6; have k7' := (hbl.cell (World.block_lt_of_cell? _ _ k7)).trans k7; clear hbl)
        | (go_at_call 105; (with_reducible refine (CU.out _).mono ?_); rintro e w2 ⟨rfl, rfl⟩)
        | fail)
        refine Calls.mono (C2.out _ HB.out) ?_
        rintro e w3 ⟨rfl, hbl⟩
        have HB3 := az (HB.out.trans (hbl.mono HB.out.size))
        clear hbl
        go_wp2_with fail
        rw [HR.out, HE.out.1, HE.out.2]
        exact ⟨rfl, HB3.out⟩
       ·have t2 : decide ((r2 : Int) < 56320) = false := dF
        have t3 : decide ((57343 : Int) < (r2 : Int)) = true := decide_eq_true (by unfold low at hl2; omega)
        clear hR h hn hu hi hr e1 hsur hlow hh alone hl2 hr2 hu6 e6 e7 hc hg K6 h56
        go_enter Tryz.func87, Tryz.ntmps87
        go_wp2_with (first
        | (go_at_call_of 104 (Value.slice (some ⟨g, o, none⟩) n cp); (with_reducible refine CS.out.mono ?_); rintro e w1 ⟨rfl, hbl⟩; have HB := az hbl; have k6' := (hbl.cell (World.block_lt_of_cell? _ _ k6)).trans k6; have k7' := (hbl.cell (World.block_lt_of_cell? _ _ k7)).trans k7; clear hbl)
        | (go_at_call 105; (with_reducible refine (CU.out _).mono ?_); rintro e w2 ⟨rfl, rfl⟩)
        | fail)
        refine Calls.mono (C2.out _ HB.out) ?_
        rintro e w3 ⟨rfl, hbl⟩
        have HB3 := az (HB.out.trans (hbl.mono HB.out.size))
        clear hbl
        go_wp2_with fail
        rw [HR.out, HE.out.1, HE.out.2]
        exact ⟨rfl, HB3.out⟩
     ·have HE := az (alone (fun hp => h7 (e7.trans hp.1.2.2.1)))
      subst h6
      have q7 : ((x7 : Int) != 117) = true := bneT
      have q7n : (x7 != 117) = true := bneTn h7
      clear hR h hn hu hi hr e1 hsur hlow hh alone e6 e7 hc hg K6 h7
      go_enter Tryz.func87, Tryz.ntmps87
      go_wp2_with (first
        | (go_at_call_of 104 (Value.slice (some ⟨g, o, none⟩) n cp); (with_reducible refine CS.out.mono ?_); rintro e w1 ⟨rfl, hbl⟩; have HB := az hbl; have k6' := (hbl.cell (World.block_lt_of_cell? _ _ k6)).trans k6; have k7' := (hbl.cell (World.block_lt_of_cell? _ _ k7)).trans k7; clear hbl)
        | (go_at_call 105; (with_reducible refine (CU.out _).mono ?_); rintro e w2 ⟨rfl, rfl⟩)
        | fail)
      rw [HR.out, HE.out.1, HE.out.2]
      exact ⟨rfl, HB.out⟩
    ·have HE := az (alone (fun hp => h6 (e6.trans hp.1.2.1)))
     have q6 : ((x6 : Int) != 92) = true := bneT
     have q6n : (x6 != 92) = true := bneTn h6
     clear hR h hn hu hi hr e1 hsur hlow hh alone e6 e7 hc hg K6 h6
     go_enter Tryz.func87, Tryz.ntmps87
     go_wp2_with (first
        | (go_at_call_of 104 (Value.slice (some ⟨g, o, none⟩) n cp); (with_reducible refine CS.out.mono ?_); rintro e w1 ⟨rfl, hbl⟩; have HB := az hbl; have k6' := (hbl.cell (World.block_lt_of_cell? _ _ k6)).trans k6; have k7' := (hbl.cell (World.block_lt_of_cell? _ _ k7)).trans k7; clear hbl)
        | (go_at_call 105; (with_reducible refine (CU.out _).mono ?_); rintro e w2 ⟨rfl, rfl⟩)
        | fail)
     rw [HR.out, HE.out.1, HE.out.2]
     exact ⟨rfl, HB.out⟩
   ·have t8 : decide ((n : Int) < 8) = true := dT
    have t8n : decide (n < 8) = true := dT
    have HE := az (alone (fun hp => by have := hp.1.1; omega))
    clear hR h hn hu hi hr e1 hsur hlow hh alone hc hg
    go_enter Tryz.func87, Tryz.ntmps87
    go_wp2_with (first
     | (go_at_call 104; (with_reducible refine CS.out.mono ?_); rintro e w1 ⟨rfl, hbl⟩; have HB := az hbl; clear hbl)
     | (go_at_call 105; (with_reducible refine (CU.out _).mono ?_); rintro e w2 ⟨rfl, rfl⟩))
    rw [HR.out, HE.out.1, HE.out.2]
    exact ⟨rfl, HB.out⟩
 ·have e1 : decide (55296 ≤ (r : Int) ∧ (r : Int) ≤ 57343) = false := dF
  rw [e1] at CU
  have hE : rune s a (a + n) = r ∧ (if pairAt s a (a + n) then 12 else 6) = 6 := by
   have np : ¬ pairAt s a (a + n) := fun hp => by have := hp.2.1; unfold high at this; omega
   unfold rune
   rw [if_neg np, if_neg np, ← hr, if_neg (by unfold high low; omega)]
   exact ⟨rfl, rfl⟩
  have HE := az hE
  clear hR h hn hu hi hr e1 hE hsur
  go_enter Tryz.func87, Tryz.ntmps87
  go_wp2_with (first
   | (go_at_call 104; (with_reducible refine CS.out.mono ?_); rintro e w1 ⟨rfl, hbl⟩; have HB := az hbl; clear hbl)
   | (go_at_call 105; (with_reducible refine (CU.out _).mono ?_); rintro e w2 ⟨rfl, rfl⟩))
  rw [HR.out, HE.out.1, HE.out.2]
  exact ⟨rfl, HB.out⟩
def BufAt (w : World) (gb : Nat) (t : TypeId) (L : Nat) (ws : List Nat) : Prop :=
 ∃ cs : Array Value, w.heap[gb]? = some (.cells cs t (0, 0)) ∧ cs.size = L ∧ ws.length ≤ L ∧ (∀ k x : Nat, ws[k]? = some x → cs[k]? = some (Value.int .u8 (x : Int))) ∧ ∀ k : Nat, k < L → ∃ x : Int, cs[k]? = some (Value.int .u8 x)
section
variable {w w' : World} {gb L : Nat} {t : TypeId} {ws : List Nat}
theorem BufAt.cell (h : BufAt w gb t L ws) {k : Nat} (hk : k < L) : (∃ x : Int, w.cell? ⟨gb, k, none⟩ = some (Value.int .u8 x)) ∧ w.frozen? ⟨gb, k, none⟩ = false := by
 obtain ⟨cs, h1, h2, h3, h4, h5⟩ := h
 obtain ⟨x, hx⟩ := h5 k hk
 exact ⟨⟨x, (blk_cell h1 k).trans hx⟩, blk_frozen h1 k⟩
theorem BufAt.push (h : BufAt w gb t L ws) (hl : ws.length < L) (x : Nat) : BufAt (w.setCell ⟨gb, ws.length, none⟩ (.int .u8 (x : Int))) gb t L (ws ++ [x]) := by
 obtain ⟨cs, h1, h2, h3, h4, h5⟩ := h
 refine ⟨_, blk_set h1 _ _, by simp [h2], by simp; omega, fun k y hk => ?_, fun k hk => ?_⟩
 ·rw [Array.getElem?_setIfInBounds]
  by_cases e : ws.length = k
  ·subst e
   rw [if_pos rfl, if_pos (by omega)]
   simp at hk
   rw [hk]
  ·rw [if_neg e]
   have hkl : k < (ws ++ [x]).length := (List.getElem?_eq_some_iff.1 hk).1
   rw [List.length_append, List.length_singleton] at hkl
   rw [List.getElem?_append_left (by omega)] at hk
   exact h4 k y hk
 ·rw [Array.getElem?_setIfInBounds]
  by_cases e : ws.length = k
  ·rw [if_pos e, if_pos (by omega)]; exact ⟨_, rfl⟩
  ·rw [if_neg e]; exact h5 k hk
theorem BufAt.keep (h : BufAt w gb t L ws) (hb : w'.heap[gb]? = w.heap[gb]?) : BufAt w' gb t L ws := by
 obtain ⟨cs, h1, h2⟩ := h
 exact ⟨cs, hb.trans h1, h2⟩
theorem BufAt.lt (h : BufAt w gb t L ws) : gb < w.heap.size := by obtain ⟨cs, h1, _⟩ := h; exact blk_lt h1
end
theorem grown_refl (w : World) (r : Option Nat) : w.grownBy w r := ⟨rfl, rfl, rfl, Nat.le_refl _, fun _ _ _ => rfl⟩
theorem grown_set {w w1 : World} {g : Nat} (h : w.grownBy w1 (some g)) (i : Nat) (v : Value) : w.grownBy (w1.setCell ⟨g, i, none⟩ v) (some g) :=
 ⟨h.os, h.tape, h.output, by simpa [World.setCell] using h.size, fun k hk hne => (Below.heap_setCell w1 ⟨g, i, none⟩ v k (fun e => hne (by rw [e]))).trans (h.block k hk hne)⟩
theorem below_grown {w w1 w2 : World} {r : Option Nat} (hb : Below w.heap.size w w1) (h : w1.grownBy w2 r) : w.grownBy w2 r :=
 ⟨h.os.trans hb.os, h.tape.trans hb.tape, h.output.trans hb.output, Nat.le_trans hb.size h.size, fun k hk hne => (h.block k (Nat.lt_of_lt_of_le hk hb.size) hne).trans (hb.block k hk)⟩
theorem or8 {a b : Nat} (ha : a < 256) (hb : b < 256) : Go.bits .or .u8 (a : Int) (b : Int) = ((a ||| b : Nat) : Int) := (bits_nat .u8 8 (by decide) (fun n h0 h1 => by simp [IntKind.wrap, IntKind.bits, IntKind.signed]; omega) a b ha hb).2
theorem head8 (b x m : Nat) (hb : b < 256) (hm : ∀ y, y < m → b ||| y = b + y) (hx : x < m) (hm2 : m ≤ 256) : Go.bits .or .u8 (b : Int) ((x : Int) % 256) = ((b + x : Nat) : Int) := by
 have e : (x : Int) % 256 = (x : Int) := by omega
 rw [e, or8 hb (by omega), hm x hx]
def EncPost (w : World) (gb : Nat) (t : TypeId) (L : Nat) (ws : List Nat) (r : Nat) (e : Ending) (w' : World) : Prop :=
 e = .returned (.int .i64 ((utf8 r).length : Int)) ∧ BufAt w' gb t L (ws ++ utf8 r) ∧ w.grownBy w' (some gb)
theorem BufAt.push2 {w : World} {gb L q : Nat} {t : TypeId} {ws : List Nat} (h : BufAt w gb t L ws) (hq : q = ws.length) (hl : q < L) {v : Int} {x : Nat} (hv : v = (x : Int)) : BufAt (w.setCell ⟨gb, q, none⟩ (.int .u8 v)) gb t L (ws ++ [x]) := by
 subst hq hv; exact h.push hl x
theorem encNA_calls {w : World} {gb L nb cb r : Nat} {t : TypeId} {ws : List Nat} (hB : BufAt w gb t L ws) (h128 : 128 ≤ r) (hr : r < 1114112) (hs : ¬ (high r ∨ low r)) (hn : (utf8 r).length ≤ nb) (hL : ws.length + nb ≤ L) (hL6 : L ≤ 70000) :
  Calls Tryz.prog 107 #[.slice (some ⟨gb, ws.length, none⟩) nb cb, .int .i32 (r : Int)] w (EncPost w gb t L ws r) := by
 refine byR fun R hR => ?_
 have HR := az hR
 obtain ⟨q, hq⟩ : ∃ q, q = ws.length := ⟨_, rfl⟩
 rw [← hq]
 have HB := az hB
 have HL := az hL
 have HQ := az hq
 by_cases c1 : r < 2048
 ·have hu : utf8 r = [192 + r / 64, 128 + r % 64] := by unfold utf8; rw [if_neg (by omega), if_pos c1]
  rw [hu] at hn
  have hn2 : 2 ≤ nb := hn
  obtain ⟨⟨x0, hx0⟩, hf0⟩ := hB.cell (k := q) (by omega)
  obtain ⟨⟨x1, hx1⟩, hf1⟩ := hB.cell (k := q + 1) (by omega)
  have n0 : (0 : Int) < (nb : Int) := by omega
  have n1 : (1 : Int) < (nb : Int) := by omega
  have n0n : 0 < nb := by omega
  have n1n : 1 < nb := by omega
  have HU := az hu
  have c1i : (r : Int) < 2048 := by omega
  have HN := az2 hn2 h128
  clear hR hB hL hn hq hu hs hr hn2 h128
  go_enter Tryz.func107, Tryz.ntmps107
  go_wp2_with fail
  rw [HR.out]
  have a1 := HN.out
  have a2 := HL.out
  have a3 := HQ.out
  refine ⟨by rw [HU.out]; rfl, ?_, grown_set (grown_set (grown_refl _ _) _ _) _ _⟩
  rw [HU.out]
  have b1 := HB.out.push2 (x := 192 + r / 64) a3 (by omega) (v := 192 + (r : Int) / 64) (by omega)
  have b2 := b1.push2 (q := q + 1) (x := 128 + r % 64) (by simp; omega) (by omega) (v := 128 + (r : Int) % 64) (by omega)
  simpa using b2
 ·by_cases c2 : r < 65536
  ·have hu : utf8 r = [224 + r / 4096, 128 + r / 64 % 64, 128 + r % 64] := by unfold utf8; rw [if_neg (by omega), if_neg c1, if_neg hs, if_pos c2]
   rw [hu] at hn
   have hn2 : 3 ≤ nb := hn
   obtain ⟨⟨x0, hx0⟩, hf0⟩ := hB.cell (k := q) (by omega)
   obtain ⟨⟨x1, hx1⟩, hf1⟩ := hB.cell (k := q + 1) (by omega)
   obtain ⟨⟨x2, hx2⟩, hf2⟩ := hB.cell (k := q + 2) (by omega)
   have n0 : (0 : Int) < (nb : Int) := by omega
   have n1 : (1 : Int) < (nb : Int) := by omega
   have n2 : (2 : Int) < (nb : Int) := by omega
   have n0n : 0 < nb := by omega
   have n1n : 1 < nb := by omega
   have n2n : 2 < nb := by omega
   have HU := az hu
   have t1 : decide ((r : Int) % 4294967296 ≤ 2047) = false := dF
   have hss : r < 55296 ∨ 57343 < r := by unfold high low at hs; omega
   have HN := az2 hn2 c2
   have fin : Aside0 (EncPost w gb t L ws r (.returned (.int .i64 3)) (((w.setCell ⟨gb, q, none⟩ (.int .u8 (Go.bits .or .u8 224 ((r : Int) / 4096 % 256)))).setCell ⟨gb, q + 1, none⟩ (.int .u8 (128 + (r : Int) / 64 % 64))).setCell ⟨gb, q + 2, none⟩ (.int .u8 (128 + (r : Int) % 64)))) := ⟨by
    have a2 := HL.out
    have a3 := HQ.out
    refine ⟨by rw [HU.out]; rfl, ?_, grown_set (grown_set (grown_set (grown_refl _ _) _ _) _ _) _ _⟩
    rw [HU.out]
    have b1 := HB.out.push2 a3 (by omega) (head8 224 (r / 4096) 16 (by decide) (by decide) (by omega) (by decide))
    have b2 := b1.push2 (q := q + 1) (by simp; omega) (by omega) (v := 128 + (r : Int) / 64 % 64) (x := 128 + r / 64 % 64) (by omega)
    have b3 := b2.push2 (q := q + 2) (by simp; omega) (by omega) (v := 128 + (r : Int) % 64) (x := 128 + r % 64) (by omega)
    rw [List.append_assoc, List.append_assoc] at b3
    exact b3⟩
   clear hR hB hL hn hq hu hs hr hn2 h128 c1
   rcases hss with hss | hss
   ·have t2 : decide ((r : Int) % 4294967296 < 55296) = true := dT
    clear hss c2
    go_enter Tryz.func107, Tryz.ntmps107
    go_wp2_with fail
    rw [HR.out]
    exact fin.out
   ·have t2 : decide ((r : Int) % 4294967296 < 55296) = false := dF
    have t3 : decide (57343 < (r : Int) % 4294967296) = true := dT
    have t4 : decide ((r : Int) % 4294967296 ≤ 65535) = true := dT
    clear hss c2
    go_enter Tryz.func107, Tryz.ntmps107
    go_wp2_with fail
    rw [HR.out]
    exact fin.out
  ·have hu : utf8 r = [240 + r / 262144, 128 + r / 4096 % 64, 128 + r / 64 % 64, 128 + r % 64] := by unfold utf8; rw [if_neg (by omega), if_neg c1, if_neg hs, if_neg c2]
   rw [hu] at hn
   have hn2 : 4 ≤ nb := hn
   obtain ⟨⟨x0, hx0⟩, hf0⟩ := hB.cell (k := q) (by omega)
   obtain ⟨⟨x1, hx1⟩, hf1⟩ := hB.cell (k := q + 1) (by omega)
   obtain ⟨⟨x2, hx2⟩, hf2⟩ := hB.cell (k := q + 2) (by omega)
   obtain ⟨⟨x3, hx3⟩, hf3⟩ := hB.cell (k := q + 3) (by omega)
   have n0 : (0 : Int) < (nb : Int) := by omega
   have n1 : (1 : Int) < (nb : Int) := by omega
   have n2 : (2 : Int) < (nb : Int) := by omega
   have n3 : (3 : Int) < (nb : Int) := by omega
   have n0n : 0 < nb := by omega
   have n1n : 1 < nb := by omega
   have n2n : 2 < nb := by omega
   have n3n : 3 < nb := by omega
   have t1 : decide ((r : Int) % 4294967296 ≤ 2047) = false := dF
   have t2 : decide ((r : Int) % 4294967296 < 55296) = false := dF
   have t3 : decide (57343 < (r : Int) % 4294967296) = true := dT
   have t4 : decide ((r : Int) % 4294967296 ≤ 65535) = false := dF
   have t5 : decide (65535 < (r : Int) % 4294967296) = true := dT
   have t6 : decide ((r : Int) % 4294967296 ≤ 1114111) = true := dT
   have HU := az hu
   have fin : Aside0 (EncPost w gb t L ws r (.returned (.int .i64 4)) ((((w.setCell ⟨gb, q, none⟩ (.int .u8 (Go.bits .or .u8 240 ((r : Int) / 262144 % 256)))).setCell ⟨gb, q + 1, none⟩ (.int .u8 (128 + (r : Int) / 4096 % 64))).setCell ⟨gb, q + 2, none⟩ (.int .u8 (128 + (r : Int) / 64 % 64))).setCell ⟨gb, q + 3, none⟩ (.int .u8 (128 + (r : Int) % 64)))) := ⟨by
    have a2 := HL.out
    have a3 := HQ.out
    refine ⟨by rw [HU.out]; rfl, ?_, grown_set (grown_set (grown_set (grown_set (grown_refl _ _) _ _) _ _) _ _) _ _⟩
    rw [HU.out]
    have b1 := HB.out.push2 a3 (by omega) (head8 240 (r / 262144) 8 (by decide) (by decide) (by omega) (by decide))
    have b2 := b1.push2 (q := q + 1) (by simp; omega) (by omega) (v := 128 + (r : Int) / 4096 % 64) (x := 128 + r / 4096 % 64) (by omega)
    have b3 := b2.push2 (q := q + 2) (by simp; omega) (by omega) (v := 128 + (r : Int) / 64 % 64) (x := 128 + r / 64 % 64) (by omega)
    have b4 := b3.push2 (q := q + 3) (by simp; omega) (by omega) (v := 128 + (r : Int) % 64) (x := 128 + r % 64) (by omega)
    rw [List.append_assoc, List.append_assoc, List.append_assoc] at b4
    exact b4⟩
   clear hR hB hL hn hq hu hs hr hn2 h128 c1 c2
   go_enter Tryz.func107, Tryz.ntmps107
   go_wp2_with fail
   rw [HR.out]
   exact fin.out
theorem encode_calls {w : World} {gb L nb cb r : Nat} {t : TypeId} {ws : List Nat} (hB : BufAt w gb t L ws) (hr : r < 1114112) (hs : ¬ (high r ∨ low r)) (hn : (utf8 r).length ≤ nb) (hL : ws.length + nb ≤ L) (hL6 : L ≤ 70000) :
  Calls Tryz.prog 88 #[.slice (some ⟨gb, ws.length, none⟩) nb cb, .int .i32 (r : Int)] w (EncPost w gb t L ws r) := by
 by_cases c1 : r < 128
 ·obtain ⟨R, hR⟩ : ∃ R : Ending → World → Prop, R = EncPost w gb t L ws r := ⟨_, rfl⟩
  rw [← hR]
  have HR := az hR
  obtain ⟨q, hq⟩ : ∃ q, q = ws.length := ⟨_, rfl⟩
  rw [← hq]
  have HB := az hB
  have HL := az hL
  have HQ := az hq
  have hu : utf8 r = [r] := by unfold utf8; rw [if_pos c1]
  rw [hu] at hn
  have hn2 : 1 ≤ nb := hn
  obtain ⟨⟨x0, hx0⟩, hf0⟩ := hB.cell (k := q) (by omega)
  have n0 : (0 : Int) < (nb : Int) := by omega
  have n0n : 0 < nb := by omega
  have HU := az hu
  have c1i : (r : Int) < 128 := by omega
  clear hR hB hL hn hq hu hs hr
  go_enter Tryz.func88, Tryz.ntmps88
  go_wp2_with fail
  rw [HR.out]
  have a2 := HL.out
  have a3 := HQ.out
  refine ⟨by rw [HU.out]; rfl, ?_, grown_set (grown_refl _ _) _ _⟩
  rw [HU.out]
  exact HB.out.push2 a3 (by omega) rfl
 ·have CN := az (encNA_calls (cb := cb) hB (by omega) hr hs hn hL hL6)
  refine byR fun R hR => ?_
  have HR := az hR
  have t1 : decide ((r : Int) % 4294967296 ≤ 127) = false := dF
  clear hR hB hr hs hn hL c1
  go_enter Tryz.func88, Tryz.ntmps88
  go_wp2_with (go_at_call 107; (with_reducible refine CN.out.mono ?_); rintro e w1 ⟨rfl, hp⟩; have HP := az hp; clear hp)
  rw [HR.out]
  exact ⟨rfl, HP.out⟩
end JS
end Go.Proofs.YtbimfhaokgigkaaGreatDoor
