/- Walks of functions of FnJpGetFloat (A5); conditions stand ahead of each theorem. -/
import Derived.Test.YtbimfhaokgigkaaGreatDoorT04
set_option linter.unusedVariables false
set_option linter.unusedSimpArgs false
set_option maxRecDepth 100000
set_option maxHeartbeats 1000000
namespace Go.Proofs.YtbimfhaokgigkaaGreatDoor
open Go.RowKit Go.Proofs.YtbimfhaokgigkaaGreatDoorW.PrintWords Go.Proofs.YtbimfhaokgigkaaGreatDoorW.PrintLast
theorem PowAt.below {w w' : World} {B : Nat} {p hi lo : Int} (h : PowAt w p hi lo) (hb : Below B w w') (hB : 22 < B) : PowAt w' p hi lo :=
 ⟨(hb.cell (p := ⟨22, _, none⟩) hB).trans h.1, (hb.cell (p := ⟨22, _, none⟩) hB).trans h.2⟩
section
variable (d b : Nat) (p lp hi lo S : Int) (s : Bool) (w : World)
theorem parse_zero0 (hd1 : d < 2 ^ b) (hb0 : 1 ≤ b) (hb1 : b ≤ 64) (hp0 : -345 ≤ p) (hp1 : p ≤ 310) (hl0 : -1200 ≤ lp) (hl1 : lp ≤ 1200) (hp : PowAt w p hi lo) (hsz : 22 < w.heap.size)
  (hc : 1074 ≤ 53 - (b : Int) - lp) (hS : -(1074 - (64 - (b : Int)) + lp + 3) = S)
  (LEN : ∀ w, Calls Tryz.prog 114 #[.int .u64 d] w fun e w' => e = .returned (.int .i64 b) ∧ w' = w) (LOG : ∀ w, Calls Tryz.prog 115 #[.int .i64 p] w fun e w' => e = .returned (.int .i64 lp) ∧ w' = w)
  (ht : decide (64 ≤ S) = true) :
  Calls Tryz.prog 102 #[.int .u64 d, .int .i64 p, .int .u64 (FP.wordOf s 0)] w fun e1 w' => e1 = .returned (.tuple #[.float .f64 (FP.wordOf s 0), .nilIface]) ∧ Below w.heap.size w w' := by
 have hf := frombits_run
 have hw0 : Go.bits .or .u64 (FP.wordOf s 0 : Int) 0 = (FP.wordOf s 0 : Int) := by
  have := or64 (wordOf_lt s (n := 0) (by decide)) (show 0 < 2 ^ 64 by decide)
  rw [Nat.or_zero] at this; exact this
 have hpa := az (hp.below (below_alloc (Below.refl _ _) (.cells #[.int .u64 0, .int .u64 0, .int .i64 0] 180)) hsz)
 have hnew := az (heap_alloc_new w (.cells #[.int .u64 0, .int .u64 0, .int .i64 0] 180))
 have hba := az (below_alloc (Below.refl w.heap.size w) (.cells #[.int .u64 0, .int .u64 0, .int .i64 0] 180))
 have hsz' := az hsz
 clear hp hsz
 go_enter Tryz.func102, Tryz.ntmps102
 go_wp2_with fail
 go_call (LEN _) as e w' ⟨rfl, rfl⟩
 go_wp2_with fail
 go_call (LOG _) as e w' ⟨rfl, rfl⟩
 clear LEN LOG
 go_wp2_with fail
 refine Calls.mono (prescale_calls w'.heap.size 0 0 0 (1074 - (64 - (b : Int))) p lp hi lo _ (by omega) (by omega) (by omega) (by omega) (by omega) (by omega) hnew.out hpa.out (by have := hsz'.out; omega)) ?_
 rintro e w1 ⟨rfl, hsc, honly⟩
 rw [hS] at hsc
 have hbb := az (Only.below hba.out honly (Nat.le_refl _))
 have hsc' := az hsc
 have c2 : w1.cell? ⟨w'.heap.size, 2, none⟩ = some (.int .i64 S) := (blk_cell hsc 2).trans rfl
 clear hsc honly hpa hnew hba
 go_wp2_with fail
 go_ret2
 exact ⟨rfl, hbb.out⟩
theorem parse_low0 (hd1 : d < 2 ^ b) (hb0 : 1 ≤ b) (hb1 : b ≤ 64) (hp0 : -345 ≤ p) (hp1 : p ≤ 310) (hl0 : -1200 ≤ lp) (hl1 : lp ≤ 1200) (hp : PowAt w p hi lo) (hsz : 22 < w.heap.size)
  (hc : 1074 ≤ 53 - (b : Int) - lp) (hS : -(1074 - (64 - (b : Int)) + lp + 3) = S)
  (LEN : ∀ w, Calls Tryz.prog 114 #[.int .u64 d] w fun e w' => e = .returned (.int .i64 b) ∧ w' = w) (LOG : ∀ w, Calls Tryz.prog 115 #[.int .i64 p] w fun e w' => e = .returned (.int .i64 lp) ∧ w' = w)
  (ht : decide (64 ≤ S) = false) (x u r : Nat) (e2 : Int) (hS0 : 0 ≤ S) (hS1 : S < 64)
  (hx : IntKind.u64.wrap ((d : Int) * 2 ^ (64 - b)) = (x : Int)) (USC : ∀ w g, Scaler w g hi lo S → Calls Tryz.prog 117 #[.int .u64 x, .pointer (some ⟨g, 0, none⟩)] w fun e1 w' => e1 = .returned (.int .u64 u) ∧ ∃ n, w' = w.drewN n)
  (hu : decide (36028797018963966 ≤ (u : Int)) = false) (hr : r < 2 ^ 53) (he : -(1074) = e2) (he0 : -1074 ≤ e2) (he1 : e2 ≤ 5000)
  (RND : ∀ w, Calls Tryz.prog 121 #[.int .u64 (Go.bits .or .u64 (u : Int) (Go.bits .and .u64 (u : Int) 1))] w fun e1 w' => e1 = .returned (.int .u64 (r : Int)) ∧ w' = w) :
  Calls Tryz.prog 102 #[.int .u64 d, .int .i64 p, .int .u64 (FP.wordOf s 0)] w fun e1 w' => e1 = .returned (.tuple #[.float .f64 (FP.wordOf s (FP.packN r e2)), errOf (FP.packN r e2)]) ∧ Below w.heap.size w w' := by
 have hf := frombits_run
 have hw0 : Go.bits .or .u64 (FP.wordOf s 0 : Int) 0 = (FP.wordOf s 0 : Int) := by
  have := or64 (wordOf_lt s (n := 0) (by decide)) (show 0 < 2 ^ 64 by decide)
  rw [Nat.or_zero] at this; exact this
 have hwr : Go.bits .or .u64 (FP.wordOf s 0 : Int) (r : Int) = (FP.wordOf s r : Int) := by
  have := or64 (wordOf_lt s (n := 0) (by decide)) (show r < 2 ^ 64 by omega)
  rw [this, ← sign_or s (n := r) (by omega), ← sign_or s (n := 0) (by decide), Nat.or_zero]
 have hpa := az (hp.below (below_alloc (Below.refl _ _) (.cells #[.int .u64 0, .int .u64 0, .int .i64 0] 180)) hsz)
 have hnew := az (heap_alloc_new w (.cells #[.int .u64 0, .int .u64 0, .int .i64 0] 180))
 have hba := az (below_alloc (Below.refl w.heap.size w) (.cells #[.int .u64 0, .int .u64 0, .int .i64 0] 180))
 have hsz' := az hsz
 clear hp hsz
 go_enter Tryz.func102, Tryz.ntmps102
 go_wp2_with fail
 go_call (LEN _) as e w' ⟨rfl, rfl⟩
 go_wp2_with fail
 go_call (LOG _) as e w' ⟨rfl, rfl⟩
 clear LEN LOG
 go_wp2_with fail
 refine Calls.mono (prescale_calls w'.heap.size 0 0 0 (1074 - (64 - (b : Int))) p lp hi lo _ (by omega) (by omega) (by omega) (by omega) (by omega) (by omega) hnew.out hpa.out (by have := hsz'.out; omega)) ?_
 rintro e w1 ⟨rfl, hsc, honly⟩
 rw [hS] at hsc
 have hbb := az (Only.below hba.out honly (Nat.le_refl _))
 have hsc' := az hsc
 have c2 : w1.cell? ⟨w'.heap.size, 2, none⟩ = some (.int .i64 S) := (blk_cell hsc 2).trans rfl
 clear hsc honly hpa hnew hba
 go_wp2_with fail
 refine Calls.mono (USC w1 w'.heap.size hsc'.out) ?_
 rintro e w2 ⟨rfl, n2, rfl⟩
 clear USC
 go_wp2_with fail
 go_call (unmin_calls _ _) as e w2 ⟨rfl, rfl⟩
 go_wp2_with fail
 go_call (boolInt_calls _ _) as e w2 ⟨rfl, rfl⟩
 go_wp2_with fail
 go_call (RND _) as e w2 ⟨rfl, rfl⟩
 clear RND
 go_wp2_with fail
 go_call (pack64_calls s r e2 hr he0 he1 _) as e w2 ⟨rfl, rfl⟩
 go_wp2_with fail
 go_ret2
 exact ⟨rfl, pw_below_drewN hbb.out n2⟩
theorem parse_high0 (hd1 : d < 2 ^ b) (hb0 : 1 ≤ b) (hb1 : b ≤ 64) (hp0 : -345 ≤ p) (hp1 : p ≤ 310) (hl0 : -1200 ≤ lp) (hl1 : lp ≤ 1200) (hp : PowAt w p hi lo) (hsz : 22 < w.heap.size)
  (hc : 1074 ≤ 53 - (b : Int) - lp) (hS : -(1074 - (64 - (b : Int)) + lp + 3) = S)
  (LEN : ∀ w, Calls Tryz.prog 114 #[.int .u64 d] w fun e w' => e = .returned (.int .i64 b) ∧ w' = w) (LOG : ∀ w, Calls Tryz.prog 115 #[.int .i64 p] w fun e w' => e = .returned (.int .i64 lp) ∧ w' = w)
  (ht : decide (64 ≤ S) = false) (x u r : Nat) (e2 : Int) (hS0 : 0 ≤ S) (hS1 : S < 64)
  (hx : IntKind.u64.wrap ((d : Int) * 2 ^ (64 - b)) = (x : Int)) (USC : ∀ w g, Scaler w g hi lo S → Calls Tryz.prog 117 #[.int .u64 x, .pointer (some ⟨g, 0, none⟩)] w fun e1 w' => e1 = .returned (.int .u64 u) ∧ ∃ n, w' = w.drewN n)
  (hu : decide (36028797018963966 ≤ (u : Int)) = true) (hr : r < 2 ^ 53) (he : -1073 = e2) (he0 : -1074 ≤ e2) (he1 : e2 ≤ 5000)
  (RND : ∀ w, Calls Tryz.prog 121 #[.int .u64 (Go.bits .or .u64 ((u : Int) / 2) (Go.bits .and .u64 (u : Int) 1))] w fun e1 w' => e1 = .returned (.int .u64 (r : Int)) ∧ w' = w) :
  Calls Tryz.prog 102 #[.int .u64 d, .int .i64 p, .int .u64 (FP.wordOf s 0)] w fun e1 w' => e1 = .returned (.tuple #[.float .f64 (FP.wordOf s (FP.packN r e2)), errOf (FP.packN r e2)]) ∧ Below w.heap.size w w' := by
 have hf := frombits_run
 have hw0 : Go.bits .or .u64 (FP.wordOf s 0 : Int) 0 = (FP.wordOf s 0 : Int) := by
  have := or64 (wordOf_lt s (n := 0) (by decide)) (show 0 < 2 ^ 64 by decide)
  rw [Nat.or_zero] at this; exact this
 have hwr : Go.bits .or .u64 (FP.wordOf s 0 : Int) (r : Int) = (FP.wordOf s r : Int) := by
  have := or64 (wordOf_lt s (n := 0) (by decide)) (show r < 2 ^ 64 by omega)
  rw [this, ← sign_or s (n := r) (by omega), ← sign_or s (n := 0) (by decide), Nat.or_zero]
 have hpa := az (hp.below (below_alloc (Below.refl _ _) (.cells #[.int .u64 0, .int .u64 0, .int .i64 0] 180)) hsz)
 have hnew := az (heap_alloc_new w (.cells #[.int .u64 0, .int .u64 0, .int .i64 0] 180))
 have hba := az (below_alloc (Below.refl w.heap.size w) (.cells #[.int .u64 0, .int .u64 0, .int .i64 0] 180))
 have hsz' := az hsz
 clear hp hsz
 go_enter Tryz.func102, Tryz.ntmps102
 go_wp2_with fail
 go_call (LEN _) as e w' ⟨rfl, rfl⟩
 go_wp2_with fail
 go_call (LOG _) as e w' ⟨rfl, rfl⟩
 clear LEN LOG
 go_wp2_with fail
 refine Calls.mono (prescale_calls w'.heap.size 0 0 0 (1074 - (64 - (b : Int))) p lp hi lo _ (by omega) (by omega) (by omega) (by omega) (by omega) (by omega) hnew.out hpa.out (by have := hsz'.out; omega)) ?_
 rintro e w1 ⟨rfl, hsc, honly⟩
 rw [hS] at hsc
 have hbb := az (Only.below hba.out honly (Nat.le_refl _))
 have hsc' := az hsc
 have c2 : w1.cell? ⟨w'.heap.size, 2, none⟩ = some (.int .i64 S) := (blk_cell hsc 2).trans rfl
 clear hsc honly hpa hnew hba
 go_wp2_with fail
 refine Calls.mono (USC w1 w'.heap.size hsc'.out) ?_
 rintro e w2 ⟨rfl, n2, rfl⟩
 clear USC
 go_wp2_with fail
 go_call (unmin_calls _ _) as e w2 ⟨rfl, rfl⟩
 go_wp2_with fail
 go_call (boolInt_calls _ _) as e w2 ⟨rfl, rfl⟩
 go_wp2_with fail
 go_call (RND _) as e w2 ⟨rfl, rfl⟩
 clear RND
 go_wp2_with fail
 go_call (pack64_calls s r e2 hr he0 he1 _) as e w2 ⟨rfl, rfl⟩
 go_wp2_with fail
 go_ret2
 exact ⟨rfl, pw_below_drewN hbb.out n2⟩
theorem parse_zero1 (hd1 : d < 2 ^ b) (hb0 : 1 ≤ b) (hb1 : b ≤ 64) (hp0 : -345 ≤ p) (hp1 : p ≤ 310) (hl0 : -1200 ≤ lp) (hl1 : lp ≤ 1200) (hp : PowAt w p hi lo) (hsz : 22 < w.heap.size)
  (hc : 53 - (b : Int) - lp < 1074) (hS : -(53 - (b : Int) - lp - (64 - (b : Int)) + lp + 3) = S)
  (LEN : ∀ w, Calls Tryz.prog 114 #[.int .u64 d] w fun e w' => e = .returned (.int .i64 b) ∧ w' = w) (LOG : ∀ w, Calls Tryz.prog 115 #[.int .i64 p] w fun e w' => e = .returned (.int .i64 lp) ∧ w' = w)
  (ht : decide (64 ≤ S) = true) :
  Calls Tryz.prog 102 #[.int .u64 d, .int .i64 p, .int .u64 (FP.wordOf s 0)] w fun e1 w' => e1 = .returned (.tuple #[.float .f64 (FP.wordOf s 0), .nilIface]) ∧ Below w.heap.size w w' := by
 have hf := frombits_run
 have hw0 : Go.bits .or .u64 (FP.wordOf s 0 : Int) 0 = (FP.wordOf s 0 : Int) := by
  have := or64 (wordOf_lt s (n := 0) (by decide)) (show 0 < 2 ^ 64 by decide)
  rw [Nat.or_zero] at this; exact this
 have hpa := az (hp.below (below_alloc (Below.refl _ _) (.cells #[.int .u64 0, .int .u64 0, .int .i64 0] 180)) hsz)
 have hnew := az (heap_alloc_new w (.cells #[.int .u64 0, .int .u64 0, .int .i64 0] 180))
 have hba := az (below_alloc (Below.refl w.heap.size w) (.cells #[.int .u64 0, .int .u64 0, .int .i64 0] 180))
 have hsz' := az hsz
 clear hp hsz
 go_enter Tryz.func102, Tryz.ntmps102
 go_wp2_with fail
 go_call (LEN _) as e w' ⟨rfl, rfl⟩
 go_wp2_with fail
 go_call (LOG _) as e w' ⟨rfl, rfl⟩
 clear LEN LOG
 go_wp2_with fail
 refine Calls.mono (prescale_calls w'.heap.size 0 0 0 (53 - (b : Int) - lp - (64 - (b : Int))) p lp hi lo _ (by omega) (by omega) (by omega) (by omega) (by omega) (by omega) hnew.out hpa.out (by have := hsz'.out; omega)) ?_
 rintro e w1 ⟨rfl, hsc, honly⟩
 rw [hS] at hsc
 have hbb := az (Only.below hba.out honly (Nat.le_refl _))
 have hsc' := az hsc
 have c2 : w1.cell? ⟨w'.heap.size, 2, none⟩ = some (.int .i64 S) := (blk_cell hsc 2).trans rfl
 clear hsc honly hpa hnew hba
 go_wp2_with fail
 go_ret2
 exact ⟨rfl, hbb.out⟩
theorem parse_low1 (hd1 : d < 2 ^ b) (hb0 : 1 ≤ b) (hb1 : b ≤ 64) (hp0 : -345 ≤ p) (hp1 : p ≤ 310) (hl0 : -1200 ≤ lp) (hl1 : lp ≤ 1200) (hp : PowAt w p hi lo) (hsz : 22 < w.heap.size)
  (hc : 53 - (b : Int) - lp < 1074) (hS : -(53 - (b : Int) - lp - (64 - (b : Int)) + lp + 3) = S)
  (LEN : ∀ w, Calls Tryz.prog 114 #[.int .u64 d] w fun e w' => e = .returned (.int .i64 b) ∧ w' = w) (LOG : ∀ w, Calls Tryz.prog 115 #[.int .i64 p] w fun e w' => e = .returned (.int .i64 lp) ∧ w' = w)
  (ht : decide (64 ≤ S) = false) (x u r : Nat) (e2 : Int) (hS0 : 0 ≤ S) (hS1 : S < 64)
  (hx : IntKind.u64.wrap ((d : Int) * 2 ^ (64 - b)) = (x : Int)) (USC : ∀ w g, Scaler w g hi lo S → Calls Tryz.prog 117 #[.int .u64 x, .pointer (some ⟨g, 0, none⟩)] w fun e1 w' => e1 = .returned (.int .u64 u) ∧ ∃ n, w' = w.drewN n)
  (hu : decide (36028797018963966 ≤ (u : Int)) = false) (hr : r < 2 ^ 53) (he : -(53 - (b : Int) - lp) = e2) (he0 : -1074 ≤ e2) (he1 : e2 ≤ 5000)
  (RND : ∀ w, Calls Tryz.prog 121 #[.int .u64 (Go.bits .or .u64 (u : Int) (Go.bits .and .u64 (u : Int) 1))] w fun e1 w' => e1 = .returned (.int .u64 (r : Int)) ∧ w' = w) :
  Calls Tryz.prog 102 #[.int .u64 d, .int .i64 p, .int .u64 (FP.wordOf s 0)] w fun e1 w' => e1 = .returned (.tuple #[.float .f64 (FP.wordOf s (FP.packN r e2)), errOf (FP.packN r e2)]) ∧ Below w.heap.size w w' := by
 have hf := frombits_run
 have hw0 : Go.bits .or .u64 (FP.wordOf s 0 : Int) 0 = (FP.wordOf s 0 : Int) := by
  have := or64 (wordOf_lt s (n := 0) (by decide)) (show 0 < 2 ^ 64 by decide)
  rw [Nat.or_zero] at this; exact this
 have hwr : Go.bits .or .u64 (FP.wordOf s 0 : Int) (r : Int) = (FP.wordOf s r : Int) := by
  have := or64 (wordOf_lt s (n := 0) (by decide)) (show r < 2 ^ 64 by omega)
  rw [this, ← sign_or s (n := r) (by omega), ← sign_or s (n := 0) (by decide), Nat.or_zero]
 have hpa := az (hp.below (below_alloc (Below.refl _ _) (.cells #[.int .u64 0, .int .u64 0, .int .i64 0] 180)) hsz)
 have hnew := az (heap_alloc_new w (.cells #[.int .u64 0, .int .u64 0, .int .i64 0] 180))
 have hba := az (below_alloc (Below.refl w.heap.size w) (.cells #[.int .u64 0, .int .u64 0, .int .i64 0] 180))
 have hsz' := az hsz
 clear hp hsz
 go_enter Tryz.func102, Tryz.ntmps102
 go_wp2_with fail
 go_call (LEN _) as e w' ⟨rfl, rfl⟩
 go_wp2_with fail
 go_call (LOG _) as e w' ⟨rfl, rfl⟩
 clear LEN LOG
 go_wp2_with fail
 refine Calls.mono (prescale_calls w'.heap.size 0 0 0 (53 - (b : Int) - lp - (64 - (b : Int))) p lp hi lo _ (by omega) (by omega) (by omega) (by omega) (by omega) (by omega) hnew.out hpa.out (by have := hsz'.out; omega)) ?_
 rintro e w1 ⟨rfl, hsc, honly⟩
 rw [hS] at hsc
 have hbb := az (Only.below hba.out honly (Nat.le_refl _))
 have hsc' := az hsc
 have c2 : w1.cell? ⟨w'.heap.size, 2, none⟩ = some (.int .i64 S) := (blk_cell hsc 2).trans rfl
 clear hsc honly hpa hnew hba
 go_wp2_with fail
 refine Calls.mono (USC w1 w'.heap.size hsc'.out) ?_
 rintro e w2 ⟨rfl, n2, rfl⟩
 clear USC
 go_wp2_with fail
 go_call (unmin_calls _ _) as e w2 ⟨rfl, rfl⟩
 go_wp2_with fail
 go_call (boolInt_calls _ _) as e w2 ⟨rfl, rfl⟩
 go_wp2_with fail
 go_call (RND _) as e w2 ⟨rfl, rfl⟩
 clear RND
 go_wp2_with fail
 go_call (pack64_calls s r e2 hr he0 he1 _) as e w2 ⟨rfl, rfl⟩
 go_wp2_with fail
 go_ret2
 exact ⟨rfl, pw_below_drewN hbb.out n2⟩
theorem parse_high1 (hd1 : d < 2 ^ b) (hb0 : 1 ≤ b) (hb1 : b ≤ 64) (hp0 : -345 ≤ p) (hp1 : p ≤ 310) (hl0 : -1200 ≤ lp) (hl1 : lp ≤ 1200) (hp : PowAt w p hi lo) (hsz : 22 < w.heap.size)
  (hc : 53 - (b : Int) - lp < 1074) (hS : -(53 - (b : Int) - lp - (64 - (b : Int)) + lp + 3) = S)
  (LEN : ∀ w, Calls Tryz.prog 114 #[.int .u64 d] w fun e w' => e = .returned (.int .i64 b) ∧ w' = w) (LOG : ∀ w, Calls Tryz.prog 115 #[.int .i64 p] w fun e w' => e = .returned (.int .i64 lp) ∧ w' = w)
  (ht : decide (64 ≤ S) = false) (x u r : Nat) (e2 : Int) (hS0 : 0 ≤ S) (hS1 : S < 64)
  (hx : IntKind.u64.wrap ((d : Int) * 2 ^ (64 - b)) = (x : Int)) (USC : ∀ w g, Scaler w g hi lo S → Calls Tryz.prog 117 #[.int .u64 x, .pointer (some ⟨g, 0, none⟩)] w fun e1 w' => e1 = .returned (.int .u64 u) ∧ ∃ n, w' = w.drewN n)
  (hu : decide (36028797018963966 ≤ (u : Int)) = true) (hr : r < 2 ^ 53) (he : -(53 - (b : Int) - lp - 1) = e2) (he0 : -1074 ≤ e2) (he1 : e2 ≤ 5000)
  (RND : ∀ w, Calls Tryz.prog 121 #[.int .u64 (Go.bits .or .u64 ((u : Int) / 2) (Go.bits .and .u64 (u : Int) 1))] w fun e1 w' => e1 = .returned (.int .u64 (r : Int)) ∧ w' = w) :
  Calls Tryz.prog 102 #[.int .u64 d, .int .i64 p, .int .u64 (FP.wordOf s 0)] w fun e1 w' => e1 = .returned (.tuple #[.float .f64 (FP.wordOf s (FP.packN r e2)), errOf (FP.packN r e2)]) ∧ Below w.heap.size w w' := by
 have hf := frombits_run
 have hw0 : Go.bits .or .u64 (FP.wordOf s 0 : Int) 0 = (FP.wordOf s 0 : Int) := by
  have := or64 (wordOf_lt s (n := 0) (by decide)) (show 0 < 2 ^ 64 by decide)
  rw [Nat.or_zero] at this; exact this
 have hwr : Go.bits .or .u64 (FP.wordOf s 0 : Int) (r : Int) = (FP.wordOf s r : Int) := by
  have := or64 (wordOf_lt s (n := 0) (by decide)) (show r < 2 ^ 64 by omega)
  rw [this, ← sign_or s (n := r) (by omega), ← sign_or s (n := 0) (by decide), Nat.or_zero]
 have hpa := az (hp.below (below_alloc (Below.refl _ _) (.cells #[.int .u64 0, .int .u64 0, .int .i64 0] 180)) hsz)
 have hnew := az (heap_alloc_new w (.cells #[.int .u64 0, .int .u64 0, .int .i64 0] 180))
 have hba := az (below_alloc (Below.refl w.heap.size w) (.cells #[.int .u64 0, .int .u64 0, .int .i64 0] 180))
 have hsz' := az hsz
 clear hp hsz
 go_enter Tryz.func102, Tryz.ntmps102
 go_wp2_with fail
 go_call (LEN _) as e w' ⟨rfl, rfl⟩
 go_wp2_with fail
 go_call (LOG _) as e w' ⟨rfl, rfl⟩
 clear LEN LOG
 go_wp2_with fail
 refine Calls.mono (prescale_calls w'.heap.size 0 0 0 (53 - (b : Int) - lp - (64 - (b : Int))) p lp hi lo _ (by omega) (by omega) (by omega) (by omega) (by omega) (by omega) hnew.out hpa.out (by have := hsz'.out; omega)) ?_
 rintro e w1 ⟨rfl, hsc, honly⟩
 rw [hS] at hsc
 have hbb := az (Only.below hba.out honly (Nat.le_refl _))
 have hsc' := az hsc
 have c2 : w1.cell? ⟨w'.heap.size, 2, none⟩ = some (.int .i64 S) := (blk_cell hsc 2).trans rfl
 clear hsc honly hpa hnew hba
 go_wp2_with fail
 refine Calls.mono (USC w1 w'.heap.size hsc'.out) ?_
 rintro e w2 ⟨rfl, n2, rfl⟩
 clear USC
 go_wp2_with fail
 go_call (unmin_calls _ _) as e w2 ⟨rfl, rfl⟩
 go_wp2_with fail
 go_call (boolInt_calls _ _) as e w2 ⟨rfl, rfl⟩
 go_wp2_with fail
 go_call (RND _) as e w2 ⟨rfl, rfl⟩
 clear RND
 go_wp2_with fail
 go_call (pack64_calls s r e2 hr he0 he1 _) as e w2 ⟨rfl, rfl⟩
 go_wp2_with fail
 go_ret2
 exact ⟨rfl, pw_below_drewN hbb.out n2⟩
end
theorem parse_calls (d : Nat) (p : Int) (s : Bool) (w : World) (hd0 : 1 ≤ d) (hd1 : d < 2 ^ 64) (hp0 : -345 ≤ p) (hp1 : p ≤ 310)
  (hp : PowAt w p ((FP.rowAt p).1 : Int) ((FP.rowAt p).2 : Int)) (hsz : 22 < w.heap.size) :
  Calls Tryz.prog 102 #[.int .u64 d, .int .i64 p, .int .u64 (FP.wordOf s 0)] w fun e1 w' => (∃ r, FP.Near ((d : Rat) * FP.p10 p) r ∧ e1 = .returned (.tuple #[.float .f64 (FP.wordOf s r), errOf r])) ∧ Below w.heap.size w w' := by
 obtain ⟨b, LEN, hb0, hb1, hdb0, hdb1⟩ : ∃ b : Nat, (∀ w, Calls Tryz.prog 114 #[.int .u64 d] w fun e w' => e = .returned (.int .i64 b) ∧ w' = w) ∧ 1 ≤ b ∧ b ≤ 64 ∧ 2 ^ (b - 1) ≤ d ∧ d < 2 ^ b := by
  refine ⟨Nat.log2 d + 1, fun w => (len64_calls d hd0 hd1 w).mono ?_, by omega, ?_, ?_, Nat.lt_log2_self⟩
  ·rintro e w' ⟨⟨b, rfl, h1, h2, h3, h4⟩, rfl⟩
   have a1 : Nat.log2 d < b := (Nat.log2_lt (by omega)).mpr h4
   have a2 : b - 1 ≤ Nat.log2 d := (Nat.le_log2 (by omega)).mpr h3
   rw [show Nat.log2 d + 1 = b by omega]
   exact ⟨rfl, rfl⟩
  ·have := (Nat.log2_lt (n := d) (k := 64) (by omega)).mpr hd1
   omega
  ·exact (Nat.le_log2 (by omega)).mp (Nat.le_refl _)
 have LOG : ∀ w, Calls Tryz.prog 115 #[.int .i64 p] w fun e w' => e = .returned (.int .i64 (FP.lg10 p)) ∧ w' = w := fun w => log2_calls p (by omega) (by omega) w
 have hl0 : -1200 ≤ FP.lg10 p := by unfold FP.lg10; omega
 have hl1 : FP.lg10 p ≤ 1200 := by unfold FP.lg10; omega
 have hn := FP.parse_near hb0 hb1 hdb0 hdb1 hp0 hp1
 have row := FP.row_at p hp0 hp1
 unfold FP.parseN at hn
 have hE : FP.parseE b p = min 1074 (53 - (b : Int) - FP.lg10 p) := rfl
 have hSd : FP.parseS b p = 61 - FP.parseE b p - (b : Int) - FP.lg10 p := rfl
 by_cases c : 64 ≤ FP.parseS b p
 ·rw [if_pos c] at hn
  refine Calls.mono (R := fun e1 w' => e1 = .returned (.tuple #[.float .f64 (FP.wordOf s 0), .nilIface]) ∧ Below w.heap.size w w') ?_ (fun e w' h => ⟨⟨0, hn, by rw [h.1]; rfl⟩, h.2⟩)
  by_cases c2 : 1074 ≤ 53 - (b : Int) - FP.lg10 p
  ·exact parse_zero0 d b p _ _ _ _ s w hdb1 hb0 hb1 hp0 hp1 hl0 hl1 hp hsz c2 rfl LEN LOG (decide_eq_true (by omega))
  ·exact parse_zero1 d b p _ _ _ _ s w hdb1 hb0 hb1 hp0 hp1 hl0 hl1 hp hsz (by omega) rfl LEN LOG (decide_eq_true (by omega))
 ·have hub := (FP.parse_near_and hb0 hb1 hdb0 hdb1 hp0 hp1).2 c
  rw [if_neg c] at hn
  obtain ⟨x, hx⟩ : ∃ x, x = d * 2 ^ (64 - b) := ⟨_, rfl⟩
  rw [← hx] at hub hn
  simp only at hn
  have hx0 : 2 ^ 63 ≤ x := by
   rw [hx]
   have : 2 ^ (b - 1) * 2 ^ (64 - b) ≤ d * 2 ^ (64 - b) := Nat.mul_le_mul_right _ hdb0
   rw [← Nat.pow_add, show b - 1 + (64 - b) = 63 by omega] at this
   exact this
  have hx1 : x < 2 ^ 64 := by
   rw [hx]
   have : d * 2 ^ (64 - b) < 2 ^ b * 2 ^ (64 - b) := Nat.mul_lt_mul_of_pos_right hdb1 (Nat.two_pow_pos _)
   rw [← Nat.pow_add, show b + (64 - b) = 64 by omega] at this
   exact this
  have hxw : IntKind.u64.wrap ((d : Int) * 2 ^ (64 - b)) = (x : Int) := by
   have : (d : Int) * 2 ^ (64 - b) = (x : Int) := by rw [hx, Int.natCast_mul, Int.natCast_pow]; rfl
   rw [this]; exact wrapU_lt hx1
  obtain ⟨S, hS⟩ : ∃ S, S = FP.parseS b p := ⟨_, rfl⟩
  have hS0 : 0 ≤ S := by omega
  have hS1 : S < 64 := by omega
  have hhi : 2 ^ 63 ≤ (FP.rowAt p).1 := by
   have h1 := Nat.le_trans row.first row.under
   have h2 := Nat.le_of_mul_le_mul_right h1 (FP.denM_pos p)
   omega
  have hpos : 1 ≤ x * (FP.rowAt p).1 / 2 ^ 64 := by
   have h1 : 2 ^ 63 * 2 ^ 63 ≤ x * (FP.rowAt p).1 := Nat.mul_le_mul hx0 hhi
   rw [Nat.le_div_iff_mul_le (by decide)]
   omega
  have USC : ∀ w g, Scaler w g ((FP.rowAt p).1 : Int) ((FP.rowAt p).2 : Int) S → Calls Tryz.prog 117 #[.int .u64 x, .pointer (some ⟨g, 0, none⟩)] w fun e1 w' => e1 = .returned (.int .u64 ((FP.uscaleN x (FP.rowAt p).1 (FP.rowAt p).2 S.toNat : Nat) : Int)) ∧ ∃ n, w' = w.drewN n := by
   intro w g hg
   rw [show S = ((S.toNat : Nat) : Int) by omega] at hg
   exact uscale_calls g S.toNat x _ _ w hg (by omega) hx1 row.hi row.lo hpos
  rw [← hS] at hub hn
  generalize FP.uscaleN x (FP.rowAt p).1 (FP.rowAt p).2 S.toNat = u at *
  have hand : Go.bits .and .u64 (u : Int) 1 = ((u % 2 : Nat) : Int) := by
   have := mask64 (x := (u : Int)) 1 (by decide) (by omega) (by omega)
   rw [show (2 ^ 1 - 1 : Int) = 1 by decide] at this
   rw [this]; omega
  by_cases cu : 2 ^ 55 - 2 ≤ u
  ·rw [if_pos cu] at hn
   have hv : u / 2 ||| u % 2 ≤ u / 2 + 1 := by
    rcases Nat.mod_two_eq_zero_or_one u with h | h <;> rw [h]
    ·simp
    ·rw [FP.or_one]; split <;> omega
   have RND : ∀ w, Calls Tryz.prog 121 #[.int .u64 (Go.bits .or .u64 ((u : Int) / 2) (Go.bits .and .u64 (u : Int) 1))] w fun e1 w' => e1 = .returned (.int .u64 ((FP.roundU (u / 2 ||| u % 2) : Nat) : Int)) ∧ w' = w := by
    intro w
    rw [hand, show (u : Int) / 2 = ((u / 2 : Nat) : Int) by omega, or64 (by omega) (by omega)]
    exact round_calls _ (by omega) w
   have hr : FP.roundU (u / 2 ||| u % 2) < 2 ^ 53 := by unfold FP.roundU; omega
   refine Calls.mono (R := fun e1 w' => e1 = .returned (.tuple #[.float .f64 (FP.wordOf s (FP.packN (FP.roundU (u / 2 ||| u % 2)) (1 - FP.parseE b p))), errOf (FP.packN (FP.roundU (u / 2 ||| u % 2)) (1 - FP.parseE b p))]) ∧ Below w.heap.size w w') ?_ (fun e w' h => ⟨⟨_, hn, h.1⟩, h.2⟩)
   by_cases c2 : 1074 ≤ 53 - (b : Int) - FP.lg10 p
   ·exact parse_high0 d b p _ _ _ S s w hdb1 hb0 hb1 hp0 hp1 hl0 hl1 hp hsz c2 (by omega) LEN LOG (decide_eq_false (by omega)) x u _ _ hS0 hS1 hxw USC (decide_eq_true (by omega)) hr (by omega) (by omega) (by omega) RND
   ·exact parse_high1 d b p _ _ _ S s w hdb1 hb0 hb1 hp0 hp1 hl0 hl1 hp hsz (by omega) (by omega) LEN LOG (decide_eq_false (by omega)) x u _ _ hS0 hS1 hxw USC (decide_eq_true (by omega)) hr (by omega) (by omega) (by omega) RND
  ·rw [if_neg cu] at hn
   have hv : u ||| u % 2 = u := by
    rcases Nat.mod_two_eq_zero_or_one u with h | h <;> rw [h]
    ·simp
    ·rw [FP.or_one, if_pos h]
   have RND : ∀ w, Calls Tryz.prog 121 #[.int .u64 (Go.bits .or .u64 (u : Int) (Go.bits .and .u64 (u : Int) 1))] w fun e1 w' => e1 = .returned (.int .u64 ((FP.roundU u : Nat) : Int)) ∧ w' = w := by
    intro w
    rw [hand, or64 (by omega) (by omega), hv]
    exact round_calls _ (by omega) w
   have hr : FP.roundU u < 2 ^ 53 := by unfold FP.roundU; omega
   refine Calls.mono (R := fun e1 w' => e1 = .returned (.tuple #[.float .f64 (FP.wordOf s (FP.packN (FP.roundU u) (-FP.parseE b p))), errOf (FP.packN (FP.roundU u) (-FP.parseE b p))]) ∧ Below w.heap.size w w') ?_ (fun e w' h => ⟨⟨_, hn, h.1⟩, h.2⟩)
   by_cases c2 : 1074 ≤ 53 - (b : Int) - FP.lg10 p
   ·exact parse_low0 d b p _ _ _ S s w hdb1 hb0 hb1 hp0 hp1 hl0 hl1 hp hsz c2 (by omega) LEN LOG (decide_eq_false (by omega)) x u _ _ hS0 hS1 hxw USC (decide_eq_false (by omega)) hr (by omega) (by omega) (by omega) RND
   ·exact parse_low1 d b p _ _ _ S s w hdb1 hb0 hb1 hp0 hp1 hl0 hl1 hp hsz (by omega) (by omega) LEN LOG (decide_eq_false (by omega)) x u _ _ hS0 hS1 hxw USC (decide_eq_false (by omega)) hr (by omega) (by omega) (by omega) RND
end Go.Proofs.YtbimfhaokgigkaaGreatDoor
