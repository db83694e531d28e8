/- Walks of functions of FnJpGetFloat (B8, B9); conditions stand ahead of each theorem. -/
import Derived.Test.YtbimfhaokgigkaaGreatDoorT10
import Derived.Test.YtbimfhaokgigkaaGreatDoorT03
import Derived.Handy
import Derived.Deep.LoopGhost
import Derived.Test.YtbimfhaokgigkaaGreatDoorT11
set_option linter.unusedVariables false
set_option linter.unusedSimpArgs false
set_option maxRecDepth 1000000
set_option maxHeartbeats 1000000
namespace Go.Proofs.YtbimfhaokgigkaaGreatDoor
open Go.RowKit Go.Proofs.YtbimfhaokgigkaaGreatDoorW.PrintWords Go.Proofs.YtbimfhaokgigkaaGreatDoorW.PrintLast
noncomputable def rsB1 : Code := loopOf Tryz.f129 0
noncomputable def rsB1i : Code := ((loopsOf rsB1)[0]?).getD .skip
noncomputable def rsB2 : Code := loopOf Tryz.f129 1
noncomputable def rsB3 : Code := loopOf Tryz.f129 2
def hfr (v0 v1 v4 v5 v6 v8 : Value) (u : Nat → Value) : Array Value := #[v0, v1, u 2, u 3, v4, v5, v6, u 7, v8, u 9, u 10, u 11, u 12, u 13, u 14, u 15, u 16, u 17, u 18, u 19, u 20, u 21, u 22, u 23, u 24, u 25, u 26, u 27, u 28, u 29, u 30, u 31, u 32, u 33, u 34, u 35, u 36, u 37, u 38, u 39, u 40, u 41, u 42, u 43, u 44, u 45, u 46, u 47, u 48, u 49, u 50, u 51, u 52, u 53, u 54, u 55, u 56, u 57, u 58, u 59, u 60, u 61, u 62, u 63, u 64, u 65, u 66, u 67, u 68, u 69, u 70, u 71, u 72, u 73, u 74, u 75, u 76, u 77, u 78, u 79, u 80, u 81, u 82, u 83, u 84, u 85, u 86, u 87, u 88, u 89, u 90, u 91, u 92, u 93, u 94, u 95, u 96, u 97, u 98, u 99, u 100, u 101, u 102, u 103, u 104, u 105, u 106, u 107, u 108, u 109, u 110, u 111, u 112, u 113, u 114, u 115, u 116, u 117, u 118, u 119, u 120, u 121, u 122, u 123, u 124, u 125, u 126, u 127, u 128, u 129]
section
variable {w : World} {g : Nat} {d : Nat → Nat} {nd : Nat} {dp : Int} {neg tr : Bool}
theorem shr_zero {n k : Nat} (h : n < 2 ^ k) : ((n : Int) / 2 ^ k == 0) = true := by
 rw [beq_iff_eq]
 have : (n : Int) / 2 ^ k = ((n / 2 ^ k : Nat) : Int) := by rw [Int.natCast_ediv, Int.natCast_pow]; rfl
 rw [this, Nat.div_eq_of_lt h]; rfl
theorem shr_some {n k : Nat} (h : 2 ^ k ≤ n) : ((n : Int) / 2 ^ k == 0) = false := by
 rw [beq_eq_false_iff_ne]
 have : (n : Int) / 2 ^ k = ((n / 2 ^ k : Nat) : Int) := by rw [Int.natCast_ediv, Int.natCast_pow]; rfl
 rw [this]
 have := (Nat.le_div_iff_mul_le (Nat.two_pow_pos k)).mpr (show 1 * 2 ^ k ≤ n by omega)
 omega
theorem rs1_take (h : Dec w g d nd dp neg tr) (k r n : Nat) (hk : k ≤ 60) (hn : n < 2 ^ k) (hr : r < nd) (hnd : nd ≤ 800) (hc0 : 48 ≤ d r) (hc1 : d r ≤ 57) (mask : Value)
  (u : Nat → Value) (I : Act → World → Prop) (Q : Exit → Act → World → Prop)
  (hI : ∀ a, a = ⟨hfr (.pointer (some ⟨g, 0, none⟩)) (.int .u64 (k : Int)) (.int .i64 ((r : Int) + 1)) (.int .i64 0) (.int .u64 ((n : Int) * 10 + (d r : Int) - 48)) mask (fun n => a.tmps.getD n undef), []⟩ → I a w) :
  Code.wp Tryz.prog rsB1 (Exit.then I Q) ⟨hfr (.pointer (some ⟨g, 0, none⟩)) (.int .u64 (k : Int)) (.int .i64 (r : Int)) (.int .i64 0) (.int .u64 (n : Int)) mask u, []⟩ w := by
 have tz := shr_zero hn
 have hk60 : 2 ^ k ≤ 2 ^ 60 := Nat.pow_le_pow_right (by omega) hk
 have hn60 : (n : Int) ≤ 1152921504606846976 := by omega
 have cr := h.cell (i := r) (by omega)
 have cn := h.cnd
 have hr8 : (r : Int) < 800 := by omega
 have q0 : 48 ≤ (d r : Int) := by omega
 have q1 : (d r : Int) ≤ 57 := by omega
 have t1 : decide (nd ≤ r) = false := dF
 have t2 : decide ((nd : Int) ≤ (r : Int)) = false := dF
 clear h hk60 hn hr
 have HI := az hI
 clear hI
 unfold hfr
 conv => arg 2; whnf
 go_wp2_with fail
 exact HI.out _ rfl
theorem rs1_out  (k r n : Nat) (hk : k ≤ 60) (hn : 2 ^ k ≤ n) (mask : Value)
  (u : Nat → Value) (I : Act → World → Prop) (Q : Exit → Act → World → Prop)
  (hI : ∀ a, a = ⟨hfr (.pointer (some ⟨g, 0, none⟩)) (.int .u64 (k : Int)) (.int .i64 (r : Int)) (.int .i64 0) (.int .u64 (n : Int)) mask (fun n => a.tmps.getD n undef), []⟩ → Q (.exit 0) a w) :
  Code.wp Tryz.prog rsB1 (Exit.then I Q) ⟨hfr (.pointer (some ⟨g, 0, none⟩)) (.int .u64 (k : Int)) (.int .i64 (r : Int)) (.int .i64 0) (.int .u64 (n : Int)) mask u, []⟩ w := by
 have tz := shr_some hn
 clear hn
 have HI := az hI
 clear hI
 unfold hfr
 conv => arg 2; whnf
 go_wp2_with fail
 exact HI.out _ rfl
theorem rs1i_step  (k r n : Nat) (hk : k ≤ 60) (hn : n < 2 ^ k) (hr8 : (r : Int) < 10000) (mask : Value)
  (u : Nat → Value) (I : Act → World → Prop) (Q : Exit → Act → World → Prop)
  (hI : ∀ a, a = ⟨hfr (.pointer (some ⟨g, 0, none⟩)) (.int .u64 (k : Int)) (.int .i64 ((r : Int) + 1)) (.int .i64 0) (.int .u64 ((n : Int) * 10)) mask (fun n => a.tmps.getD n undef), []⟩ → I a w) :
  Code.wp Tryz.prog rsB1i (Exit.then I Q) ⟨hfr (.pointer (some ⟨g, 0, none⟩)) (.int .u64 (k : Int)) (.int .i64 (r : Int)) (.int .i64 0) (.int .u64 (n : Int)) mask u, []⟩ w := by
 have tz := shr_zero hn
 have hk60 : 2 ^ k ≤ 2 ^ 60 := Nat.pow_le_pow_right (by omega) hk
 have hn60 : (n : Int) ≤ 1152921504606846976 := by omega
 clear hk60 hn
 have HI := az hI
 clear hI
 unfold hfr
 conv => arg 2; whnf
 go_wp2_with fail
 exact HI.out _ rfl
theorem rs1i_out  (k r n : Nat) (hk : k ≤ 60) (hn : 2 ^ k ≤ n) (mask : Value)
  (u : Nat → Value) (I : Act → World → Prop) (Q : Exit → Act → World → Prop)
  (hI : ∀ a, a = ⟨hfr (.pointer (some ⟨g, 0, none⟩)) (.int .u64 (k : Int)) (.int .i64 (r : Int)) (.int .i64 0) (.int .u64 (n : Int)) mask (fun n => a.tmps.getD n undef), []⟩ → Q (.exit 2) a w) :
  Code.wp Tryz.prog rsB1i (Exit.then I Q) ⟨hfr (.pointer (some ⟨g, 0, none⟩)) (.int .u64 (k : Int)) (.int .i64 (r : Int)) (.int .i64 0) (.int .u64 (n : Int)) mask u, []⟩ w := by
 have tz := shr_some hn
 clear hn
 have HI := az hI
 clear hI
 unfold hfr
 conv => arg 2; whnf
 go_wp2_with fail
 exact HI.out _ rfl
theorem rs1i_loop (k : Nat) (hk : k ≤ 60) (nd n0 : Nat) (hnd : nd ≤ 800) (hn0 : 1 ≤ n0) (mask : Value) {Q : Exit → Act → World → Prop}
  (hQ : ∀ a N R, FP.padUp (2 ^ k) (2 ^ k) n0 nd = (N, R) → R ≤ 900 → nd ≤ R → 2 ^ k ≤ N → a = ⟨hfr (.pointer (some ⟨g, 0, none⟩)) (.int .u64 (k : Int)) (.int .i64 (R : Int)) (.int .i64 0) (.int .u64 (N : Int)) mask (fun n => a.tmps.getD n undef), []⟩ → Q (.exit 2) a w)
  {c : Code} {a : Act} (hc : rsB1i = c) (ha : a = ⟨hfr (.pointer (some ⟨g, 0, none⟩)) (.int .u64 (k : Int)) (.int .i64 (nd : Int)) (.int .i64 0) (.int .u64 (n0 : Int)) mask (fun n => a.tmps.getD n undef), []⟩) :
  Code.wp Tryz.prog (.loop c) Q a w := by
 subst hc
 have hk60 : 2 ^ k ≤ 2 ^ 60 := Nat.pow_le_pow_right (by omega) hk
 refine wp_loop_ghost (fun f a w' => w' = w ∧ ∃ (n j : Nat) (u : Nat → Value), a = ⟨hfr (.pointer (some ⟨g, 0, none⟩)) (.int .u64 (k : Int)) (.int .i64 ((nd + j : Nat) : Int)) (.int .i64 0) (.int .u64 (n : Int)) mask u, []⟩ ∧ FP.padUp (2 ^ k) f n (nd + j) = FP.padUp (2 ^ k) (2 ^ k) n0 nd ∧ 2 ^ k ≤ n + f ∧ 10 ^ j ≤ n ∧ j ≤ 20) (2 ^ k) ⟨rfl, n0, 0, _, ha, rfl, by omega, by simpa using hn0, by omega⟩ ?_
 rintro f a w' ⟨rfl, n, j, u, rfl, h1, h2, h3, h4⟩
 have hn1 : 1 ≤ n := Nat.le_trans (Nat.pow_pos (by omega)) h3
 by_cases c : n < 2 ^ k
 ·obtain ⟨f, rfl⟩ : ∃ f', f = f' + 1 := ⟨f - 1, by omega⟩
  rw [FP.padUp_step c] at h1
  have hj : j < 19 := by
   have h5 : 10 ^ j < 10 ^ 19 := by omega
   exact (Nat.pow_lt_pow_iff_right (show 1 < 10 by omega)).mp h5
  refine rs1i_step k (nd + j) n hk c (by omega) mask u _ _ fun a ha => ⟨f, by omega, rfl, 10 * n, j + 1, (fun n => a.tmps.getD n undef), ?_, h1, by omega, by rw [Nat.pow_succ]; omega, by omega⟩
  rw [show ((nd + (j + 1) : Nat) : Int) = ((nd + j : Nat) : Int) + 1 by omega, show ((10 * n : Nat) : Int) = (n : Int) * 10 by omega]
  exact ha
 ·rw [FP.padUp_stop (by omega)] at h1
  exact rs1i_out k (nd + j) n hk (by omega) mask u _ _ fun a ha => hQ a n (nd + j) h1.symm (by omega) (by omega) (by omega) ha
theorem rs1_pad (h : Dec w g d nd dp neg tr) (k n : Nat) (hk : k ≤ 60) (hn : n < 2 ^ k) (hn1 : 1 ≤ n) (hnd : nd ≤ 800) (mask : Value)
  (u : Nat → Value) (I : Act → World → Prop) (Q : Exit → Act → World → Prop)
  (hI : ∀ a N R, FP.padUp (2 ^ k) (2 ^ k) n nd = (N, R) → R ≤ 900 → nd ≤ R → 2 ^ k ≤ N → a = ⟨hfr (.pointer (some ⟨g, 0, none⟩)) (.int .u64 (k : Int)) (.int .i64 (R : Int)) (.int .i64 0) (.int .u64 (N : Int)) mask (fun n => a.tmps.getD n undef), []⟩ → Q (.exit 0) a w) :
  Code.wp Tryz.prog rsB1 (Exit.then I Q) ⟨hfr (.pointer (some ⟨g, 0, none⟩)) (.int .u64 (k : Int)) (.int .i64 (nd : Int)) (.int .i64 0) (.int .u64 (n : Int)) mask u, []⟩ w := by
 have tz := shr_zero hn
 have hk60 : 2 ^ k ≤ 2 ^ 60 := Nat.pow_le_pow_right (by omega) hk
 have hn60 : (n : Int) ≤ 1152921504606846976 := by omega
 have cn := h.cnd
 have t1 : decide (nd ≤ nd) = true := dT
 have t2 : decide ((nd : Int) ≤ (nd : Int)) = true := dT
 have te : ((n : Int) == 0) = false := bF
 have HN1 := az hn1
 clear h hk60 hn hn1
 have HI := az hI
 clear hI
 unfold hfr
 conv => arg 2; whnf
 go_wp2_with fail
 refine rs1i_loop (g := g) k hk nd n hnd HN1.out mask ?_ (by kernel_rfl) rfl
 intro a N R h1 h2 h3 h4 ha
 rw [ha]
 simp only [Exit.inBlock, Exit.then, ↓reduceIte]
 go_wp2_with fail
 exact HI.out _ N R h1 h2 h3 h4 rfl
theorem rs1_loop {ds : List Nat} (h : Dec w g d ds.length dp neg tr) (hL : FP.Lst d ds) (hd : ∀ x ∈ ds, x < 10) (hl : ds.length ≤ 800) (hz : 1 ≤ FP.num ds) (k : Nat) (hk : k ≤ 60) (mask : Value) {Q : Exit → Act → World → Prop}
  (hQ : ∀ a N R, FP.takeUp (2 ^ k) ds 0 0 = (N, ds.drop R, R) → R ≤ 900 → a = ⟨hfr (.pointer (some ⟨g, 0, none⟩)) (.int .u64 (k : Int)) (.int .i64 (R : Int)) (.int .i64 0) (.int .u64 (N : Int)) mask (fun n => a.tmps.getD n undef), []⟩ → Q (.exit 0) a w)
  {c : Code} {a : Act} (hc : rsB1 = c) (ha : a = ⟨hfr (.pointer (some ⟨g, 0, none⟩)) (.int .u64 (k : Int)) (.int .i64 0) (.int .i64 0) (.int .u64 0) mask (fun n => a.tmps.getD n undef), []⟩) :
  Code.wp Tryz.prog (.loop c) Q a w := by
 subst hc
 refine wp_loop_ghost (fun f a w' => w' = w ∧ ∃ (n r : Nat) (u : Nat → Value), a = ⟨hfr (.pointer (some ⟨g, 0, none⟩)) (.int .u64 (k : Int)) (.int .i64 (r : Int)) (.int .i64 0) (.int .u64 (n : Int)) mask u, []⟩ ∧ FP.takeUp (2 ^ k) (ds.drop r) n r = FP.takeUp (2 ^ k) ds 0 0 ∧ f = ds.length - r ∧ r ≤ ds.length ∧ 1 ≤ n * 10 ^ (ds.length - r) + FP.num (ds.drop r)) ds.length ⟨rfl, 0, 0, _, ha, rfl, by omega, by omega, by simpa using hz⟩ ?_
 rintro f a w' ⟨rfl, n, r, u, rfl, h1, h2, h3, h4⟩
 by_cases c : n < 2 ^ k
 ·by_cases hr : r < ds.length
  ·have hdr := hL r hr
   have hlt : ds.getD r 0 < 10 := by
    rw [List.getD_eq_getElem?_getD, List.getElem?_eq_getElem (by omega)]
    exact hd _ (List.getElem_mem _)
   rw [FP.takeUp_step c ds r hr] at h1
   refine rs1_take h k r n hk c hr hl (by omega) (by omega) mask u _ _ fun a ha => ⟨ds.length - (r + 1), by omega, rfl, _, r + 1, (fun n => a.tmps.getD n undef), ?_, h1, rfl, by omega, FP.take_pos ds r hr h4⟩
   rw [show ((r + 1 : Nat) : Int) = (r : Int) + 1 by omega, show ((10 * n + ds.getD r 0 : Nat) : Int) = (n : Int) * 10 + (d r : Int) - 48 by rw [hdr]; omega]
   exact ha
  ·obtain rfl : r = ds.length := by omega
   rw [List.drop_length, FP.num_nil, Nat.sub_self] at h4
   refine rs1_pad h k n hk c (by omega) hl mask u _ _ fun a N R e1 e2 e3 e4 ha => hQ a N R ?_ e2 ha
   rw [← h1, FP.takeUp_end, e1, List.drop_of_length_le e3]
 ·rw [FP.takeUp_stop (by omega)] at h1
  exact rs1_out k r n hk (by omega) mask u _ _ fun a ha => hQ a n r h1.symm (by omega) ha
theorem shr_dig {n k : Nat} : (n : Int) / 2 ^ k = ((n / 2 ^ k : Nat) : Int) := by rw [Int.natCast_ediv, Int.natCast_pow]; rfl
theorem and_mask {n k : Nat} (hk : k ≤ 60) (hn : n < 2 ^ 64) : Go.bits .and .u64 (n : Int) (2 ^ k - 1) = ((n % 2 ^ k : Nat) : Int) := by
 rw [mask64 k (by omega) (by omega) (by omega), Int.natCast_emod, Int.natCast_pow]; rfl
theorem rs2_step (h : Dec w g d nd dp neg tr) (k r W n : Nat) (hk : k ≤ 60) (hn : n < 10 * 2 ^ k) (hr : r < nd) (hW : W < 800) (hnd : nd ≤ 800) (hc0 : 48 ≤ d r) (hc1 : d r ≤ 57)
  (u : Nat → Value) (I : Act → World → Prop) (Q : Exit → Act → World → Prop)
  (hI : ∀ a, a = ⟨hfr (.pointer (some ⟨g, 0, none⟩)) (.int .u64 (k : Int)) (.int .i64 ((r : Int) + 1)) (.int .i64 ((W : Int) + 1)) (.int .u64 (((n % 2 ^ k : Nat) : Int) * 10 + (d r : Int) - 48)) (.int .u64 (2 ^ k - 1)) (fun n => a.tmps.getD n undef), []⟩ → I a (w.setCell ⟨g, W, none⟩ (.int .u8 (((n / 2 ^ k : Nat) : Int) + 48)))) :
  Code.wp Tryz.prog rsB2 (Exit.then I Q) ⟨hfr (.pointer (some ⟨g, 0, none⟩)) (.int .u64 (k : Int)) (.int .i64 (r : Int)) (.int .i64 (W : Int)) (.int .u64 (n : Int)) (.int .u64 (2 ^ k - 1)) u, []⟩ w := by
 have hM := Nat.two_pow_pos k
 have hk60 : 2 ^ k ≤ 2 ^ 60 := Nat.pow_le_pow_right (by omega) hk
 have hm := Nat.mod_lt n hM
 have hq : n / 2 ^ k < 10 := by rw [Nat.div_lt_iff_lt_mul hM]; exact hn
 have EA := and_mask hk (show n < 2 ^ 64 by omega)
 have ED := shr_dig (n := n) (k := k)
 obtain ⟨m, hm0⟩ : ∃ m, m = n % 2 ^ k := ⟨_, rfl⟩
 obtain ⟨q, hq0⟩ : ∃ q, q = n / 2 ^ k := ⟨_, rfl⟩
 rw [← hm0] at EA hm hI
 rw [← hq0] at ED hq
 try rw [← hq0] at hI
 have hm6 : (m : Int) ≤ 1152921504606846976 := by omega
 have hq6 : (q : Int) ≤ 9 := by omega
 obtain ⟨mk, hmk⟩ : ∃ mk : Int, mk = 2 ^ k - 1 := ⟨_, rfl⟩
 rw [← hmk] at EA hI ⊢
 have cr := h.cell (i := r) (by omega)
 have cW := h.cell (i := W) hW
 have fW := h.frozen W
 have cn := h.cnd
 have hr8 : (r : Int) < 800 := by omega
 have hW8 : (W : Int) < 800 := by omega
 have q0 : 48 ≤ (d r : Int) := by omega
 have q1 : (d r : Int) ≤ 57 := by omega
 have t1 : decide (r < nd) = true := dT
 have t2 : decide ((r : Int) < (nd : Int)) = true := dT
 clear h hk60 hn hr hm hM hm0 hq0 hmk hq
 have HI := az hI
 clear hI
 unfold hfr
 conv => arg 2; whnf
 go_wp2_with fail
 exact HI.out _ rfl
theorem rs2_out (h : Dec w g d nd dp neg tr) (k r : Nat) (p5 p6 : Int) (mask : Value) (hr : nd ≤ r)
  (u : Nat → Value) (I : Act → World → Prop) (Q : Exit → Act → World → Prop)
  (hI : ∀ a, a = ⟨hfr (.pointer (some ⟨g, 0, none⟩)) (.int .u64 (k : Int)) (.int .i64 (r : Int)) (.int .i64 p5) (.int .u64 p6) mask (fun n => a.tmps.getD n undef), []⟩ → Q (.exit 4) a w) :
  Code.wp Tryz.prog rsB2 (Exit.then I Q) ⟨hfr (.pointer (some ⟨g, 0, none⟩)) (.int .u64 (k : Int)) (.int .i64 (r : Int)) (.int .i64 p5) (.int .u64 p6) mask u, []⟩ w := by
 have cn := h.cnd
 have t1 : decide (r < nd) = false := dF
 have t2 : decide ((r : Int) < (nd : Int)) = false := dF
 clear h hr
 have HI := az hI
 clear hI
 unfold hfr
 conv => arg 2; whnf
 go_wp2_with fail
 exact HI.out _ rfl
theorem rs3_in (h : Dec w g d nd dp neg tr) (k W n : Nat) (p4 : Int) (hk : k ≤ 60) (hn : n < 10 * 2 ^ k) (hn0 : n ≠ 0) (hW : W < 800)
  (u : Nat → Value) (I : Act → World → Prop) (Q : Exit → Act → World → Prop)
  (hI : ∀ a, a = ⟨hfr (.pointer (some ⟨g, 0, none⟩)) (.int .u64 (k : Int)) (.int .i64 p4) (.int .i64 ((W : Int) + 1)) (.int .u64 (((n % 2 ^ k : Nat) : Int) * 10)) (.int .u64 (2 ^ k - 1)) (fun n => a.tmps.getD n undef), []⟩ → I a (w.setCell ⟨g, W, none⟩ (.int .u8 (((n / 2 ^ k : Nat) : Int) + 48)))) :
  Code.wp Tryz.prog rsB3 (Exit.then I Q) ⟨hfr (.pointer (some ⟨g, 0, none⟩)) (.int .u64 (k : Int)) (.int .i64 p4) (.int .i64 (W : Int)) (.int .u64 (n : Int)) (.int .u64 (2 ^ k - 1)) u, []⟩ w := by
 have hM := Nat.two_pow_pos k
 have hk60 : 2 ^ k ≤ 2 ^ 60 := Nat.pow_le_pow_right (by omega) hk
 have hm := Nat.mod_lt n hM
 have hq : n / 2 ^ k < 10 := by rw [Nat.div_lt_iff_lt_mul hM]; exact hn
 have EA := and_mask hk (show n < 2 ^ 64 by omega)
 have ED := shr_dig (n := n) (k := k)
 obtain ⟨m, hm0⟩ : ∃ m, m = n % 2 ^ k := ⟨_, rfl⟩
 obtain ⟨q, hq0⟩ : ∃ q, q = n / 2 ^ k := ⟨_, rfl⟩
 rw [← hm0] at EA hm hI
 rw [← hq0] at ED hq
 try rw [← hq0] at hI
 have hm6 : (m : Int) ≤ 1152921504606846976 := by omega
 have hq6 : (q : Int) ≤ 9 := by omega
 obtain ⟨mk, hmk⟩ : ∃ mk : Int, mk = 2 ^ k - 1 := ⟨_, rfl⟩
 rw [← hmk] at EA hI ⊢
 have tn : decide (0 < (n : Int)) = true := dT
 have tnn : decide (0 < n) = true := dT
 have cW := h.cell (i := W) hW
 have fW := h.frozen W
 have hW8 : (W : Int) < 800 := by omega
 have t1 : decide (W < 800) = true := dT
 have t2 : decide ((W : Int) < 800) = true := dT
 clear h hk60 hn hn0 hm hM hm0 hq0 hmk hq
 have HI := az hI
 clear hI
 unfold hfr
 conv => arg 2; whnf
 go_wp2_with fail
 exact HI.out _ rfl
theorem rs3_lost (h : Dec w g d nd dp neg tr) (k n : Nat) (p4 : Int) (hk : k ≤ 60) (hn : n < 10 * 2 ^ k) (hn0 : n ≠ 0) (hx : n / 2 ^ k ≠ 0)
  (u : Nat → Value) (I : Act → World → Prop) (Q : Exit → Act → World → Prop)
  (hI : ∀ a, a = ⟨hfr (.pointer (some ⟨g, 0, none⟩)) (.int .u64 (k : Int)) (.int .i64 p4) (.int .i64 800) (.int .u64 (((n % 2 ^ k : Nat) : Int) * 10)) (.int .u64 (2 ^ k - 1)) (fun n => a.tmps.getD n undef), []⟩ → I a (w.setCell ⟨g, 803, none⟩ (.bool true))) :
  Code.wp Tryz.prog rsB3 (Exit.then I Q) ⟨hfr (.pointer (some ⟨g, 0, none⟩)) (.int .u64 (k : Int)) (.int .i64 p4) (.int .i64 800) (.int .u64 (n : Int)) (.int .u64 (2 ^ k - 1)) u, []⟩ w := by
 have hM := Nat.two_pow_pos k
 have hk60 : 2 ^ k ≤ 2 ^ 60 := Nat.pow_le_pow_right (by omega) hk
 have hm := Nat.mod_lt n hM
 have hq : n / 2 ^ k < 10 := by rw [Nat.div_lt_iff_lt_mul hM]; exact hn
 have EA := and_mask hk (show n < 2 ^ 64 by omega)
 have ED := shr_dig (n := n) (k := k)
 obtain ⟨m, hm0⟩ : ∃ m, m = n % 2 ^ k := ⟨_, rfl⟩
 obtain ⟨q, hq0⟩ : ∃ q, q = n / 2 ^ k := ⟨_, rfl⟩
 rw [← hm0] at EA hm hI
 rw [← hq0] at ED hq
 try rw [← hq0] at hI
 have hm6 : (m : Int) ≤ 1152921504606846976 := by omega
 have hq6 : (q : Int) ≤ 9 := by omega
 obtain ⟨mk, hmk⟩ : ∃ mk : Int, mk = 2 ^ k - 1 := ⟨_, rfl⟩
 rw [← hmk] at EA hI ⊢
 have tn : decide (0 < (n : Int)) = true := dT
 have tnn : decide (0 < n) = true := dT
 have ct := h.ctr
 have ft := h.frozen 803
 have tq : decide (0 < (q : Int)) = true := dT
 have tqn : decide (0 < q) = true := dT
 clear h hk60 hn hn0 hm hM hx hm0 hq0 hmk hq
 have HI := az hI
 clear hI
 unfold hfr
 conv => arg 2; whnf
 go_wp2_with fail
 exact HI.out _ rfl
theorem rs3_zero (h : Dec w g d nd dp neg tr) (k n : Nat) (p4 : Int) (hk : k ≤ 60) (hn : n < 10 * 2 ^ k) (hn0 : n ≠ 0) (hx : n / 2 ^ k = 0)
  (u : Nat → Value) (I : Act → World → Prop) (Q : Exit → Act → World → Prop)
  (hI : ∀ a, a = ⟨hfr (.pointer (some ⟨g, 0, none⟩)) (.int .u64 (k : Int)) (.int .i64 p4) (.int .i64 800) (.int .u64 (((n % 2 ^ k : Nat) : Int) * 10)) (.int .u64 (2 ^ k - 1)) (fun n => a.tmps.getD n undef), []⟩ → I a w) :
  Code.wp Tryz.prog rsB3 (Exit.then I Q) ⟨hfr (.pointer (some ⟨g, 0, none⟩)) (.int .u64 (k : Int)) (.int .i64 p4) (.int .i64 800) (.int .u64 (n : Int)) (.int .u64 (2 ^ k - 1)) u, []⟩ w := by
 have hM := Nat.two_pow_pos k
 have hk60 : 2 ^ k ≤ 2 ^ 60 := Nat.pow_le_pow_right (by omega) hk
 have hm := Nat.mod_lt n hM
 have hq : n / 2 ^ k < 10 := by rw [Nat.div_lt_iff_lt_mul hM]; exact hn
 have EA := and_mask hk (show n < 2 ^ 64 by omega)
 have ED := shr_dig (n := n) (k := k)
 obtain ⟨m, hm0⟩ : ∃ m, m = n % 2 ^ k := ⟨_, rfl⟩
 obtain ⟨q, hq0⟩ : ∃ q, q = n / 2 ^ k := ⟨_, rfl⟩
 rw [← hm0] at EA hm hI
 rw [← hq0] at ED hq
 try rw [← hq0] at hI
 have hm6 : (m : Int) ≤ 1152921504606846976 := by omega
 have hq6 : (q : Int) ≤ 9 := by omega
 obtain ⟨mk, hmk⟩ : ∃ mk : Int, mk = 2 ^ k - 1 := ⟨_, rfl⟩
 rw [← hmk] at EA hI ⊢
 have tn : decide (0 < (n : Int)) = true := dT
 have tnn : decide (0 < n) = true := dT
 have tq : decide (0 < (q : Int)) = false := dF
 have tqn : decide (0 < q) = false := dF
 clear h hk60 hn hn0 hm hM hx hm0 hq0 hmk hq
 have HI := az hI
 clear hI
 unfold hfr
 conv => arg 2; whnf
 go_wp2_with fail
 exact HI.out _ rfl
theorem rs3_out  (k : Nat) (p4 p5 : Int) (mask : Value)
  (u : Nat → Value) (I : Act → World → Prop) (Q : Exit → Act → World → Prop)
  (hI : ∀ a, a = ⟨hfr (.pointer (some ⟨g, 0, none⟩)) (.int .u64 (k : Int)) (.int .i64 p4) (.int .i64 p5) (.int .u64 0) mask (fun n => a.tmps.getD n undef), []⟩ → Q (.exit 6) a w) :
  Code.wp Tryz.prog rsB3 (Exit.then I Q) ⟨hfr (.pointer (some ⟨g, 0, none⟩)) (.int .u64 (k : Int)) (.int .i64 p4) (.int .i64 p5) (.int .u64 0) mask u, []⟩ w := by
 skip
 have HI := az hI
 clear hI
 unfold hfr
 conv => arg 2; whnf
 go_wp2_with fail
 exact HI.out _ rfl
end
section
variable {g : Nat} {dp : Int} {neg tr : Bool}
theorem rs2_loop {w0 : World} {d : Nat → Nat} {ds : List Nat} (h : Dec w0 g d ds.length dp neg tr) (hL : FP.Lst d ds) (hd : ∀ x ∈ ds, x < 10) (hl : ds.length ≤ 800) (k : Nat) (hk : k ≤ 60) (N R : Nat) (hN : N < 10 * 2 ^ k) {Q : Exit → Act → World → Prop}
  (hQ : ∀ a w' d' n O (p4 : Int), Dec w' g d' ds.length dp neg tr → FP.Placed d' 0 O → FP.rdiv (2 ^ k) (ds.drop R) N = (O, n) → n < 10 * 2 ^ k → O.length ≤ 800 → Only g w0 w' → a = ⟨hfr (.pointer (some ⟨g, 0, none⟩)) (.int .u64 (k : Int)) (.int .i64 p4) (.int .i64 (O.length : Int)) (.int .u64 (n : Int)) (.int .u64 (2 ^ k - 1)) (fun n => a.tmps.getD n undef), []⟩ → Q (.exit 4) a w')
  {c : Code} {a : Act} (hc : rsB2 = c) (ha : a = ⟨hfr (.pointer (some ⟨g, 0, none⟩)) (.int .u64 (k : Int)) (.int .i64 (R : Int)) (.int .i64 0) (.int .u64 (N : Int)) (.int .u64 (2 ^ k - 1)) (fun n => a.tmps.getD n undef), []⟩) :
  Code.wp Tryz.prog (.loop c) Q a w0 := by
 subst hc
 have hM := Nat.two_pow_pos k
 refine wp_loop_ghost (fun f a w => ∃ (r n : Nat) (O : List Nat) (d' : Nat → Nat) (u : Nat → Value), a = ⟨hfr (.pointer (some ⟨g, 0, none⟩)) (.int .u64 (k : Int)) (.int .i64 (r : Int)) (.int .i64 (O.length : Int)) (.int .u64 (n : Int)) (.int .u64 (2 ^ k - 1)) u, []⟩ ∧ f = ds.length - r ∧ R + O.length = r ∧ Dec w g d' ds.length dp neg tr ∧ (∀ i, r ≤ i → i < ds.length → d' i = ds.getD i 0 + 48) ∧ FP.Placed d' 0 O ∧
  O ++ (FP.rdiv (2 ^ k) (ds.drop r) n).1 = (FP.rdiv (2 ^ k) (ds.drop R) N).1 ∧ (FP.rdiv (2 ^ k) (ds.drop r) n).2 = (FP.rdiv (2 ^ k) (ds.drop R) N).2 ∧ n < 10 * 2 ^ k ∧ Only g w0 w ∧ O.length ≤ 800) (ds.length - R)
  ⟨R, N, [], d, _, ha, rfl, rfl, h, fun i _ hi => hL i hi, FP.Placed.nil _ _, rfl, rfl, hN, Only.refl _ _, by simp⟩ ?_
 rintro f a w ⟨r, n, O, d', u, rfl, h1, h2, h3, h4, h5, h6, h7, h8, h9, h10⟩
 by_cases hr : r < ds.length
 ·have hdr := h4 r (Nat.le_refl _) hr
  have hlt : ds.getD r 0 < 10 := by
   rw [List.getD_eq_getElem?_getD, List.getElem?_eq_getElem (by omega)]
   exact hd _ (List.getElem_mem _)
  have hm := Nat.mod_lt n hM
  rw [FP.rdiv_step _ ds r n hr] at h6 h7
  simp only at h6 h7
  refine rs2_step h3 k r O.length n hk h8 hr (by omega) hl (by omega) (by omega) u _ _ fun a ha => ⟨ds.length - (r + 1), by omega, r + 1, n % 2 ^ k * 10 + ds.getD r 0, O ++ [n / 2 ^ k], _, (fun n => a.tmps.getD n undef), ?_, rfl, by simp; omega, h3.set_d (by omega) (n / 2 ^ k + 48), ?_, ?_, ?_, h7, by omega, h9.set _ _, by simp; omega⟩
  ·rw [show ((r + 1 : Nat) : Int) = (r : Int) + 1 by omega, show ((n % 2 ^ k * 10 + ds.getD r 0 : Nat) : Int) = ((n % 2 ^ k : Nat) : Int) * 10 + (d' r : Int) - 48 by rw [hdr]; omega, List.length_append, List.length_singleton, show ((O.length + 1 : Nat) : Int) = (O.length : Int) + 1 by omega]
   exact ha
  ·intro i hi1 hi2
   unfold upd
   rw [if_neg (by omega)]
   exact h4 i (by omega) hi2
  ·refine FP.Placed.snoc h5 (fun i hi => ?_) (fun _ => ?_)
   ·unfold upd; rw [if_neg hi]
   ·unfold upd; rw [if_pos rfl]
  ·rw [List.append_assoc]; exact h6
 ·rw [FP.rdiv_end _ _ _ (by omega)] at h6 h7
  simp only [List.append_nil] at h6 h7
  refine rs2_out h3 k r _ _ _ (by omega) u _ _ fun a ha => hQ a w d' n O _ h3 h5 ?_ h8 h10 h9 ha
  rw [h6, h7]
theorem rs3_loop {w0 : World} {nd : Nat} {d : Nat → Nat} (h : Dec w0 g d nd dp neg tr) (k : Nat) (hk : k ≤ 60) (N : Nat) (hN : N < 10 * 2 ^ k) (O : List Nat) (hO : O.length ≤ 800) (hP : FP.Placed d 0 O) (p4 : Int) {Q : Exit → Act → World → Prop}
  (hQ : ∀ a w' d' S, S = O ++ FP.rfin (2 ^ k) (k + 1) N → Dec w' g d' nd dp neg (tr || FP.lost 0 S) → FP.Placed d' 0 S → Only g w0 w' → a = ⟨hfr (.pointer (some ⟨g, 0, none⟩)) (.int .u64 (k : Int)) (.int .i64 p4) (.int .i64 ((min 800 S.length : Nat) : Int)) (.int .u64 0) (.int .u64 (2 ^ k - 1)) (fun n => a.tmps.getD n undef), []⟩ → Q (.exit 6) a w')
  {c : Code} {a : Act} (hc : rsB3 = c) (ha : a = ⟨hfr (.pointer (some ⟨g, 0, none⟩)) (.int .u64 (k : Int)) (.int .i64 p4) (.int .i64 (O.length : Int)) (.int .u64 (N : Int)) (.int .u64 (2 ^ k - 1)) (fun n => a.tmps.getD n undef), []⟩) :
  Code.wp Tryz.prog (.loop c) Q a w0 := by
 subst hc
 have hM := Nat.two_pow_pos k
 have hlost : FP.lost 0 O = false := by unfold FP.lost; rw [List.drop_of_length_le (by omega)]; rfl
 refine wp_loop_ghost (fun f a w => ∃ (n : Nat) (S : List Nat) (d' : Nat → Nat) (u : Nat → Value), a = ⟨hfr (.pointer (some ⟨g, 0, none⟩)) (.int .u64 (k : Int)) (.int .i64 p4) (.int .i64 ((min 800 S.length : Nat) : Int)) (.int .u64 (n : Int)) (.int .u64 (2 ^ k - 1)) u, []⟩ ∧ FP.Fin k f n ∧ n < 10 * 2 ^ k ∧ S ++ FP.rfin (2 ^ k) f n = O ++ FP.rfin (2 ^ k) (k + 1) N ∧
  Dec w g d' nd dp neg (tr || FP.lost 0 S) ∧ FP.Placed d' 0 S ∧ Only g w0 w) (k + 1)
  ⟨N, O, d, _, by rw [Nat.min_eq_right hO]; exact ha, FP.Fin.start k N, hN, rfl, by rw [hlost, Bool.or_false]; exact h, hP, Only.refl _ _⟩ ?_
 rintro f a w ⟨n, S, d', u, rfl, h1, h2, h3, h4, h5, h6⟩
 by_cases h0 : n = 0
 ·subst h0
  rw [FP.rfin_zero, List.append_nil] at h3
  exact rs3_out k p4 _ _ u _ _ fun a ha => hQ a w d' S h3 h4 h5 h6 ha
 ·obtain ⟨f, rfl, hf⟩ := h1.step h0
  rw [FP.rfin_step h0] at h3
  have hm := Nat.mod_lt n hM
  have h3' : (S ++ [n / 2 ^ k]) ++ FP.rfin (2 ^ k) f (n % 2 ^ k * 10) = O ++ FP.rfin (2 ^ k) (k + 1) N := by rw [List.append_assoc]; exact h3
  by_cases hS : S.length < 800
  ·rw [Nat.min_eq_right (by omega)]
   refine rs3_in h4 k S.length n p4 hk h2 h0 hS u _ _ fun a ha => ⟨f, by omega, n % 2 ^ k * 10, S ++ [n / 2 ^ k], _, (fun n => a.tmps.getD n undef), ?_, hf, by omega, h3', by rw [FP.lost_snoc_in hS]; exact h4.set_d hS (n / 2 ^ k + 48), ?_, h6.set _ _⟩
   ·rw [List.length_append, List.length_singleton, Nat.min_eq_right (by omega), show ((S.length + 1 : Nat) : Int) = (S.length : Int) + 1 by omega, show ((n % 2 ^ k * 10 : Nat) : Int) = ((n % 2 ^ k : Nat) : Int) * 10 by omega]
    exact ha
   ·refine FP.Placed.snoc h5 (fun i hi => ?_) (fun _ => ?_)
    ·unfold upd; rw [if_neg hi]
    ·unfold upd; rw [if_pos rfl]
  ·rw [Nat.min_eq_left (by omega)]
   have hfr : ∀ a : Act, a = ⟨hfr (.pointer (some ⟨g, 0, none⟩)) (.int .u64 (k : Int)) (.int .i64 p4) (.int .i64 800) (.int .u64 (((n % 2 ^ k : Nat) : Int) * 10)) (.int .u64 (2 ^ k - 1)) (fun n => a.tmps.getD n undef), []⟩ → a = ⟨hfr (.pointer (some ⟨g, 0, none⟩)) (.int .u64 (k : Int)) (.int .i64 p4) (.int .i64 ((min 800 (S ++ [n / 2 ^ k]).length : Nat) : Int)) (.int .u64 ((n % 2 ^ k * 10 : Nat) : Int)) (.int .u64 (2 ^ k - 1)) (fun n => a.tmps.getD n undef), []⟩ := by
    intro a ha
    rw [Nat.min_eq_left (by simp; omega), show ((n % 2 ^ k * 10 : Nat) : Int) = ((n % 2 ^ k : Nat) : Int) * 10 by omega]
    exact ha
   have hpl : FP.Placed d' 0 (S ++ [n / 2 ^ k]) := FP.Placed.snoc h5 (fun i hi => rfl) (fun h => absurd h hS)
   by_cases hx : n / 2 ^ k = 0
   ·refine rs3_zero h4 k n p4 hk h2 h0 hx u _ _ fun a ha => ⟨f, by omega, n % 2 ^ k * 10, S ++ [n / 2 ^ k], _, (fun n => a.tmps.getD n undef), hfr a ha, hf, by omega, h3', ?_, hpl, h6⟩
    rw [FP.lost_snoc_out (by omega), hx]
    simpa using h4
   ·refine rs3_lost h4 k n p4 hk h2 h0 hx u _ _ fun a ha => ⟨f, by omega, n % 2 ^ k * 10, S ++ [n / 2 ^ k], _, (fun n => a.tmps.getD n undef), hfr a ha, hf, by omega, h3', ?_, hpl, h6.set _ _⟩
    rw [FP.lost_snoc_out (by omega), decide_eq_true hx, Bool.or_true, Bool.or_true]
    exact h4.set_tr true
end
theorem _root_.FP.Lst.cast {d : Nat → Nat} {a b : List Nat} (h : FP.Lst d a) (e : a = b) : FP.Lst d b := e ▸ h
theorem mask_eq {k : Nat} (hk : k ≤ 60) : IntKind.u64.wrap (IntKind.u64.wrap (2 ^ k) - 1) = 2 ^ k - 1 := by
 have hM := Nat.two_pow_pos k
 have hk60 : 2 ^ k ≤ 2 ^ 60 := Nat.pow_le_pow_right (by omega) hk
 have e : (2 : Int) ^ k = ((2 ^ k : Nat) : Int) := by rw [Int.natCast_pow]; rfl
 rw [e]
 generalize 2 ^ k = M at *
 rw [wraps_u64 (M : Int) (by omega) (by omega), wraps_u64 _ (by omega) (by omega)]
theorem right_calls {w : World} {g : Nat} {ds : List Nat} {dp : Int} {neg tr : Bool} (h : DecL w g (ds, dp, tr) neg) (hd : ∀ x ∈ ds, x < 10) (hld : FP.Lead ds) (hl : ds.length ≤ 800)
  (k : Nat) (hk1 : 1 ≤ k) (hk : k ≤ 60) (hdp0 : -100000 ≤ dp) (hdp1 : dp ≤ 100000) :
  Calls Tryz.prog 129 #[.pointer (some ⟨g, 0, none⟩), .int .u64 (k : Int)] w fun e w' => e = .returned (.tuple #[]) ∧ DecL w' g (FP.shrD k (ds, dp, tr)) neg ∧ Only g w w' := by
 obtain ⟨d, h1, h2⟩ := h
 have hz := FP.lead_num hld
 have H := az (show Dec w g d ds.length dp neg tr from h1)
 have HL := az (show FP.Lst d ds from h2)
 have HD := az hd
 have HZ := az hz
 have EM := mask_eq hk
 have hk61 : (k : Int) ≤ 60 := by omega
 obtain ⟨mk, hmk⟩ : ∃ mk : Int, mk = 2 ^ k - 1 := ⟨_, rfl⟩
 rw [← hmk] at EM
 have HMK := az hmk
 obtain ⟨RR, hR⟩ : ∃ R, R = fun (e : Ending) (w' : World) => e = Ending.returned (.tuple #[]) ∧ DecL w' g (FP.shrD k (ds, dp, tr)) neg ∧ Only g w w' := ⟨_, rfl⟩
 rw [← hR]
 have HR := az hR
 have HTK := az (FP.takeUp_ok (M := 2 ^ k) ds 0 0 hd (by have := Nat.two_pow_pos k; omega) (by simpa using hz))
 clear h1 h2 hd hld hz hk1 hmk hR
 go_enter Tryz.func129, Tryz.ntmps129
 go_wp2_with fail
 refine rs1_loop (g := g) H.out HL.out HD.out hl HZ.out k hk _ ?_ (by kernel_rfl) rfl
 intro a N R hT hR9 ha
 rw [ha]
 clear ha
 unfold hfr
 simp only [Exit.inBlock, Exit.then, ↓reduceIte]
 have v1 := H.out.cdp
 have f1 := H.out.frozen 801
 have hR9i : (R : Int) ≤ 900 := by omega
 have HT := az hT
 clear hT
 go_wp2_with fail
 clear EM
 obtain rfl := HMK.out
 clear HMK v1 f1
 have hNN : N < 10 * 2 ^ k := by
  obtain ⟨z, _, _, _, _, e, _⟩ := HTK.out
  rw [HT.out] at e
  exact e
 refine rs2_loop (H.out.set_dp (dp - ((R : Int) - 1))) HL.out HD.out hl k hk N R hNN ?_ (by kernel_rfl) rfl
 intro a w2 d2 n2 O p4 g1 g2 g3 g4 g5 g6 ha
 rw [ha]
 clear ha
 unfold hfr
 simp only [Exit.inBlock, Exit.then, ↓reduceIte]
 have G1 := az g1
 have G3 := az g3
 have G6 := az g6
 clear g1 g3 g6
 go_wp2_with fail
 refine rs3_loop G1.out k hk n2 g4 O g5 g2 p4 ?_ (by kernel_rfl) rfl
 intro a w3 d3 S e1 e2 e3 e4 ha
 rw [ha]
 clear ha
 unfold hfr
 simp only [Exit.inBlock, Exit.then, ↓reduceIte]
 have v1 := e2.cnd
 have f1 := e2.frozen 800
 have hS : S = FP.rightD k ds := by
  unfold FP.rightD
  rw [HT.out]
  simp only
  rw [G3.out]
  exact e1
 have hRR : FP.rightR k ds = R := by unfold FP.rightR; rw [HT.out]
 have hr0 := FP.rightD_ok (k := k) HD.out HZ.out
 have hne : FP.trimZ (S.take 800) ≠ [] := by
  rw [hS]
  obtain ⟨x, t, hx, _⟩ := (show FP.Lead (FP.rightD k ds) from hr0.2.2).take_trim
  rw [hx]; simp
 have E2 := az e2
 have E4 := az e4
 have E3 := az e3
 have HS := az hS
 have HRR := az hRR
 have HNE := az hne
 clear e1 e2 e3 e4 hS hRR hne hr0 g2 g4 g5 hNN
 go_wp2_with fail
 refine (trim_calls (g := g) (d := d3) (ds := S.take 800) (dp := dp - ((R : Int) - 1)) (neg := neg) (tr := (tr || FP.lost 0 S)) ?_ E3.out.lst (by rw [List.length_take]; omega)).mono ?_
 ·rw [List.length_take]
  exact E2.out.set_nd (min 800 S.length)
 ·rintro e w4 ⟨rfl, a1, a2⟩
  go_wp2_with fail
  go_end0
  rw [HR.out]
  rw [if_neg HNE.out] at a1
  refine ⟨rfl, ⟨d3, ?_, E3.out.lst.trim.cast (by rw [HS.out]; rfl)⟩, ((((Only.refl g w).set 801 _).trans G6.out).trans (E4.out.set 800 _)).trans a2⟩
  unfold FP.shrD
  simp only
  rw [HRR.out, ← HS.out]
  exact a1
end Go.Proofs.YtbimfhaokgigkaaGreatDoor
