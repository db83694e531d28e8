/- Walks of functions of FnJpGetFloat (Y1, Y2); conditions stand ahead of each theorem. -/
import Derived.Test.YtbimfhaokgigkaaGreatDoorT24
import Derived.Test.YtbimfhaokgigkaaGreatDoorT23
set_option maxRecDepth 100000
namespace Go.Proofs.YtbimfhaokgigkaaGreatDoor
open Go.RowKit Go.Proofs.YtbimfhaokgigkaaGreatDoorW.PrintWords Go.Proofs.YtbimfhaokgigkaaGreatDoorW.PrintLast
namespace JS
def Rdr (w : World) (g : Nat) (s : ByteArray) (p : Nat) : Prop := w.heap[g]? = some (.cells #[.string s, .int .i64 (p : Int)] 61 (0, 0))
theorem Rdr.set {w : World} {g p : Nat} {s : ByteArray} (h : Rdr w g s p) (q : Nat) (x : Int) (hx : x = (q : Int)) : Rdr (w.setCell ⟨g, 1, none⟩ (.int .i64 x)) g s q := by
 subst hx; unfold Rdr; simpa using blk_set h 1 (.int .i64 (q : Int))
theorem grown_set {w w1 : World} {g : Nat} (h : w.grownBy w1 (some g)) (i : Nat) (v : Value) : w.grownBy (w1.setCell ⟨g, i, none⟩ v) (some g) :=
 ⟨h.os, h.tape, h.output, by simpa [World.setCell] using h.size, fun k hk hne => (Below.heap_setCell w1 _ v k (fun e => hne (by rw [e]))).trans (h.block k hk hne)⟩
theorem grown_refl (w : World) (r : Option Nat) : w.grownBy w r := ⟨rfl, rfl, rfl, Nat.le_refl _, fun _ _ _ => rfl⟩
theorem grown_trans {w w1 w2 : World} {r : Option Nat} (h : w.grownBy w1 r) (k : w1.grownBy w2 r) : w.grownBy w2 r :=
 ⟨k.os.trans h.os, k.tape.trans h.tape, k.output.trans h.output, Nat.le_trans h.size k.size, fun i hi hne => (k.block i (Nat.lt_of_lt_of_le hi h.size) hne).trans (h.block i hi hne)⟩
theorem grown_drewN {w w1 : World} {r : Option Nat} (h : w.grownBy w1 r) (n : Nat) : w.grownBy (w1.drewN n) r := grown_trans h (grown_of_below (pw_below_drewN (Below.refl _ _) n) r)
theorem bn_pos {s : ByteArray} {p : Nat} (h : bn s p ≠ 0) : p < s.size := by
 by_cases c : p < s.size
 ·exact c
 ·refine absurd ?_ h
  unfold bn bt
  rw [dif_neg (by omega)]; rfl
theorem bn_zero {s : ByteArray} {p : Nat} (h : ¬ p < s.size) : bn s p = 0 := by
 by_cases c : bn s p = 0
 ·exact c
 ·exact absurd (bn_pos c) h
theorem bn_idx {s : ByteArray} {p : Nat} : ∀ h : p < s.size, ((s[p]'h).toNat : Int) = (bn s p : Int) := fun h => by rw [bn_at s p h]
def RetS (w : World) (v : Value) (e : Ending) (w' : World) : Prop := e = .returned v ∧ w' = w
def RdP (w : World) (g : Nat) (s : ByteArray) (v : Value) (q : Nat) (e : Ending) (w' : World) : Prop := e = .returned v ∧ Rdr w' g s q ∧ w.grownBy w' (some g)
theorem blank_yes {w : World} {c : Nat} (h : blank c) : Calls Tryz.prog 38 #[.int .u8 (c : Int)] w (RetS w (.bool true)) := by
 rcases h with rfl | rfl | rfl | rfl
 all_goals
  go_enter Tryz.func38, Tryz.ntmps38
  go_wp2
  go_ret
  exact ⟨rfl, rfl⟩
theorem blank_no {w : World} {c : Nat} (h : ¬ blank c) : Calls Tryz.prog 38 #[.int .u8 (c : Int)] w (RetS w (.bool false)) := by
 unfold blank at h
 have a1 : ((c : Int) == 32) = false := beqF
 have a2 : ((c : Int) == 10) = false := beqF
 have a3 : ((c : Int) == 13) = false := beqF
 have a4 : ((c : Int) == 9) = false := beqF
 have b1 : (c == 32) = false := beqFn
 have b2 : (c == 10) = false := beqFn
 have b3 : (c == 13) = false := beqFn
 have b4 : (c == 9) = false := beqFn
 clear h
 go_enter Tryz.func38, Tryz.ntmps38
 go_wp2
 go_ret
 exact ⟨rfl, rfl⟩
section
variable {w : World} {g p : Nat} {s : ByteArray}
theorem here_calls (h : Rdr w g s p) (hs : s.size ≤ 65536) :
  Calls Tryz.prog 39 #[.pointer (some ⟨g, 0, none⟩)] w (RdP w g s (.int .u8 (bn s p : Int)) p) := by
 refine byR fun R hR => ?_
 have HR := az hR
 clear hR
 have hc0 := (blk_cell h 0).trans rfl
 have hc1 := (blk_cell h 1).trans rfl
 have hs6 : (s.size : Int) ≤ 65536 := by omega
 have H := az h
 clear h
 by_cases hp : p < s.size
 ·have hp6 : (p : Int) < (s.size : Int) := by omega
  have hx := bn_idx (s := s) (p := p)
  go_enter Tryz.func39, Tryz.ntmps39
  go_wp2
  repeat (go_quiet (fail); try go_wp2)
  rw [HR.out]
  exact ⟨rfl, H.out, grown_drewN (grown_drewN (grown_refl _ _) _) _⟩
 ·have t1 : decide ((p : Int) < (s.size : Int)) = false := dF
  have t1n : decide (p < s.size) = false := decide_eq_false hp
  have HZ := az (bn_zero hp)
  clear hp
  go_enter Tryz.func39, Tryz.ntmps39
  go_wp2
  repeat (go_quiet (fail); try go_wp2)
  rw [HR.out]
  exact ⟨by rw [HZ.out]; rfl, H.out, grown_drewN (grown_refl _ _) _⟩
theorem take_yes {c : Nat} (h : Rdr w g s p) (hs : s.size ≤ 65536) (hc : bn s p = c) (h0 : 0 < c) :
  Calls Tryz.prog 50 #[.pointer (some ⟨g, 0, none⟩), .int .u8 (c : Int)] w (RdP w g s (.bool true) (p + 1)) := by
 refine byR fun R hR => ?_
 have HR := az hR
 clear hR
 have hc0 := (blk_cell h 0).trans rfl
 have hc1 := (blk_cell h 1).trans rfl
 have hf1 := blk_frozen h 1
 have H := az h
 have hs6 : (s.size : Int) ≤ 65536 := by omega
 have hp : p < s.size := bn_pos (by omega)
 have hp6 : (p : Int) < (s.size : Int) := by omega
 have hx := bn_idx (s := s) (p := p) hp
 rw [hc] at hx
 clear h hc h0 hs
 go_enter Tryz.func50, Tryz.ntmps50
 go_wp2
 repeat (go_quiet (fail); try go_wp2)
 rw [HR.out]
 exact ⟨rfl, H.out.set (p + 1) _ (by first | rfl | go_num), grown_set (grown_drewN (grown_refl _ _) _) _ _⟩
theorem take_no {c : Nat} (h : Rdr w g s p) (hs : s.size ≤ 65536) (hc : bn s p ≠ c) :
  Calls Tryz.prog 50 #[.pointer (some ⟨g, 0, none⟩), .int .u8 (c : Int)] w (RdP w g s (.bool false) p) := by
 refine byR fun R hR => ?_
 have HR := az hR
 clear hR
 have hc0 := (blk_cell h 0).trans rfl
 have hc1 := (blk_cell h 1).trans rfl
 have hs6 : (s.size : Int) ≤ 65536 := by omega
 have H := az h
 clear h
 by_cases hp : p < s.size
 ·have hp6 : (p : Int) < (s.size : Int) := by omega
  have t1 : (((s[p]'hp).toNat : Int) == (c : Int)) = false := beqF (by rw [bn_idx hp]; omega)
  have t1n : ((s[p]'hp).toNat == c) = false := beqFn (by rw [← bn_at]; omega)
  clear hc
  go_enter Tryz.func50, Tryz.ntmps50
  go_wp2
  repeat (go_quiet (fail); try go_wp2)
  rw [HR.out]
  exact ⟨rfl, H.out, grown_drewN (grown_refl _ _) _⟩
 ·have t1 : decide ((p : Int) < (s.size : Int)) = false := dF
  have t1n : decide (p < s.size) = false := decide_eq_false hp
  clear hp hc
  go_enter Tryz.func50, Tryz.ntmps50
  go_wp2
  repeat (go_quiet (fail); try go_wp2)
  rw [HR.out]
  exact ⟨rfl, H.out, grown_drewN (grown_refl _ _) _⟩
theorem hex_yes {c : Nat} (h : hex c) : Calls Tryz.prog 45 #[.int .u8 (c : Int)] w (RetS w (.tuple #[.int .i64 (hexv c : Int), .bool true])) := by
 have hc : c ≤ 102 := by unfold hex at h; omega
 have h := h
 unfold hex at h
 unfold hexv
 rcases h with h | h | h
 ·rw [if_pos (by omega)]
  have a1 : (48 : Int) ≤ (c : Int) := by omega
  have a2 : (c : Int) ≤ 57 := by omega
  have e : ((c - 48 : Nat) : Int) = (c : Int) - 48 := by omega
  rw [e]
  clear h e
  go_enter Tryz.func45, Tryz.ntmps45
  go_wp2
  go_ret2
  exact ⟨rfl, rfl⟩
 ·rw [if_neg (by omega), if_neg (by omega)]
  have a1 : (97 : Int) ≤ (c : Int) := by omega
  have a2 : (c : Int) ≤ 102 := by omega
  have t1 : decide ((c : Int) ≤ 57) = false := dF
  have t1n : decide (c ≤ 57) = false := dF
  have e : ((c - 87 : Nat) : Int) = (c : Int) - 97 + 10 := by omega
  rw [e]
  clear h e
  go_enter Tryz.func45, Tryz.ntmps45
  go_wp2
  go_ret2
  exact ⟨rfl, rfl⟩
 ·rw [if_neg (by omega), if_pos (by omega)]
  have a1 : (65 : Int) ≤ (c : Int) := by omega
  have a2 : (c : Int) ≤ 70 := by omega
  have t1 : decide ((c : Int) ≤ 57) = false := dF
  have t1n : decide (c ≤ 57) = false := dF
  have t2 : decide ((97 : Int) ≤ (c : Int)) = false := dF
  have t2n : decide (97 ≤ c) = false := dF
  have e : ((c - 55 : Nat) : Int) = (c : Int) - 65 + 10 := by omega
  rw [e]
  clear h e
  go_enter Tryz.func45, Tryz.ntmps45
  go_wp2
  go_ret2
  exact ⟨rfl, rfl⟩
theorem hex_no {c : Nat} (h : ¬ hex c) (hc : c < 256) : Calls Tryz.prog 45 #[.int .u8 (c : Int)] w (RetS w (.tuple #[.int .i64 0, .bool false])) := by
 unfold hex at h
 obtain ⟨x1, h1⟩ : ∃ x, x = decide ((48 : Int) ≤ (c : Int)) := ⟨_, rfl⟩
 obtain ⟨x2, h2⟩ : ∃ x, x = decide ((c : Int) ≤ 57) := ⟨_, rfl⟩
 obtain ⟨x3, h3⟩ : ∃ x, x = decide ((97 : Int) ≤ (c : Int)) := ⟨_, rfl⟩
 obtain ⟨x4, h4⟩ : ∃ x, x = decide ((c : Int) ≤ 102) := ⟨_, rfl⟩
 obtain ⟨x5, h5⟩ : ∃ x, x = decide ((65 : Int) ≤ (c : Int)) := ⟨_, rfl⟩
 obtain ⟨x6, h6⟩ : ∃ x, x = decide ((c : Int) ≤ 70) := ⟨_, rfl⟩
 have f12 : ¬ (x1 = true ∧ x2 = true) := by rw [h1, h2]; simp only [decide_eq_true_eq]; omega
 have f34 : ¬ (x3 = true ∧ x4 = true) := by rw [h3, h4]; simp only [decide_eq_true_eq]; omega
 have f56 : ¬ (x5 = true ∧ x6 = true) := by rw [h5, h6]; simp only [decide_eq_true_eq]; omega
 have n1 : x1 = decide (48 ≤ c) := by rw [h1, decide_eq_decide]; omega
 have n2 : x2 = decide (c ≤ 57) := by rw [h2, decide_eq_decide]; omega
 have n3 : x3 = decide (97 ≤ c) := by rw [h3, decide_eq_decide]; omega
 have n4 : x4 = decide (c ≤ 102) := by rw [h4, decide_eq_decide]; omega
 have n5 : x5 = decide (65 ≤ c) := by rw [h5, decide_eq_decide]; omega
 have n6 : x6 = decide (c ≤ 70) := by rw [h6, decide_eq_decide]; omega
 clear h
 replace h1 := h1.symm
 replace h2 := h2.symm
 replace h3 := h3.symm
 replace h4 := h4.symm
 replace h5 := h5.symm
 replace h6 := h6.symm
 replace n1 := n1.symm
 replace n2 := n2.symm
 replace n3 := n3.symm
 replace n4 := n4.symm
 replace n5 := n5.symm
 replace n6 := n6.symm
 cases x1 <;> cases x2 <;> (try exact absurd ⟨rfl, rfl⟩ f12) <;> cases x3 <;> cases x4 <;> (try exact absurd ⟨rfl, rfl⟩ f34) <;> cases x5 <;> cases x6 <;> (try exact absurd ⟨rfl, rfl⟩ f56) <;> clear f12 f34 f56 <;>
  (go_enter Tryz.func45, Tryz.ntmps45
   go_wp2
   go_ret2
   exact ⟨rfl, rfl⟩)
theorem blanks_calls (h : Rdr w g s p) (hs : s.size ≤ 65536) (hp : p ≤ s.size) :
  Calls Tryz.prog 23 #[.pointer (some ⟨g, 0, none⟩)] w (fun e w' => ∃ q, Blanks s p q ∧ RdP w g s (.tuple #[]) q e w') := by
 refine byR fun R hR => ?_
 have HR := az hR
 have H := az h
 have hs6 : (s.size : Int) ≤ 65536 := by omega
 have HP := az hp
 clear hR h hp hs
 go_enter Tryz.func23, Tryz.ntmps23
 go_wp2
 repeat (go_quiet (fail); try go_wp2)
 go_loopg [] (s.size - p) (fun q w' => ∃ a, Aside0 (q = s.size - a ∧ Blanks s p a) ∧ Aside0 (Rdr w' g s a ∧ w.grownBy w' (some g)))
 case atStart => exact ⟨p, ⟨rfl, Nat.le_refl _, HP.out, fun k h1 h2 => absurd h2 (by omega)⟩, ⟨H.out, grown_refl _ _⟩⟩
 case round =>
  obtain ⟨a, ha, hw⟩ := hrel
  have hc0 := (blk_cell hw.out.1 0).trans rfl
  have hc1 := (blk_cell hw.out.1 1).trans rfl
  have hf1 := blk_frozen hw.out.1 1
  by_cases hb : a < s.size ∧ blank (bn s a)
  ·obtain ⟨ha1, hb⟩ := hb
   have ha6 : (a : Int) < (s.size : Int) := by omega
   have hx := bn_idx ha1
   have CB := az (fun W => blank_yes (w := W) hb)
   have HB := az hb
   clear hb
   go_wp2_with fail
   repeat (go_quiet (first | (go_at_call 38; (with_reducible refine (CB.out _).mono ?_); rintro e w1 ⟨rfl, rfl⟩; (try exact ⟨rfl, _, rfl⟩))); try go_wp2)
   go_roundg (s.size - (a + 1))
   case measure => have := ha.out.1; omega
   case rel => exact ⟨a + 1, ⟨rfl, by have := ha.out.2.1; omega, ha1, fun k h1 h2 => by
     by_cases c : k < a
     ·exact ha.out.2.2.2 k h1 c
     ·obtain rfl : k = a := by omega
      exact HB.out⟩, ⟨Rdr.set hw.out.1 (a + 1) _ (by first | rfl | go_num), by repeat (first | exact hw.out.2 | apply grown_drewN | apply grown_set)⟩⟩
  ·have HB := az ha.out.2
   by_cases ha1 : a < s.size
   ·have ha6 : (a : Int) < (s.size : Int) := by omega
    have hx := bn_idx ha1
    have CB := az (fun W => blank_no (w := W) (fun h => hb ⟨ha1, h⟩))
    clear hb
    go_wp2_with fail
    repeat (go_quiet (first | (go_at_call 38; (with_reducible refine (CB.out _).mono ?_); rintro e w1 ⟨rfl, rfl⟩; (try exact ⟨rfl, _, rfl⟩))); try go_wp2)
    first | go_end0 | ((try simp only [Exit.inBlock, Exit.then]); refine bodyPost_ret (results_none rfl _ _ _) rfl ?_)
    rw [HR.out]
    exact ⟨a, HB.out, rfl, hw.out.1, by repeat (first | exact hw.out.2 | apply grown_drewN | apply grown_set)⟩
   ·have t1 : decide ((a : Int) < (s.size : Int)) = false := dF
    have t1n : decide (a < s.size) = false := decide_eq_false ha1
    clear ha1 hb
    go_wp2_with fail
    repeat (go_quiet (fail); try go_wp2)
    first | go_end0 | ((try simp only [Exit.inBlock, Exit.then]); refine bodyPost_ret (results_none rfl _ _ _) rfl ?_)
    rw [HR.out]
    exact ⟨a, HB.out, rfl, hw.out.1, by repeat (first | exact hw.out.2 | apply grown_drewN | apply grown_set)⟩
end
section
variable {w : World} {g p : Nat} {s : ByteArray}
def Esc (s : ByteArray) (p q : Nat) : Prop := (q = p + 1 ∧ short (bn s p)) ∨ (q = p + 5 ∧ bn s p = 117 ∧ ∀ j, j < 4 → hex (bn s (p + 1 + j)))
theorem hex_pos {c : Nat} (h : hex c) : c ≠ 0 := by unfold hex at h; omega
theorem escape_calls (h : Rdr w g s p) (hs : s.size ≤ 65536) (hp : p ≤ s.size) :
  Calls Tryz.prog 51 #[.pointer (some ⟨g, 0, none⟩)] w (fun e w' => ∃ b q, RdP w g s (.bool b) q e w' ∧ (b = true → Esc s p q)) := by
 refine byR fun R hR => ?_
 have HR := az hR
 have CH := az (here_calls h hs)
 have hs6 : (s.size : Int) ≤ 65536 := by omega
 have hp6 : (p : Int) ≤ 65536 := by omega
 have HP := az2 hp hs
 obtain ⟨c, hc⟩ : ∃ c, c = bn s p := ⟨_, rfl⟩
 rw [← hc] at CH
 have HC := az hc
 have hcl := bn_lt s p
 rw [← hc] at hcl
 clear hR h hp hs hc
 by_cases h1 : short c
 ·have HS := az h1
  clear hcl
  rcases h1 with rfl | rfl | rfl | rfl | rfl | rfl | rfl | rfl
  all_goals
   go_enter Tryz.func51, Tryz.ntmps51
   go_wp2_with (go_at_call 39; refine CH.out.mono ?_; rintro e w1 ⟨rfl, hr, hg⟩; dsimp only; have hc0 := (blk_cell hr 0).trans rfl; have hc1 := (blk_cell hr 1).trans rfl; have hf1 := blk_frozen hr 1; have HW := az2 hr hg; clear hr hg)
   rw [HR.out]
   exact ⟨true, p + 1, ⟨rfl, Rdr.set HW.out.1 (p + 1) _ (by first | rfl | go_num), grown_set HW.out.2 _ _⟩, fun _ => .inl ⟨rfl, HC.out ▸ HS.out⟩⟩
 ·by_cases h2 : c = 117
  ·subst h2
   clear h1 hcl
   go_enter Tryz.func51, Tryz.ntmps51
   go_wp2_with (go_at_call 39; refine CH.out.mono ?_; rintro e w1 ⟨rfl, hr, hg⟩; dsimp only; have hc0 := (blk_cell hr 0).trans rfl; have hc1 := (blk_cell hr 1).trans rfl; have hf1 := blk_frozen hr 1; have HW := az2 hr hg; clear hr hg)
   have hp1 : p < s.size := bn_pos (s := s) (by have := HC.out; omega)
   have HP1 := az hp1
   clear hc0 hc1 hf1
   go_loopg [3] 4 (fun q v3 w' => ∃ k : Nat, v3 = .int .i64 (k : Int) ∧ Aside0 (q = 4 - k ∧ k ≤ 4 ∧ (∀ j, j < k → hex (bn s (p + 1 + j))) ∧ p + 1 + k ≤ s.size) ∧ Aside0 (Rdr w' g s (p + 1 + k) ∧ w.grownBy w' (some g)))
   case atStart => exact ⟨0, rfl, ⟨rfl, Nat.zero_le _, fun j hj => absurd hj (by omega), hp1⟩, ⟨Rdr.set HW.out.1 (p + 1) _ (by first | rfl | go_num), grown_set HW.out.2 _ _⟩⟩
   case round =>
    obtain ⟨k, rfl, hk, hw⟩ := hrel
    by_cases hk4 : k < 4
    ·have hk6 : (k : Int) < 4 := by omega
     have CK := az (here_calls hw.out.1 HP.out.2)
     have hpk : (p : Int) + 1 + (k : Int) ≤ 65536 := by have := hk.out.2.2.2; omega
     by_cases hx : hex (bn s (p + 1 + k))
     ·have CX := az (fun W => hex_yes (w := W) hx)
      have HX := az hx
      clear hx hk4
      go_wp2_with (first | (go_at_call 39; refine CK.out.mono ?_; rintro e w1 ⟨rfl, hr, hg⟩; dsimp only; have hc0 := (blk_cell hr 0).trans rfl; have hc1 := (blk_cell hr 1).trans rfl; have hf1 := blk_frozen hr 1; have HW := az2 hr hg; clear hr hg) | (go_at_call 45; refine (CX.out _).mono ?_; rintro e w2 ⟨rfl, rfl⟩; dsimp only))
      go_roundg (4 - (k + 1))
      case measure => have := hk.out.1; omega
      case rel => exact ⟨k + 1, by go_num, ⟨rfl, by omega, fun j hj => by
        by_cases c : j < k
        ·exact hk.out.2.2.1 j c
        ·obtain rfl : j = k := by omega
         exact HX.out, by have := bn_pos (hex_pos HX.out); omega⟩, ⟨Rdr.set HW.out.1 (p + 1 + (k + 1)) _ (by first | rfl | go_num), grown_set (grown_trans hw.out.2 HW.out.2) _ _⟩⟩
     ·have CX := az (fun W => hex_no (w := W) hx (bn_lt _ _))
      clear hx hk4
      go_wp2_with (first | (go_at_call 39; refine CK.out.mono ?_; rintro e w1 ⟨rfl, hr, hg⟩; dsimp only; have HW := az2 hr hg; clear hr hg) | (go_at_call 45; refine (CX.out _).mono ?_; rintro e w2 ⟨rfl, rfl⟩; dsimp only))
      rw [HR.out]
      exact ⟨false, _, ⟨rfl, HW.out.1, grown_trans hw.out.2 HW.out.2⟩, fun h => by cases h⟩
    ·obtain rfl : k = 4 := by have := hk.out.2.1; omega
     clear hk4
     go_wp2_with fail
     rw [HR.out]
     exact ⟨true, p + 1 + 4, ⟨rfl, hw.out⟩, fun _ => .inr ⟨rfl, HC.out.symm, hk.out.2.2.1⟩⟩
  ·unfold short at h1
   have a1 : ((c : Int) == 34) = false := beqF
   have a2 : ((c : Int) == 92) = false := beqF
   have a3 : ((c : Int) == 47) = false := beqF
   have a4 : ((c : Int) == 98) = false := beqF
   have a5 : ((c : Int) == 102) = false := beqF
   have a6 : ((c : Int) == 110) = false := beqF
   have a7 : ((c : Int) == 114) = false := beqF
   have a8 : ((c : Int) == 116) = false := beqF
   have a9 : ((c : Int) == 117) = false := beqF
   have b1 : (c == 34) = false := beqFn
   have b2 : (c == 92) = false := beqFn
   have b3 : (c == 47) = false := beqFn
   have b4 : (c == 98) = false := beqFn
   have b5 : (c == 102) = false := beqFn
   have b6 : (c == 110) = false := beqFn
   have b7 : (c == 114) = false := beqFn
   have b8 : (c == 116) = false := beqFn
   have b9 : (c == 117) = false := beqFn
   clear h1 h2
   go_enter Tryz.func51, Tryz.ntmps51
   go_wp2_with (go_at_call 39; refine CH.out.mono ?_; rintro e w1 ⟨rfl, hr, hg⟩; dsimp only; have HW := az2 hr hg; clear hr hg)
   rw [HR.out]
   exact ⟨false, _, ⟨rfl, HW.out⟩, fun h => by cases h⟩
theorem digits_calls (h : Rdr w g s p) (hs : s.size ≤ 65536) (hp : p ≤ s.size) :
  Calls Tryz.prog 52 #[.pointer (some ⟨g, 0, none⟩)] w (fun e w' => ∃ q, RdP w g s (.bool (decide (p < q))) q e w' ∧ p ≤ q ∧ q ≤ s.size ∧ ∀ k, p ≤ k → k < q → digit (bn s k)) := by
 refine byR fun R hR => ?_
 have HR := az hR
 have CH := az (here_calls h hs)
 have hc1 := (blk_cell h 1).trans rfl
 have hs6 : (s.size : Int) ≤ 65536 := by omega
 have HP := az2 hp hs
 clear hR h hp hs
 go_enter Tryz.func52, Tryz.ntmps52
 go_wp2_with (go_at_call 39; refine CH.out.mono ?_; rintro e w1 ⟨rfl, hr, hg⟩; dsimp only; have HW := az2 hr hg; clear hr hg)
 go_loopg [4] (s.size - p) (fun q v4 w' => ∃ a : Nat, v4 = .int .u8 (bn s a : Int) ∧ Aside0 (q = s.size - a ∧ p ≤ a ∧ a ≤ s.size ∧ ∀ k, p ≤ k → k < a → digit (bn s k)) ∧ Aside0 (Rdr w' g s a ∧ w.grownBy w' (some g)))
 case atStart => exact ⟨p, rfl, ⟨rfl, Nat.le_refl _, HP.out.1, fun k h1 h2 => absurd h2 (by omega)⟩, HW⟩
 case round =>
  obtain ⟨a, rfl, ha, hw⟩ := hrel
  have hc1 := (blk_cell hw.out.1 1).trans rfl
  have hf1 := blk_frozen hw.out.1 1
  have hpa : (p : Int) ≤ (a : Int) := by have := ha.out.2.1; omega
  have ha6 : (a : Int) ≤ 65536 := by have := ha.out.2.2.1; omega
  by_cases hd : digit (bn s a)
  ·have HD := az hd
   have ha1 : a < s.size := bn_pos (by unfold digit at hd; omega)
   have CK := az (fun W (h : Rdr W g s (a + 1)) => here_calls h HP.out.2)
   obtain ⟨c, hc⟩ : ∃ c, c = bn s a := ⟨_, rfl⟩
   rw [← hc] at hd ⊢
   obtain ⟨d1, d2⟩ := hd
   have d3 : (48 : Int) ≤ (c : Int) := by omega
   have d4 : (c : Int) ≤ 57 := by omega
   clear hc d1 d2
   go_wp2_with (go_at_call 39; refine (CK.out _ (Rdr.set hw.out.1 (a + 1) _ (by first | rfl | go_num))).mono ?_; rintro e w1 ⟨rfl, hr, hg⟩; dsimp only; have HW1 := az2 hr hg; clear hr hg)
   go_roundg (s.size - (a + 1))
   case measure => have := ha.out.1; omega
   case rel => exact ⟨a + 1, rfl, ⟨rfl, by have := ha.out.2.1; omega, ha1, fun k h1 h2 => by
     by_cases c : k < a
     ·exact ha.out.2.2.2 k h1 c
     ·obtain rfl : k = a := by omega
      exact HD.out⟩, ⟨HW1.out.1, grown_trans (grown_set hw.out.2 _ _) HW1.out.2⟩⟩
  ·have HB := az ha.out.2
   have hpos : decide (p < a) = decide ((p : Int) < (a : Int)) := by rw [decide_eq_decide]; omega
   have HPos := az hpos
   clear hpos
   obtain ⟨c, hc⟩ : ∃ c, c = bn s a := ⟨_, rfl⟩
   rw [← hc] at hd ⊢
   clear hc
   unfold digit at hd
   by_cases h48 : 48 ≤ c
   ·have d3 : (48 : Int) ≤ (c : Int) := by omega
    have t1 : decide ((c : Int) ≤ 57) = false := dF
    have t1n : decide (c ≤ 57) = false := dF
    clear hd h48
    go_wp2_with fail
    rw [HR.out]
    exact ⟨a, ⟨by rw [HPos.out]; rfl, hw.out⟩, HB.out⟩
   ·have t1 : decide ((48 : Int) ≤ (c : Int)) = false := dF
    have t1n : decide (48 ≤ c) = false := dF
    clear hd h48
    go_wp2_with fail
    rw [HR.out]
    exact ⟨a, ⟨by rw [HPos.out]; rfl, hw.out⟩, HB.out⟩
theorem part_bytes {a b : ByteArray} (h : a.toList = b.toList) (i : Nat) : bn a i = bn b i := by
 rw [ByteArray.toList_eq, ByteArray.toList_eq] at h
 have e : a = b := by
  cases a; cases b
  congr 1
  exact Array.toList_inj.1 h
 rw [e]
theorem word_yes {wd : ByteArray} (h : Rdr w g s p) (hs : s.size ≤ 65536) (hw : wd.size ≤ 8) (hp : p + wd.size ≤ s.size) (he : (s.extract p (p + wd.size)).toList = wd.toList) :
  Calls Tryz.prog 44 #[.pointer (some ⟨g, 0, none⟩), .string wd] w (RdP w g s (.bool true) (p + wd.size)) := by
 refine byR fun R hR => ?_
 have HR := az hR
 have H := az h
 have hc0 := (blk_cell h 0).trans rfl
 have hc1 := (blk_cell h 1).trans rfl
 have hf1 := blk_frozen h 1
 have hs6 : (s.size : Int) ≤ 65536 := by omega
 have hw6 : (wd.size : Int) ≤ 8 := by omega
 have hp6 : (p : Int) + (wd.size : Int) ≤ (s.size : Int) := by omega
 have e1 : ((p : Int) + (wd.size : Int)).toNat = p + wd.size := by omega
 have t1 : decide ((s.size : Int) - (p : Int) < (wd.size : Int)) = false := dF
 have t2 : ((s.extract p (p + wd.size)).toList != wd.toList) = false := bne_eq_false_iff_eq.2 he
 have t3 : ((s.extract p (p + wd.size)).toList == wd.toList) = true := beq_iff_eq.2 he
 clear hR h hp hs hw he
 go_enter Tryz.func44, Tryz.ntmps44
 go_wp2
 repeat (go_quiet (fail); try go_wp2)
 rw [HR.out]
 exact ⟨rfl, Rdr.set H.out (p + wd.size) _ (by first | rfl | go_num), by repeat (first | exact grown_refl _ _ | apply grown_drewN | apply grown_set)⟩
theorem word_no {wd : ByteArray} (h : Rdr w g s p) (hs : s.size ≤ 65536) (hw : wd.size ≤ 8) (hp : p ≤ s.size) (he : ¬ (p + wd.size ≤ s.size ∧ (s.extract p (p + wd.size)).toList = wd.toList)) :
  Calls Tryz.prog 44 #[.pointer (some ⟨g, 0, none⟩), .string wd] w (RdP w g s (.bool false) p) := by
 refine byR fun R hR => ?_
 have HR := az hR
 have H := az h
 have hc0 := (blk_cell h 0).trans rfl
 have hc1 := (blk_cell h 1).trans rfl
 have hs6 : (s.size : Int) ≤ 65536 := by omega
 have hw6 : (wd.size : Int) ≤ 8 := by omega
 have hp6 : (p : Int) ≤ (s.size : Int) := by omega
 by_cases c : p + wd.size ≤ s.size
 ·have t1 : decide ((s.size : Int) - (p : Int) < (wd.size : Int)) = false := dF
  have hp7 : (p : Int) + (wd.size : Int) ≤ (s.size : Int) := by omega
  have e1 : ((p : Int) + (wd.size : Int)).toNat = p + wd.size := by omega
  have t2 : ((s.extract p (p + wd.size)).toList != wd.toList) = true := bne_iff_ne.2 (fun e => he ⟨c, e⟩)
  have t3 : ((s.extract p (p + wd.size)).toList == wd.toList) = false := beq_eq_false_iff_ne.2 (fun e => he ⟨c, e⟩)
  clear hR h hp hs hw he c
  go_enter Tryz.func44, Tryz.ntmps44
  go_wp2
  repeat (go_quiet (fail); try go_wp2)
  rw [HR.out]
  exact ⟨rfl, H.out, by repeat (first | exact grown_refl _ _ | apply grown_drewN | apply grown_set)⟩
 ·have t1 : decide ((s.size : Int) - (p : Int) < (wd.size : Int)) = true := dT
  clear hR h hp hs hw he c
  go_enter Tryz.func44, Tryz.ntmps44
  go_wp2
  repeat (go_quiet (fail); try go_wp2)
  rw [HR.out]
  exact ⟨rfl, H.out, by repeat (first | exact grown_refl _ _ | apply grown_drewN | apply grown_set)⟩
end
end JS
end Go.Proofs.YtbimfhaokgigkaaGreatDoor
