/- Walks of functions of FnJpGetFloat (X1); conditions stand ahead of each theorem. -/
import Derived.Test.YtbimfhaokgigkaaGreatDoorTA1
import Derived.Test.YtbimfhaokgigkaaGreatDoorT23
set_option linter.unusedVariables false
set_option linter.unusedSimpArgs false
set_option maxRecDepth 100000
set_option maxHeartbeats 2000000
namespace Go.Proofs.YtbimfhaokgigkaaGreatDoor
open Go.RowKit Go.Proofs.YtbimfhaokgigkaaGreatDoorW.PrintWords Go.Proofs.YtbimfhaokgigkaaGreatDoorW.PrintLast
namespace JS
def Dat (w : World) (s : ByteArray) (lo n : Nat) (A : Option Addr) : Prop :=
 lo + n ≤ s.size ∧ s.size ≤ 65536 ∧ (0 < n → ∃ g o, A = some ⟨g, o, none⟩ ∧ g < w.heap.size ∧ ∀ k, k < n → w.cell? ⟨g, o + k, none⟩ = some (.int .u8 (bn s (lo + k) : Int)))
section
variable {w w' : World} {s : ByteArray} {lo n : Nat} {A : Option Addr}
theorem Dat.at_ (h : Dat w s lo n A) {k : Nat} (hk : k < n) : ∃ g o, A = some ⟨g, o, none⟩ ∧ w.cell? ⟨g, o + k, none⟩ = some (.int .u8 (bn s (lo + k) : Int)) := by
 obtain ⟨g, o, e, _, hc⟩ := h.2.2 (by omega)
 exact ⟨g, o, e, hc k hk⟩
theorem Dat.keep (h : Dat w s lo n A) (hb : ∀ b, b < w.heap.size → w'.heap[b]? = w.heap[b]?) (hs : w.heap.size ≤ w'.heap.size) : Dat w' s lo n A :=
 ⟨h.1, h.2.1, fun hn => by
  obtain ⟨g, o, e, hg, hc⟩ := h.2.2 hn
  exact ⟨g, o, e, Nat.lt_of_lt_of_le hg hs, fun k hk => by rw [← hc k hk]; exact World.cell?_of_block (hb g hg)⟩⟩
theorem Dat.below (h : Dat w s lo n A) (hb : Below w.heap.size w w') : Dat w' s lo n A := h.keep (fun b hlt => hb.block b hlt) hb.size
theorem Dat.alloc (h : Dat w s lo n A) (o : Obj) : Dat (w.alloc o) s lo n A := h.below ((Below.refl _ _).alloc (Nat.le_refl _) o)
theorem Dat.cut (h : Dat w s lo n A) {k c : Nat} (hk : k ≤ n) (hc : n ≤ c) : Dat w s (lo + k) (n - k) (if c = k then A else A.map (·.add k)) := by
 refine ⟨by have := h.1; omega, h.2.1, fun hn => ?_⟩
 obtain ⟨g, o, rfl, hg, hcell⟩ := h.2.2 (by omega)
 rw [if_neg (by omega)]
 refine ⟨g, o + k, ?_, hg, fun j hj => ?_⟩
 ·show some _ = some _
  congr 1
  by_cases h0 : k = 0
  ·subst h0; rfl
  ·show (if k = 0 then _ else _) = _
   rw [if_neg h0]
 ·have := hcell (k + j) (by omega)
  rwa [← Nat.add_assoc, ← Nat.add_assoc] at this
theorem Dat.cutS {g o : Nat} (h : Dat w s lo n (some ⟨g, o, none⟩)) {k : Nat} (hk : k < n) : Dat w s (lo + k) (n - k) (some ⟨g, o + k, none⟩) := by
 obtain ⟨g', o', e, hg, hcell⟩ := h.2.2 (by omega)
 cases e
 refine ⟨by have := h.1; omega, h.2.1, fun hn => ⟨g, o + k, rfl, hg, fun j hj => ?_⟩⟩
 have := hcell (k + j) (by omega)
 rwa [← Nat.add_assoc, ← Nat.add_assoc] at this
theorem Dat.front (h : Dat w s lo n A) {m : Nat} (hm : m ≤ n) : Dat w s lo m A :=
 ⟨by have := h.1; omega, h.2.1, fun hn => by
  obtain ⟨g, o, e, hg, hc⟩ := h.2.2 (by omega)
  exact ⟨g, o, e, hg, fun k hk => hc k (by omega)⟩⟩
end
def NumPost (w : World) (v : Int) (e : Ending) (w' : World) : Prop := e = .returned (.int .i64 v) ∧ Below w.heap.size w w'
theorem next_calls {w : World} {s : ByteArray} {lo n c p : Nat} {A : Option Addr} (h : Dat w s lo n A) (hn : n ≤ c) (hb : Blanks s lo p) (hp : p < lo + n) (hnb : ¬ blank (bn s p)) :
  Calls Tryz.prog 59 #[.agg #[.bool false, .bool false, .int .i64 0], .slice A n c] w (NumPost w ((p - lo : Nat) : Int)) := by
 refine byR fun R hR => ?_
 have HR := az hR
 have hsz : (n : Int) ≤ 65536 := by have := h.1; have := h.2.1; omega
 have HD := az (h.alloc (.cells #[.bool false, .bool false, .int .i64 0] 93))
 obtain ⟨d, rfl⟩ : ∃ d, p = lo + d := ⟨p - lo, by have := hb.1; omega⟩
 have HX := az3 hb hp hnb
 have hd : d < n := by omega
 clear hR h hn hb hp hnb
 go_enter Tryz.func59, Tryz.ntmps59
 go_wp2_with fail
 go_loopg [9] n (fun q v9 w' => ∃ k : Nat, v9 = .int .i64 (k : Int) ∧ Aside0 (q = n - k ∧ k ≤ d) ∧ Aside0 (w' = w.alloc (.cells #[.bool false, .bool false, .int .i64 0] 93)))
 case atStart => exact ⟨0, rfl, ⟨⟨rfl, Nat.zero_le _⟩⟩, ⟨rfl⟩⟩
 case round =>
  obtain ⟨k, rfl, hk, hw⟩ := hrel
  have e := hw.out
  subst e
  obtain ⟨g, o, rfl, hc⟩ := HD.out.at_ (Nat.lt_of_le_of_lt hk.out.2 hd)
  have hkn : k < n := Nat.lt_of_le_of_lt hk.out.2 hd
  obtain ⟨c0, hc0⟩ : ∃ c0, c0 = bn s (lo + k) := ⟨_, rfl⟩
  rw [← hc0] at hc
  by_cases hkd : k < d
  ·have hbl := HX.out.1.2.2 (lo + k) (by omega) (by omega)
   rw [← hc0] at hbl
   have HL := az hkd
   clear hc0 hkd
   rcases hbl with rfl | rfl | rfl | rfl
   all_goals
    go_wp2_with fail
    go_roundg (n - (k + 1))
    case measure => have := hk.out; have := HL.out; omega
    case rel => exact ⟨k + 1, by go_num, ⟨⟨rfl, HL.out⟩⟩, ⟨rfl⟩⟩
  ·obtain rfl : k = d := by have := hk.out.2; omega
   have hnb := HX.out.2.2
   rw [← hc0] at hnb
   unfold blank at hnb
   have a1 : ((c0 : Int) == 32) = false := bF
   have a2 : ((c0 : Int) == 10) = false := bF
   have a3 : ((c0 : Int) == 13) = false := bF
   have a4 : ((c0 : Int) == 9) = false := bF
   have b1 : (c0 == 32) = false := bF
   have b2 : (c0 == 10) = false := bF
   have b3 : (c0 == 13) = false := bF
   have b4 : (c0 == 9) = false := bF
   clear hnb hc0 hkd
   go_wp2_with fail
   rw [HR.out]
   exact ⟨by rw [Nat.add_sub_cancel_left], (Below.refl _ _).alloc (Nat.le_refl _) _⟩
theorem beqF {a b : Int} (h : a ≠ b := by omega) : (a == b) = false := beq_eq_false_iff_ne.2 h
theorem beqFn {a b : Nat} (h : a ≠ b := by omega) : (a == b) = false := beq_eq_false_iff_ne.2 h
theorem bneT {a b : Int} (h : a ≠ b := by omega) : (a != b) = true := bne_iff_ne.2 h
theorem bneTn {a b : Nat} (h : a ≠ b := by omega) : (a != b) = true := bne_iff_ne.2 h
def dlm (c : Nat) : Prop := c = 32 ∨ c = 10 ∨ c = 13 ∨ c = 9 ∨ c = 44 ∨ c = 125 ∨ c = 93
theorem tokEnd_calls {w : World} {s : ByteArray} {lo n c d : Nat} {A : Option Addr} (h : Dat w s lo n A) (hd : d ≤ n) (ha : ∀ k, k < d → ¬ dlm (bn s (lo + k))) (hb : d < n → dlm (bn s (lo + d))) :
  Calls Tryz.prog 71 #[.slice A n c] w (NumPost w (d : Int)) := by
 refine byR fun R hR => ?_
 have HR := az hR
 have hsz : (n : Int) ≤ 65536 := by have := h.1; have := h.2.1; omega
 have HD := az h
 have HX := az3 hd ha hb
 clear hR h hd ha hb
 go_enter Tryz.func71, Tryz.ntmps71
 go_wp2_with fail
 go_loopg [7] n (fun q v7 w' => ∃ k : Nat, v7 = .int .i64 (k : Int) ∧ Aside0 (q = n - k ∧ k ≤ d) ∧ Aside0 (w' = w))
 case atStart => exact ⟨0, rfl, ⟨⟨rfl, Nat.zero_le _⟩⟩, ⟨rfl⟩⟩
 case round =>
  obtain ⟨k, rfl, hk, hw⟩ := hrel
  have e := hw.out
  subst e
  by_cases hkn : k < n
  ·obtain ⟨g, o, rfl, hc⟩ := HD.out.at_ hkn
   obtain ⟨c0, hc0⟩ : ∃ c0, c0 = bn s (lo + k) := ⟨_, rfl⟩
   rw [← hc0] at hc
   by_cases hkd : k < d
   ·have hnb := HX.out.2.1 k hkd
    rw [← hc0] at hnb
    unfold dlm at hnb
    have a1 : ((c0 : Int) != 32) = true := bneT
    have a2 : ((c0 : Int) != 10) = true := bneT
    have a3 : ((c0 : Int) != 13) = true := bneT
    have a4 : ((c0 : Int) != 9) = true := bneT
    have a5 : ((c0 : Int) != 44) = true := bneT
    have a6 : ((c0 : Int) != 125) = true := bneT
    have a7 : ((c0 : Int) != 93) = true := bneT
    have b1 : (c0 != 32) = true := bneTn
    have b2 : (c0 != 10) = true := bneTn
    have b3 : (c0 != 13) = true := bneTn
    have b4 : (c0 != 9) = true := bneTn
    have b5 : (c0 != 44) = true := bneTn
    have b6 : (c0 != 125) = true := bneTn
    have b7 : (c0 != 93) = true := bneTn
    have HL := az hkd
    clear hnb hc0 hkd
    go_wp2_with fail
    go_roundg (n - (k + 1))
    case measure => have := hk.out; omega
    case rel => exact ⟨k + 1, by go_num, ⟨⟨rfl, HL.out⟩⟩, ⟨rfl⟩⟩
   ·obtain rfl : k = d := by have := hk.out.2; omega
    have hnb := HX.out.2.2 hkn
    rw [← hc0] at hnb
    clear hc0 hkd
    rcases hnb with rfl | rfl | rfl | rfl | rfl | rfl | rfl
    all_goals
     go_wp2_with fail
     rw [HR.out]
     exact ⟨rfl, Below.refl _ _⟩
  ·obtain rfl : k = d := by have := hk.out.2; have := HX.out.1; omega
   obtain rfl : k = n := by have := HX.out.1; omega
   clear hkn
   go_wp2_with fail
   rw [HR.out]
   exact ⟨rfl, Below.refl _ _⟩
end JS
end Go.Proofs.YtbimfhaokgigkaaGreatDoor
