/- Walks of functions of FnFjFloatAll (A1, A2, A3, A4); conditions stand ahead of each theorem. -/
import Derived.Test.YtodbjojglibniaaGreatDoorProg
import Derived.Below
import Derived.Deep.Draws
import Derived.Deep.AppendLies
import Derived.Maps.AppendAt
import Derived.OwnWalk
import Derived.Laws.BytesArg
import Derived.Laws.MakeOwn
import Derived.Laws.OwnMore
import Derived.Deep.OwnRows
import Derived.Tactics
import Derived.Lib.ConvBytes
import Derived.Laws.Slices
import Derived.WalkKit
import Derived.KernelRfl
import Derived.RowKit3
import Derived.Deep.LoopGhost
import Derived.Deep.QuietTactic
import Derived.BigQuiet
import Derived.WideLaws
import Derived.Deep.DeepCutAuto
import Derived.Deep.CutBlock
import Derived.Deep.RegionHeld3
import Derived.Laws.Rows
import Derived.Lib.AppendStr
import Derived.ArgAppend
import Derived.Laws.IdiomCopy
import Derived.OrdersHeld
import Derived.Laws.BitsLemmas
import Derived.RowKit
import Derived.Test.YtodbjojglibniaaGreatDoorT00
import Derived.WalkLawsBesides
import Derived.WalkSpells
import Derived.Outline
import Derived.Test.YtodbjojglibniaaGreatDoorT02
import Derived.Handy
set_option linter.unusedVariables false
set_option linter.unusedSimpArgs false
namespace Go.Proofs.YtodbjojglibniaaGreatDoor
open Go.RowKit Go.Proofs.YtodbjojglibniaaGreatDoorW.PrintWords Go.Proofs.YtodbjojglibniaaGreatDoorW.PrintLast

/-! ### Words of 64 bits as whole numbers -/
theorem wrapU (n : Nat) : IntKind.u64.wrap (n : Int) = ((n % 2 ^ 64 : Nat) : Int) := by simp [IntKind.wrap, IntKind.bits, IntKind.signed]
theorem wrapU_lt {n : Nat} (h : n < 2 ^ 64) : IntKind.u64.wrap (n : Int) = (n : Int) := by rw [wrapU, Nat.mod_eq_of_lt h]
theorem wraps_u64 (n : Int) (h₀ : 0 ≤ n) (h₁ : n < 2 ^ 64) : IntKind.u64.wrap n = n := by
  obtain ⟨a, rfl⟩ := Int.eq_ofNat_of_zero_le h₀
  exact wrapU_lt (by omega)
theorem and64 {a b : Nat} (ha : a < 2 ^ 64) (hb : b < 2 ^ 64) : Go.bits .and .u64 (a : Int) (b : Int) = ((a &&& b : Nat) : Int) := (bits_nat .u64 64 (by decide) wraps_u64 a b ha hb).1
theorem or64 {a b : Nat} (ha : a < 2 ^ 64) (hb : b < 2 ^ 64) : Go.bits .or .u64 (a : Int) (b : Int) = ((a ||| b : Nat) : Int) := (bits_nat .u64 64 (by decide) wraps_u64 a b ha hb).2
theorem mask64 {x : Int} (i : Nat) (hi : i ≤ 64) (h₀ : 0 ≤ x) (h₁ : x < 2 ^ 64) : Go.bits .and .u64 x (2 ^ i - 1) = x % 2 ^ i := bits_mask .u64 64 (by decide) wraps_u64 i hi x h₀ h₁
theorem low32 {x : Int} (h₀ : 0 ≤ x) (h₁ : x < 2 ^ 64) : Go.bits .and .u64 x 4294967295 = x % 4294967296 := mask64 32 (by decide) h₀ h₁

theorem bool64_calls (b : Bool) (w : World) : Calls Tryz.prog 91 #[.bool b] w fun e w' => e = .returned (.int .u64 (if b then 1 else 0)) ∧ w' = w := by
  cases b
  · go_enter Tryz.func91, Tryz.ntmps91
    go_wp2
    go_ret
    exact ⟨rfl, rfl⟩
  · go_enter Tryz.func91, Tryz.ntmps91
    go_wp2
    go_ret
    exact ⟨rfl, rfl⟩
theorem boolInt_calls (b : Bool) (w : World) : Calls Tryz.prog 103 #[.bool b] w fun e w' => e = .returned (.int .i64 (if b then 1 else 0)) ∧ w' = w := by
  cases b
  · go_enter Tryz.func103, Tryz.ntmps103
    go_wp2
    go_ret
    exact ⟨rfl, rfl⟩
  · go_enter Tryz.func103, Tryz.ntmps103
    go_wp2
    go_ret
    exact ⟨rfl, rfl⟩
theorem unmin_calls (x : Int) (w : World) : Calls Tryz.prog 104 #[.int .u64 x] w fun e w' => e = .returned (.int .u64 (IntKind.u64.wrap (IntKind.u64.wrap (x * 4) - 2))) ∧ w' = w := by
  go_enter Tryz.func104, Tryz.ntmps104
  go_wp2
  go_ret
  exact ⟨rfl, rfl⟩
theorem round_eq (u : Nat) (hu : u < 2 ^ 64 - 2) : IntKind.u64.wrap (IntKind.u64.wrap ((u : Int) + 1) + bits BinOp.and IntKind.u64 ((u : Int) / 4) 1) / 4 = (FP.roundU u : Int) := by
  have h := mask64 (x := (u : Int) / 4) 1 (by decide) (by omega) (by omega)
  rw [show (2 ^ 1 - 1 : Int) = 1 by decide] at h
  rw [h, wraps_u64 ((u : Int) + 1) (by omega) (by omega), wraps_u64 _ (by omega) (by omega)]
  unfold FP.roundU
  omega
theorem round_calls (u : Nat) (hu : u < 2 ^ 64 - 2) (w : World) : Calls Tryz.prog 106 #[.int .u64 u] w fun e w' => e = .returned (.int .u64 (FP.roundU u : Int)) ∧ w' = w := by
  rw [← round_eq u hu]
  clear hu
  go_enter Tryz.func106, Tryz.ntmps106
  go_wp2
  go_ret
  exact ⟨rfl, rfl⟩
theorem log2_calls (x : Int) (h0 : -100000 ≤ x) (h1 : x ≤ 100000) (w : World) : Calls Tryz.prog 100 #[.int .i64 x] w fun e w' => e = .returned (.int .i64 (x * 108853 / 32768)) ∧ w' = w := by
  have h : wrap64 (x * 108853) = x * 108853 := by unfold wrap64; omega
  go_enter Tryz.func100, Tryz.ntmps100
  go_wp2
  go_ret
  exact ⟨rfl, rfl⟩
/-- The upper word of a product, as Go's Mul64 makes it. -/
theorem mul_hi {x y : Int} (hx0 : 0 ≤ x) (hx : x < 2 ^ 64) (hy0 : 0 ≤ y) (hy : y < 2 ^ 64) :
    IntKind.u64.wrap (IntKind.u64.wrap (IntKind.u64.wrap (x / 4294967296 * (y / 4294967296)) + IntKind.u64.wrap (IntKind.u64.wrap (x / 4294967296 * bits BinOp.and IntKind.u64 y 4294967295) + IntKind.u64.wrap (bits BinOp.and IntKind.u64 x 4294967295 * bits BinOp.and IntKind.u64 y 4294967295) / 4294967296) / 4294967296) +
      IntKind.u64.wrap (bits BinOp.and IntKind.u64 (IntKind.u64.wrap (IntKind.u64.wrap (x / 4294967296 * bits BinOp.and IntKind.u64 y 4294967295) + IntKind.u64.wrap (bits BinOp.and IntKind.u64 x 4294967295 * bits BinOp.and IntKind.u64 y 4294967295) / 4294967296)) 4294967295 +
        IntKind.u64.wrap (bits BinOp.and IntKind.u64 x 4294967295 * (y / 4294967296))) / 4294967296) = x * y / 2 ^ 64 := by
  rw [low32 hx0 hx, low32 hy0 hy]
  have ex := Int.emod_add_mul_ediv x 4294967296
  have ey := Int.emod_add_mul_ediv y 4294967296
  have a0 : 0 ≤ x % 4294967296 := by omega
  have a1 : x % 4294967296 ≤ 4294967295 := by omega
  have b0 : 0 ≤ y % 4294967296 := by omega
  have b1 : y % 4294967296 ≤ 4294967295 := by omega
  have c0 : 0 ≤ x / 4294967296 := by omega
  have c1 : x / 4294967296 ≤ 4294967295 := by omega
  have d0 : 0 ≤ y / 4294967296 := by omega
  have d1 : y / 4294967296 ≤ 4294967295 := by omega
  generalize x % 4294967296 = a at *
  generalize y % 4294967296 = b at *
  generalize x / 4294967296 = c at *
  generalize y / 4294967296 = d at *
  have lim : ∀ {p q : Int}, 0 ≤ p → p ≤ 4294967295 → 0 ≤ q → q ≤ 4294967295 → 0 ≤ p * q ∧ p * q ≤ 4294967295 * 4294967295 := by
    intro p q h1 h2 h3 h4
    exact ⟨Int.mul_nonneg h1 h3, Int.mul_le_mul h2 h4 h3 (by omega)⟩
  have e1 := lim c0 c1 d0 d1
  have e2 := lim c0 c1 b0 b1
  have e3 := lim a0 a1 b0 b1
  have e4 := lim a0 a1 d0 d1
  have prod : x * y = c * d * 18446744073709551616 + c * b * 4294967296 + a * d * 4294967296 + a * b := by subst ex ey; grind
  rw [prod]
  generalize c * d = P at *
  generalize c * b = Q at *
  generalize a * b = R at *
  generalize a * d = S at *
  rw [wraps_u64 P (by omega) (by omega), wraps_u64 Q (by omega) (by omega), wraps_u64 R (by omega) (by omega), wraps_u64 S (by omega) (by omega),
    wraps_u64 (Q + R / 4294967296) (by omega) (by omega), low32 (by omega) (by omega), wraps_u64 ((Q + R / 4294967296) % 4294967296 + S) (by omega) (by omega),
    wraps_u64 (P + (Q + R / 4294967296) / 4294967296) (by omega) (by omega), wraps_u64 _ (by omega) (by omega)]
  omega
theorem mul64_calls (x y : Int) (hx0 : 0 ≤ x) (hx : x < 2 ^ 64) (hy0 : 0 ≤ y) (hy : y < 2 ^ 64) (w : World) :
    Calls Tryz.prog 111 #[.int .u64 x, .int .u64 y] w fun e w' => e = .returned (.tuple #[.int .u64 (x * y / 18446744073709551616), .int .u64 (x * y % 18446744073709551616)]) ∧ w' = w := by
  have h1 := mul_hi hx0 hx hy0 hy
  have h2 : IntKind.u64.wrap (x * y) = x * y % 18446744073709551616 := by simp [IntKind.wrap, IntKind.bits, IntKind.signed]
  rw [show (2 : Int) ^ 64 = 18446744073709551616 by decide] at h1
  rw [← h2, ← h1]
  clear h1 h2 hx0 hx hy0 hy
  go_enter Tryz.func111, Tryz.ntmps111
  go_wp2
  go_ret2
  exact ⟨rfl, rfl⟩
end Go.Proofs.YtodbjojglibniaaGreatDoor

set_option linter.unusedVariables false
set_option linter.unusedSimpArgs false
namespace Go.Proofs.YtodbjojglibniaaGreatDoor
open Go.RowKit Go.Proofs.YtodbjojglibniaaGreatDoorW.PrintWords Go.Proofs.YtodbjojglibniaaGreatDoorW.PrintLast

def lenTab : ByteArray := ⟨#[0, 1, 2, 2, 3, 3, 3, 3, 4, 4, 4, 4, 4, 4, 4, 4, 5, 5, 5, 5, 5, 5, 5, 5, 5, 5, 5, 5, 5, 5, 5, 5, 6, 6, 6, 6, 6, 6, 6, 6, 6, 6, 6, 6, 6, 6, 6, 6, 6, 6, 6, 6, 6, 6, 6, 6, 6, 6, 6, 6, 6, 6, 6, 6, 7, 7, 7, 7, 7, 7, 7, 7, 7, 7, 7, 7, 7, 7, 7, 7, 7, 7, 7, 7, 7, 7, 7, 7, 7, 7, 7, 7, 7, 7, 7, 7, 7, 7, 7, 7, 7, 7, 7, 7, 7, 7, 7, 7, 7, 7, 7, 7, 7, 7, 7, 7, 7, 7, 7, 7, 7, 7, 7, 7, 7, 7, 7, 7, 8, 8, 8, 8, 8, 8, 8, 8, 8, 8, 8, 8, 8, 8, 8, 8, 8, 8, 8, 8, 8, 8, 8, 8, 8, 8, 8, 8, 8, 8, 8, 8, 8, 8, 8, 8, 8, 8, 8, 8, 8, 8, 8, 8, 8, 8, 8, 8, 8, 8, 8, 8, 8, 8, 8, 8, 8, 8, 8, 8, 8, 8, 8, 8, 8, 8, 8, 8, 8, 8, 8, 8, 8, 8, 8, 8, 8, 8, 8, 8, 8, 8, 8, 8, 8, 8, 8, 8, 8, 8, 8, 8, 8, 8, 8, 8, 8, 8, 8, 8, 8, 8, 8, 8, 8, 8, 8, 8, 8, 8, 8, 8, 8, 8, 8, 8, 8, 8, 8, 8, 8, 8, 8, 8, 8, 8, 8, 8]⟩
set_option maxRecDepth 100000 in
theorem lenTab_ok : ∀ i : Fin 256, 1 ≤ i.1 → 1 ≤ (lenTab.data[i.1]'(by simp [lenTab])).toNat ∧ (lenTab.data[i.1]'(by simp [lenTab])).toNat ≤ 8 ∧
    2 ^ ((lenTab.data[i.1]'(by simp [lenTab])).toNat - 1) ≤ i.1 ∧ i.1 < 2 ^ (lenTab.data[i.1]'(by simp [lenTab])).toNat := by decide +kernel
theorem lenTab_size : lenTab.size = 256 := by decide +kernel
theorem at_tab (S : Nat) (hS : S ≤ 56) (i : Int) (Y : Nat) (h : i.toNat = Y) (h1 : 1 ≤ Y) (hY : Y < 256) (hi : i.toNat < lenTab.size) :
    ∃ l : Nat, wrap64 ((S : Int) + wrap64 ((lenTab[i.toNat]'hi).toNat : Int)) = ((S + l : Nat) : Int) ∧ 1 ≤ l ∧ l ≤ 8 ∧ 2 ^ (l - 1) ≤ Y ∧ Y < 2 ^ l := by
  subst h
  obtain ⟨a, b, c, d⟩ := lenTab_ok ⟨i.toNat, hY⟩ h1
  refine ⟨(lenTab[i.toNat]'hi).toNat, ?_, a, b, c, d⟩
  have : (lenTab[i.toNat]'hi).toNat ≤ 8 := b
  unfold wrap64
  omega
theorem len_fin {x Y s l : Nat} (hY : Y = x / 2 ^ s) (h1 : 1 ≤ l) (h2 : 2 ^ (l - 1) ≤ Y) (h3 : Y < 2 ^ l) : 2 ^ (s + l - 1) ≤ x ∧ x < 2 ^ (s + l) := by
  subst hY
  have hp := Nat.two_pow_pos s
  constructor
  · rw [show s + l - 1 = l - 1 + s by omega, Nat.pow_add]
    exact (Nat.le_div_iff_mul_le hp).mp h2
  · rw [Nat.add_comm, Nat.pow_add]
    exact (Nat.div_lt_iff_lt_mul hp).mp h3

set_option maxRecDepth 100000 in
theorem len64_000 (x : Nat) (h1 : 1 ≤ x) (hx : x < 2 ^ 64) (w : World) (t1 : decide (4294967296 ≤ (x : Int)) = false) (t2 : decide (65536 ≤ (x : Int)) = false) (t3 : decide (256 ≤ (x : Int)) = false) :
    Calls Tryz.prog 99 #[.int .u64 x] w fun e w' => (∃ b : Nat, e = .returned (.int .i64 b) ∧ 1 ≤ b ∧ b ≤ 64 ∧ 2 ^ (b - 1) ≤ x ∧ x < 2 ^ b) ∧ w' = w := by
  have hi : (((x : Int)) % 256).toNat < lenTab.size := by rw [lenTab_size]; omega
  have q1 := t1
  have q2 := t2
  have q3 := t3
  simp only [decide_eq_true_eq, decide_eq_false_iff_not] at q1 q2 q3
  have Q := Aside0.mk (at_tab 0 (by omega) (((x : Int)) % 256) (x / 2 ^ 0) (by omega) (by omega) (by omega) hi)
  clear q1 q2 q3 h1 hx
  go_enter Tryz.func99, Tryz.ntmps99
  go_wp2
  go_ret
  obtain ⟨l, q0, q1, q2, q3, q4⟩ := Q.out
  obtain ⟨r1, r2⟩ := len_fin rfl q1 q3 q4
  exact ⟨⟨0 + l, (congrArg (fun z : Int => Ending.returned (.int .i64 z)) ((congrArg wrap64 (Int.zero_add _).symm).trans q0)), by omega, by omega, r1, r2⟩, rfl⟩
set_option maxRecDepth 100000 in
theorem len64_001 (x : Nat) (h1 : 1 ≤ x) (hx : x < 2 ^ 64) (w : World) (t1 : decide (4294967296 ≤ (x : Int)) = false) (t2 : decide (65536 ≤ (x : Int)) = false) (t3 : decide (256 ≤ (x : Int)) = true) :
    Calls Tryz.prog 99 #[.int .u64 x] w fun e w' => (∃ b : Nat, e = .returned (.int .i64 b) ∧ 1 ≤ b ∧ b ≤ 64 ∧ 2 ^ (b - 1) ≤ x ∧ x < 2 ^ b) ∧ w' = w := by
  have hi : (((x : Int) / 256) % 256).toNat < lenTab.size := by rw [lenTab_size]; omega
  have q1 := t1
  have q2 := t2
  have q3 := t3
  simp only [decide_eq_true_eq, decide_eq_false_iff_not] at q1 q2 q3
  have Q := Aside0.mk (at_tab 8 (by omega) (((x : Int) / 256) % 256) (x / 2 ^ 8) (by omega) (by omega) (by omega) hi)
  clear q1 q2 q3 h1 hx
  go_enter Tryz.func99, Tryz.ntmps99
  go_wp2
  go_ret
  obtain ⟨l, q0, q1, q2, q3, q4⟩ := Q.out
  obtain ⟨r1, r2⟩ := len_fin rfl q1 q3 q4
  exact ⟨⟨8 + l, (congrArg (fun z : Int => Ending.returned (.int .i64 z)) q0), by omega, by omega, r1, r2⟩, rfl⟩
set_option maxRecDepth 100000 in
theorem len64_010 (x : Nat) (h1 : 1 ≤ x) (hx : x < 2 ^ 64) (w : World) (t1 : decide (4294967296 ≤ (x : Int)) = false) (t2 : decide (65536 ≤ (x : Int)) = true) (t3 : decide (256 ≤ (x : Int) / 65536) = false) :
    Calls Tryz.prog 99 #[.int .u64 x] w fun e w' => (∃ b : Nat, e = .returned (.int .i64 b) ∧ 1 ≤ b ∧ b ≤ 64 ∧ 2 ^ (b - 1) ≤ x ∧ x < 2 ^ b) ∧ w' = w := by
  have hi : (((x : Int) / 65536) % 256).toNat < lenTab.size := by rw [lenTab_size]; omega
  have q1 := t1
  have q2 := t2
  have q3 := t3
  simp only [decide_eq_true_eq, decide_eq_false_iff_not] at q1 q2 q3
  have Q := Aside0.mk (at_tab 16 (by omega) (((x : Int) / 65536) % 256) (x / 2 ^ 16) (by omega) (by omega) (by omega) hi)
  clear q1 q2 q3 h1 hx
  go_enter Tryz.func99, Tryz.ntmps99
  go_wp2
  go_ret
  obtain ⟨l, q0, q1, q2, q3, q4⟩ := Q.out
  obtain ⟨r1, r2⟩ := len_fin rfl q1 q3 q4
  exact ⟨⟨16 + l, (congrArg (fun z : Int => Ending.returned (.int .i64 z)) q0), by omega, by omega, r1, r2⟩, rfl⟩
set_option maxRecDepth 100000 in
theorem len64_011 (x : Nat) (h1 : 1 ≤ x) (hx : x < 2 ^ 64) (w : World) (t1 : decide (4294967296 ≤ (x : Int)) = false) (t2 : decide (65536 ≤ (x : Int)) = true) (t3 : decide (256 ≤ (x : Int) / 65536) = true) :
    Calls Tryz.prog 99 #[.int .u64 x] w fun e w' => (∃ b : Nat, e = .returned (.int .i64 b) ∧ 1 ≤ b ∧ b ≤ 64 ∧ 2 ^ (b - 1) ≤ x ∧ x < 2 ^ b) ∧ w' = w := by
  have hi : (((x : Int) / 65536 / 256) % 256).toNat < lenTab.size := by rw [lenTab_size]; omega
  have q1 := t1
  have q2 := t2
  have q3 := t3
  simp only [decide_eq_true_eq, decide_eq_false_iff_not] at q1 q2 q3
  have Q := Aside0.mk (at_tab 24 (by omega) (((x : Int) / 65536 / 256) % 256) (x / 2 ^ 24) (by omega) (by omega) (by omega) hi)
  clear q1 q2 q3 h1 hx
  go_enter Tryz.func99, Tryz.ntmps99
  go_wp2
  go_ret
  obtain ⟨l, q0, q1, q2, q3, q4⟩ := Q.out
  obtain ⟨r1, r2⟩ := len_fin rfl q1 q3 q4
  exact ⟨⟨24 + l, (congrArg (fun z : Int => Ending.returned (.int .i64 z)) q0), by omega, by omega, r1, r2⟩, rfl⟩
set_option maxRecDepth 100000 in
theorem len64_100 (x : Nat) (h1 : 1 ≤ x) (hx : x < 2 ^ 64) (w : World) (t1 : decide (4294967296 ≤ (x : Int)) = true) (t2 : decide (65536 ≤ (x : Int) / 4294967296) = false) (t3 : decide (256 ≤ (x : Int) / 4294967296) = false) :
    Calls Tryz.prog 99 #[.int .u64 x] w fun e w' => (∃ b : Nat, e = .returned (.int .i64 b) ∧ 1 ≤ b ∧ b ≤ 64 ∧ 2 ^ (b - 1) ≤ x ∧ x < 2 ^ b) ∧ w' = w := by
  have hi : (((x : Int) / 4294967296) % 256).toNat < lenTab.size := by rw [lenTab_size]; omega
  have q1 := t1
  have q2 := t2
  have q3 := t3
  simp only [decide_eq_true_eq, decide_eq_false_iff_not] at q1 q2 q3
  have Q := Aside0.mk (at_tab 32 (by omega) (((x : Int) / 4294967296) % 256) (x / 2 ^ 32) (by omega) (by omega) (by omega) hi)
  clear q1 q2 q3 h1 hx
  go_enter Tryz.func99, Tryz.ntmps99
  go_wp2
  go_ret
  obtain ⟨l, q0, q1, q2, q3, q4⟩ := Q.out
  obtain ⟨r1, r2⟩ := len_fin rfl q1 q3 q4
  exact ⟨⟨32 + l, (congrArg (fun z : Int => Ending.returned (.int .i64 z)) q0), by omega, by omega, r1, r2⟩, rfl⟩
set_option maxRecDepth 100000 in
theorem len64_101 (x : Nat) (h1 : 1 ≤ x) (hx : x < 2 ^ 64) (w : World) (t1 : decide (4294967296 ≤ (x : Int)) = true) (t2 : decide (65536 ≤ (x : Int) / 4294967296) = false) (t3 : decide (256 ≤ (x : Int) / 4294967296) = true) :
    Calls Tryz.prog 99 #[.int .u64 x] w fun e w' => (∃ b : Nat, e = .returned (.int .i64 b) ∧ 1 ≤ b ∧ b ≤ 64 ∧ 2 ^ (b - 1) ≤ x ∧ x < 2 ^ b) ∧ w' = w := by
  have hi : (((x : Int) / 4294967296 / 256) % 256).toNat < lenTab.size := by rw [lenTab_size]; omega
  have q1 := t1
  have q2 := t2
  have q3 := t3
  simp only [decide_eq_true_eq, decide_eq_false_iff_not] at q1 q2 q3
  have Q := Aside0.mk (at_tab 40 (by omega) (((x : Int) / 4294967296 / 256) % 256) (x / 2 ^ 40) (by omega) (by omega) (by omega) hi)
  clear q1 q2 q3 h1 hx
  go_enter Tryz.func99, Tryz.ntmps99
  go_wp2
  go_ret
  obtain ⟨l, q0, q1, q2, q3, q4⟩ := Q.out
  obtain ⟨r1, r2⟩ := len_fin rfl q1 q3 q4
  exact ⟨⟨40 + l, (congrArg (fun z : Int => Ending.returned (.int .i64 z)) q0), by omega, by omega, r1, r2⟩, rfl⟩
set_option maxRecDepth 100000 in
theorem len64_110 (x : Nat) (h1 : 1 ≤ x) (hx : x < 2 ^ 64) (w : World) (t1 : decide (4294967296 ≤ (x : Int)) = true) (t2 : decide (65536 ≤ (x : Int) / 4294967296) = true) (t3 : decide (256 ≤ (x : Int) / 4294967296 / 65536) = false) :
    Calls Tryz.prog 99 #[.int .u64 x] w fun e w' => (∃ b : Nat, e = .returned (.int .i64 b) ∧ 1 ≤ b ∧ b ≤ 64 ∧ 2 ^ (b - 1) ≤ x ∧ x < 2 ^ b) ∧ w' = w := by
  have hi : (((x : Int) / 4294967296 / 65536) % 256).toNat < lenTab.size := by rw [lenTab_size]; omega
  have q1 := t1
  have q2 := t2
  have q3 := t3
  simp only [decide_eq_true_eq, decide_eq_false_iff_not] at q1 q2 q3
  have Q := Aside0.mk (at_tab 48 (by omega) (((x : Int) / 4294967296 / 65536) % 256) (x / 2 ^ 48) (by omega) (by omega) (by omega) hi)
  clear q1 q2 q3 h1 hx
  go_enter Tryz.func99, Tryz.ntmps99
  go_wp2
  go_ret
  obtain ⟨l, q0, q1, q2, q3, q4⟩ := Q.out
  obtain ⟨r1, r2⟩ := len_fin rfl q1 q3 q4
  exact ⟨⟨48 + l, (congrArg (fun z : Int => Ending.returned (.int .i64 z)) q0), by omega, by omega, r1, r2⟩, rfl⟩
set_option maxRecDepth 100000 in
theorem len64_111 (x : Nat) (h1 : 1 ≤ x) (hx : x < 2 ^ 64) (w : World) (t1 : decide (4294967296 ≤ (x : Int)) = true) (t2 : decide (65536 ≤ (x : Int) / 4294967296) = true) (t3 : decide (256 ≤ (x : Int) / 4294967296 / 65536) = true) :
    Calls Tryz.prog 99 #[.int .u64 x] w fun e w' => (∃ b : Nat, e = .returned (.int .i64 b) ∧ 1 ≤ b ∧ b ≤ 64 ∧ 2 ^ (b - 1) ≤ x ∧ x < 2 ^ b) ∧ w' = w := by
  have hi : (((x : Int) / 4294967296 / 65536 / 256) % 256).toNat < lenTab.size := by rw [lenTab_size]; omega
  have q1 := t1
  have q2 := t2
  have q3 := t3
  simp only [decide_eq_true_eq, decide_eq_false_iff_not] at q1 q2 q3
  have Q := Aside0.mk (at_tab 56 (by omega) (((x : Int) / 4294967296 / 65536 / 256) % 256) (x / 2 ^ 56) (by omega) (by omega) (by omega) hi)
  clear q1 q2 q3 h1 hx
  go_enter Tryz.func99, Tryz.ntmps99
  go_wp2
  go_ret
  obtain ⟨l, q0, q1, q2, q3, q4⟩ := Q.out
  obtain ⟨r1, r2⟩ := len_fin rfl q1 q3 q4
  exact ⟨⟨56 + l, (congrArg (fun z : Int => Ending.returned (.int .i64 z)) q0), by omega, by omega, r1, r2⟩, rfl⟩
theorem len64_calls (x : Nat) (h1 : 1 ≤ x) (hx : x < 2 ^ 64) (w : World) :
    Calls Tryz.prog 99 #[.int .u64 x] w fun e w' => (∃ b : Nat, e = .returned (.int .i64 b) ∧ 1 ≤ b ∧ b ≤ 64 ∧ 2 ^ (b - 1) ≤ x ∧ x < 2 ^ b) ∧ w' = w := by
  cases t0 : decide (4294967296 ≤ (x : Int)) with
  | false =>
    cases t1 : decide (65536 ≤ (x : Int)) with
    | false =>
      cases t2 : decide (256 ≤ (x : Int)) with
      | false =>
        exact len64_000 x h1 hx w t0 t1 t2
      | true =>
        exact len64_001 x h1 hx w t0 t1 t2
    | true =>
      cases t2 : decide (256 ≤ (x : Int) / 65536) with
      | false =>
        exact len64_010 x h1 hx w t0 t1 t2
      | true =>
        exact len64_011 x h1 hx w t0 t1 t2
  | true =>
    cases t1 : decide (65536 ≤ (x : Int) / 4294967296) with
    | false =>
      cases t2 : decide (256 ≤ (x : Int) / 4294967296) with
      | false =>
        exact len64_100 x h1 hx w t0 t1 t2
      | true =>
        exact len64_101 x h1 hx w t0 t1 t2
    | true =>
      cases t2 : decide (256 ≤ (x : Int) / 4294967296 / 65536) with
      | false =>
        exact len64_110 x h1 hx w t0 t1 t2
      | true =>
        exact len64_111 x h1 hx w t0 t1 t2
end Go.Proofs.YtodbjojglibniaaGreatDoor

set_option linter.unusedVariables false
set_option linter.unusedSimpArgs false
namespace Go.Proofs.YtodbjojglibniaaGreatDoor
open Go.RowKit Go.Proofs.YtodbjojglibniaaGreatDoorW.PrintWords Go.Proofs.YtodbjojglibniaaGreatDoorW.PrintLast

/-- Nothing but block g was turned; what is new came behind. -/
structure Only (g : Nat) (w w' : World) : Prop where
  os : w'.os = w.os
  tape : w'.tape = w.tape
  output : w'.output = w.output
  size : w.heap.size ≤ w'.heap.size
  block : ∀ k, k < w.heap.size → k ≠ g → w'.heap[k]? = w.heap[k]?
theorem Only.refl (g : Nat) (w : World) : Only g w w := ⟨rfl, rfl, rfl, Nat.le_refl _, fun _ _ _ => rfl⟩
theorem Only.trans {g : Nat} {a b c : World} (h : Only g a b) (k : Only g b c) : Only g a c :=
  ⟨k.os.trans h.os, k.tape.trans h.tape, k.output.trans h.output, Nat.le_trans h.size k.size, fun i hi hg => (k.block i (Nat.lt_of_lt_of_le hi h.size) hg).trans (h.block i hi hg)⟩
theorem Only.of_below {g : Nat} {a b : World} (h : Below a.heap.size a b) : Only g a b := ⟨h.os, h.tape, h.output, h.size, fun k hk _ => h.block k hk⟩
theorem Only.set {g : Nat} {a w : World} (h : Only g a w) (i : Nat) (u : Value) : Only g a (w.setCell ⟨g, i, none⟩ u) := by
  have hb := Below.setCell (B := 0) (a := w) (Below.refl 0 w) (p := ⟨g, i, none⟩) (Nat.zero_le _) u
  exact ⟨hb.os.trans h.os, hb.tape.trans h.tape, hb.output.trans h.output, Nat.le_trans h.size hb.size, fun k hk hg => (Below.heap_setCell w ⟨g, i, none⟩ u k hg).trans (h.block k hk hg)⟩
theorem Only.below {g : Nat} {w0 a b : World} (h : Below w0.heap.size w0 a) (k : Only g a b) (hg : w0.heap.size ≤ g) : Below w0.heap.size w0 b :=
  ⟨k.os.trans h.os, k.tape.trans h.tape, k.output.trans h.output, Nat.le_trans h.size k.size, fun i hi => (k.block i (Nat.lt_of_lt_of_le hi h.size) (by omega)).trans (h.block i hi)⟩

/-- A scaler at block g. -/
def Scaler (w : World) (g : Nat) (hi lo s : Int) : Prop := w.heap[g]? = some (.cells #[.int .u64 hi, .int .u64 lo, .int .i64 s] 165 (0, 0))
/-- The table's row for the power p. -/
def PowAt (w : World) (p : Int) (hi lo : Int) : Prop := w.cell? ⟨14, (p + 348).toNat * 2, none⟩ = some (.int .u64 hi) ∧ w.cell? ⟨14, (p + 348).toNat * 2 + 1, none⟩ = some (.int .u64 lo)

theorem prescale_calls (g : Nat) (a b c e p lp hi lo : Int) (w : World) (h1 : -348 ≤ p) (h2 : p ≤ 347) (he : -5000 ≤ e) (he2 : e ≤ 5000) (hl : -5000 ≤ lp) (hl2 : lp ≤ 5000)
    (hg : w.heap[g]? = some (.cells #[.int .u64 a, .int .u64 b, .int .i64 c] 165 (0, 0))) (hp : PowAt w p hi lo) (hgt : g ≠ 14) :
    Calls Tryz.prog 101 #[.pointer (some ⟨g, 0, none⟩), .int .i64 e, .int .i64 p, .int .i64 lp] w fun e1 w' => e1 = .returned (.tuple #[]) ∧ Scaler w' g hi lo (-(e + lp + 3)) ∧ Only g w w' := by
  obtain ⟨hp1, hp2⟩ := hp
  have c0 : w.cell? ⟨g, 0, none⟩ = some (.int .u64 a) := (blk_cell hg 0).trans rfl
  have c1 : w.cell? ⟨g, 1, none⟩ = some (.int .u64 b) := (blk_cell hg 1).trans rfl
  have c2 : w.cell? ⟨g, 2, none⟩ = some (.int .i64 c) := (blk_cell hg 2).trans rfl
  have f0 := blk_frozen hg 0
  have f1 := blk_frozen hg 1
  have f2 := blk_frozen hg 2
  have HG := Aside0.mk hg
  clear hg
  go_enter Tryz.func101, Tryz.ntmps101
  go_wp2
  go_end0
  have HG := HG.out
  refine ⟨rfl, ?_, (((Only.refl g w).set 0 _).set 1 _).set 2 _⟩
  have b1 := blk_set HG 0 (.int .u64 hi)
  have b2 := blk_set b1 1 (.int .u64 lo)
  have b3 := blk_set b2 2 (.int .i64 (-(e + lp + 3)))
  simpa [Scaler] using b3

theorem mask63 {s : Int} (h0 : 0 ≤ s) (h1 : s < 64) : Go.bits .and .i64 s 63 = s := by
  obtain ⟨n, rfl⟩ := Int.eq_ofNat_of_zero_le h0
  have : ∀ n : Fin 64, Go.bits .and .i64 (n.1 : Int) 63 = n.1 := by decide +kernel
  exact this ⟨n, by omega⟩

section
variable (g S : Nat) (x hi lo : Int) (w : World)
theorem uscale_odd (hg : Scaler w g hi lo S) (hs1 : S < 64) (hx0 : 0 ≤ x) (hx : x < 2 ^ 64) (hh0 : 0 ≤ hi) (hh : hi < 2 ^ 64) (ht : (IntKind.u64.wrap (x * hi / 18446744073709551616 / 2 ^ S * 2 ^ S) != x * hi / 18446744073709551616) = true) :
    Calls Tryz.prog 102 #[.int .u64 x, .pointer (some ⟨g, 0, none⟩)] w fun e1 w' => e1 = .returned (.int .u64 (Go.bits .or .u64 (x * hi / 18446744073709551616 / 2 ^ S) 1)) ∧ ∃ n, w' = w.drewN n := by
  have c0 : w.cell? ⟨g, 0, none⟩ = some (.int .u64 hi) := (blk_cell hg 0).trans rfl
  have c1 : w.cell? ⟨g, 1, none⟩ = some (.int .u64 lo) := (blk_cell hg 1).trans rfl
  have c2 : w.cell? ⟨g, 2, none⟩ = some (.int .i64 S) := (blk_cell hg 2).trans rfl
  have hm := mask63 (s := S) (by omega) (by omega)
  have hn : min S 64 = S := by omega
  clear hg
  go_enter Tryz.func102, Tryz.ntmps102
  go_wp2_with fail
  go_call (mul64_calls x hi hx0 hx hh0 hh _) as e w' ⟨rfl, rfl⟩
  go_wp2_with fail
  go_ret
  exact ⟨rfl, 0, rfl⟩
theorem uscale_even (b1 b2 : Bool) (hg : Scaler w g hi lo S) (hs1 : S < 64) (hx0 : 0 ≤ x) (hx : x < 2 ^ 64) (hh0 : 0 ≤ hi) (hh : hi < 2 ^ 64) (hl0 : 0 ≤ lo) (hl : lo < 2 ^ 64) (ht : (IntKind.u64.wrap (x * hi / 18446744073709551616 / 2 ^ S * 2 ^ S) != x * hi / 18446744073709551616) = false)
    (hb1 : decide (x * hi % 18446744073709551616 < x * lo / 18446744073709551616) = b1) (hb2 : decide (1 < IntKind.u64.wrap (x * hi % 18446744073709551616 - x * lo / 18446744073709551616)) = b2) :
    Calls Tryz.prog 102 #[.int .u64 x, .pointer (some ⟨g, 0, none⟩)] w fun e1 w' => e1 = .returned (.int .u64 (Go.bits .or .u64 (IntKind.u64.wrap (x * hi / 18446744073709551616 - (if b1 then 1 else 0)) / 2 ^ S) (if b2 then 1 else 0))) ∧ ∃ n, w' = w.drewN n := by
  have c0 : w.cell? ⟨g, 0, none⟩ = some (.int .u64 hi) := (blk_cell hg 0).trans rfl
  have c1 : w.cell? ⟨g, 1, none⟩ = some (.int .u64 lo) := (blk_cell hg 1).trans rfl
  have c2 : w.cell? ⟨g, 2, none⟩ = some (.int .i64 S) := (blk_cell hg 2).trans rfl
  have hm := mask63 (s := S) (by omega) (by omega)
  have hn : min S 64 = S := by omega
  clear hg
  generalize hz1 : (if b1 then (1 : Int) else 0) = z1
  generalize hz2 : (if b2 then (1 : Int) else 0) = z2
  have B1 : ∀ w, Calls Tryz.prog 91 #[.bool b1] w fun e w' => e = .returned (.int .u64 z1) ∧ w' = w := fun w => by rw [← hz1]; exact bool64_calls b1 w
  have B2 : ∀ w, Calls Tryz.prog 91 #[.bool b2] w fun e w' => e = .returned (.int .u64 z2) ∧ w' = w := fun w => by rw [← hz2]; exact bool64_calls b2 w
  clear hz1 hz2
  go_enter Tryz.func102, Tryz.ntmps102
  go_wp2_with fail
  go_call (mul64_calls x hi hx0 hx hh0 hh _) as e w' ⟨rfl, rfl⟩
  go_wp2_with fail
  go_call (mul64_calls x lo hx0 hx hl0 hl _) as e w' ⟨rfl, rfl⟩
  go_wp2_with fail
  go_call (B1 _) as e w' ⟨rfl, rfl⟩
  go_wp2_with fail
  go_quiet (exact Calls.quiet_of_same (B2 _))
  go_wp2
  go_ret
  exact ⟨rfl, _, rfl⟩
end
theorem uscale_calls (g S : Nat) (x hi lo : Nat) (w : World) (hg : Scaler w g hi lo S) (hs1 : S < 64) (hx : x < 2 ^ 64) (hh : hi < 2 ^ 64) (hl : lo < 2 ^ 64) (hpos : 1 ≤ x * hi / 2 ^ 64) :
    Calls Tryz.prog 102 #[.int .u64 x, .pointer (some ⟨g, 0, none⟩)] w fun e1 w' => e1 = .returned (.int .u64 (FP.uscaleN x hi lo S : Int)) ∧ ∃ n, w' = w.drewN n := by
  have eh : (x : Int) * hi / 18446744073709551616 = ((x * hi / 2 ^ 64 : Nat) : Int) := by rw [Int.natCast_ediv, Int.natCast_mul]; rfl
  have em : (x : Int) * hi % 18446744073709551616 = ((x * hi % 2 ^ 64 : Nat) : Int) := by rw [Int.natCast_emod, Int.natCast_mul]; rfl
  have em2 : (x : Int) * lo / 18446744073709551616 = ((x * lo / 2 ^ 64 : Nat) : Int) := by rw [Int.natCast_ediv, Int.natCast_mul]; rfl
  have lim : ∀ {p q : Nat}, p < 2 ^ 64 → q < 2 ^ 64 → p * q / 2 ^ 64 < 2 ^ 64 := by
    intro p q h1 h2
    rw [Nat.div_lt_iff_lt_mul (by decide)]
    exact Nat.mul_lt_mul'' h1 h2
  have l1 := lim hx hh
  have l2 := lim hx hl
  have l3 : x * hi % 2 ^ 64 < 2 ^ 64 := Nat.mod_lt _ (by decide)
  have hp := Nat.two_pow_pos S
  have hdiv : x * hi / 2 ^ 64 / 2 ^ S * 2 ^ S ≤ x * hi / 2 ^ 64 := Nat.div_mul_le_self _ _
  have ew : IntKind.u64.wrap ((x : Int) * hi / 18446744073709551616 / 2 ^ S * 2 ^ S) = ((x * hi / 2 ^ 64 / 2 ^ S * 2 ^ S : Nat) : Int) := by
    rw [eh]
    have : ((x * hi / 2 ^ 64 : Nat) : Int) / 2 ^ S * 2 ^ S = ((x * hi / 2 ^ 64 / 2 ^ S * 2 ^ S : Nat) : Int) := by rw [Int.natCast_mul, Int.natCast_ediv (x * hi / 2 ^ 64) (2 ^ S), Int.natCast_pow]; rfl
    rw [this]
    exact wrapU_lt (by omega)
  have hq : ∀ n : Nat, n < 2 ^ 64 → n / 2 ^ S < 2 ^ 64 := fun n hn => Nat.lt_of_le_of_lt (Nat.div_le_self _ _) hn
  by_cases c : x * hi / 2 ^ 64 / 2 ^ S * 2 ^ S ≠ x * hi / 2 ^ 64
  · have hr : FP.uscaleN x hi lo S = x * hi / 2 ^ 64 / 2 ^ S ||| 1 := by unfold FP.uscaleN; simp only; rw [if_pos c]
    have := uscale_odd g S x hi lo w hg hs1 (by omega) (by omega) (by omega) (by omega) (by rw [ew, eh]; simp only [bne_iff_ne, ne_eq, Int.ofNat_inj]; exact c)
    rw [eh] at this
    have e2 : ((x * hi / 2 ^ 64 : Nat) : Int) / 2 ^ S = ((x * hi / 2 ^ 64 / 2 ^ S : Nat) : Int) := by rw [Int.natCast_ediv (x * hi / 2 ^ 64) (2 ^ S), Int.natCast_pow]; rfl
    rw [e2, show (1 : Int) = ((1 : Nat) : Int) from rfl, or64 (hq _ l1) (by decide), ← hr] at this
    exact this
  · have hr : FP.uscaleN x hi lo S = (x * hi / 2 ^ 64 - (if x * hi % 2 ^ 64 < x * lo / 2 ^ 64 then 1 else 0)) / 2 ^ S ||| (if 1 < (x * hi % 2 ^ 64 + 2 ^ 64 - x * lo / 2 ^ 64) % 2 ^ 64 then 1 else 0) := by
      unfold FP.uscaleN; simp only; rw [if_neg c]
    have hw2 : IntKind.u64.wrap ((x : Int) * hi % 18446744073709551616 - (x : Int) * lo / 18446744073709551616) = (((x * hi % 2 ^ 64 + 2 ^ 64 - x * lo / 2 ^ 64) % 2 ^ 64 : Nat) : Int) := by
      rw [em, em2]
      have : IntKind.u64.wrap (((x * hi % 2 ^ 64 : Nat) : Int) - ((x * lo / 2 ^ 64 : Nat) : Int)) = (((x * hi % 2 ^ 64 : Nat) : Int) - ((x * lo / 2 ^ 64 : Nat) : Int)) % 18446744073709551616 := by simp [IntKind.wrap, IntKind.bits, IntKind.signed]
      rw [this]
      omega
    have := uscale_even g S x hi lo w (decide (x * hi % 2 ^ 64 < x * lo / 2 ^ 64)) (decide (1 < (x * hi % 2 ^ 64 + 2 ^ 64 - x * lo / 2 ^ 64) % 2 ^ 64)) hg hs1 (by omega) (by omega) (by omega) (by omega) (by omega) (by omega)
      (by rw [ew, eh]; simp only [bne_eq_false_iff_eq, Int.ofNat_inj]; exact Decidable.not_not.mp c)
      (by rw [em, em2, decide_eq_decide]; omega)
      (by rw [hw2, decide_eq_decide]; omega)
    rw [eh] at this
    have e3 : IntKind.u64.wrap (((x * hi / 2 ^ 64 : Nat) : Int) - (if decide (x * hi % 2 ^ 64 < x * lo / 2 ^ 64) = true then 1 else 0)) = ((x * hi / 2 ^ 64 - (if x * hi % 2 ^ 64 < x * lo / 2 ^ 64 then 1 else 0) : Nat) : Int) := by
      split
      · rename_i h; rw [decide_eq_true_eq] at h; rw [if_pos h]
        have : ((x * hi / 2 ^ 64 : Nat) : Int) - 1 = ((x * hi / 2 ^ 64 - 1 : Nat) : Int) := by omega
        rw [this]; exact wrapU_lt (by omega)
      · rename_i h; rw [decide_eq_true_eq] at h; rw [if_neg h, Int.sub_zero, Nat.sub_zero]; exact wrapU_lt l1
    rw [e3] at this
    have e4 : ((x * hi / 2 ^ 64 - (if x * hi % 2 ^ 64 < x * lo / 2 ^ 64 then 1 else 0) : Nat) : Int) / 2 ^ S = (((x * hi / 2 ^ 64 - (if x * hi % 2 ^ 64 < x * lo / 2 ^ 64 then 1 else 0)) / 2 ^ S : Nat) : Int) := by rw [Int.natCast_ediv _ (2 ^ S), Int.natCast_pow]; rfl
    have e5 : (if decide (1 < (x * hi % 2 ^ 64 + 2 ^ 64 - x * lo / 2 ^ 64) % 2 ^ 64) = true then (1 : Int) else 0) = ((if 1 < (x * hi % 2 ^ 64 + 2 ^ 64 - x * lo / 2 ^ 64) % 2 ^ 64 then 1 else 0 : Nat) : Int) := by
      simp only [decide_eq_true_eq]; split <;> rfl
    rw [e4, e5, or64 (hq _ (by omega)) (by split <;> decide), ← hr] at this
    exact this
end Go.Proofs.YtodbjojglibniaaGreatDoor

set_option linter.unusedVariables false
set_option linter.unusedSimpArgs false
namespace Go.Proofs.YtodbjojglibniaaGreatDoor
open Go.RowKit Go.Proofs.YtodbjojglibniaaGreatDoorW.PrintWords Go.Proofs.YtodbjojglibniaaGreatDoorW.PrintLast

theorem frombits_run (x : Int) (w : World) : (callFunc 92 #[.int .u64 x]).run Tryz.prog w = .ok (.value (.float .f64 x.toNat)) w := by kernel_rfl

theorem pack64_small (m e : Int) (w : World) (h : (Go.bits .and .u64 m 4503599627370496 == 0) = true) :
    Calls Tryz.prog 109 #[.int .u64 m, .int .i64 e] w fun e w' => e = .returned (.tuple #[.float .f64 m.toNat, .nilIface]) ∧ w' = w := by
  have hf := frombits_run
  go_enter Tryz.func109, Tryz.ntmps109
  go_wp2
  go_ret2
  exact ⟨rfl, rfl⟩
theorem pack64_inf (m e : Int) (w : World) (h : (Go.bits .and .u64 m 4503599627370496 == 0) = false) (he : 972 ≤ e) :
    Calls Tryz.prog 109 #[.int .u64 m, .int .i64 e] w fun e w' => e = .returned (.tuple #[.float .f64 (Go.bits .or .u64 (Go.bits .and .u64 m 9223372036854775808) 9218868437227405312).toNat, .iface 124 (.int .i64 1)]) ∧ w' = w := by
  have hf := frombits_run
  go_enter Tryz.func109, Tryz.ntmps109
  go_wp2
  go_ret2
  exact ⟨rfl, rfl⟩
theorem pack64_big (m e : Int) (w : World) (h : (Go.bits .and .u64 m 4503599627370496 == 0) = false) (he : decide (972 ≤ e) = false) (he0 : -1074 ≤ e) (he1 : e < 972) :
    Calls Tryz.prog 109 #[.int .u64 m, .int .i64 e] w fun e1 w' => e1 = .returned (.tuple #[.float .f64 (Go.bits .or .u64 (Go.bits .andNot .u64 m 4503599627370496) ((1075 + e) * 4503599627370496)).toNat, .nilIface]) ∧ w' = w := by
  have hf := frombits_run
  go_enter Tryz.func109, Tryz.ntmps109
  go_wp2
  go_ret2
  exact ⟨rfl, rfl⟩

/-! ### The bits of a packed float -/
theorem andnot64 {a b : Nat} (ha : a < 2 ^ 64) (hb : b < 2 ^ 64) : Go.bits .andNot .u64 (a : Int) (b : Int) = ((a &&& (2 ^ 64 - 1 - b) : Nat) : Int) := by
  have h : Go.bits .andNot .u64 (a : Int) (b : Int) = IntKind.u64.wrap (((BitVec.ofNat 64 a &&& ~~~BitVec.ofNat 64 b).toNat : Nat) : Int) := by
    simp only [Go.bits, BitVec.ofInt_natCast]; rfl
  have h2 : (BitVec.ofNat 64 a &&& ~~~BitVec.ofNat 64 b).toNat = a &&& (2 ^ 64 - 1 - b) := by
    rw [BitVec.toNat_and, BitVec.toNat_not, BitVec.toNat_ofNat, BitVec.toNat_ofNat, Nat.mod_eq_of_lt ha, Nat.mod_eq_of_lt hb]
  rw [h, h2]
  exact wrapU_lt (Nat.and_lt_two_pow _ (by omega))
theorem and_bit (n i : Nat) : n &&& 2 ^ i = n / 2 ^ i % 2 * 2 ^ i := by
  have hlt : n / 2 ^ i % 2 < 2 := Nat.mod_lt _ (by decide)
  apply Nat.eq_of_testBit_eq
  intro j
  rw [Nat.testBit_and, Nat.testBit_two_pow]
  by_cases h : n / 2 ^ i % 2 = 1
  · rw [h, Nat.one_mul, Nat.testBit_two_pow]
    by_cases e : i = j
    · subst e; rw [Nat.testBit_eq_decide_div_mod_eq, h]; simp
    · simp [e]
  · rw [show n / 2 ^ i % 2 = 0 by omega, Nat.zero_mul, Nat.zero_testBit]
    by_cases e : i = j
    · subst e; rw [Nat.testBit_eq_decide_div_mod_eq]; simp [h]
    · simp [e]
/-- A sign, and below it a number of 63 bits. -/
theorem sign_or (s : Bool) {n : Nat} (h : n < 2 ^ 63) : (if s then 2 ^ 63 else 0) ||| n = FP.wordOf s n := by
  unfold FP.wordOf
  cases s
  · simp
  · simp only [if_true]
    have := Nat.two_pow_add_eq_or_of_lt h 1
    rw [Nat.mul_one] at this
    exact this.symm
theorem place_or (s : Bool) {lo K : Nat} (h1 : lo < 2 ^ 52) (h2 : K < 2 ^ 11) : FP.wordOf s lo ||| K * 2 ^ 52 = FP.wordOf s (lo + K * 2 ^ 52) := by
  rw [← sign_or s (by omega), ← sign_or s (by omega), Nat.or_assoc]
  congr 1
  rw [Nat.or_comm, Nat.mul_comm, ← Nat.two_pow_add_eq_or_of_lt h1]
  omega
theorem clear_bit (s : Bool) {lo : Nat} (h1 : lo < 2 ^ 52) : FP.wordOf s (2 ^ 52 + lo) &&& (2 ^ 64 - 1 - 2 ^ 52) = FP.wordOf s lo := by
  rw [← sign_or s (by omega), ← sign_or s (by omega)]
  have e : 2 ^ 52 + lo = 2 ^ 52 ||| lo := by
    have := Nat.two_pow_add_eq_or_of_lt h1 1
    rw [Nat.mul_one] at this; exact this
  rw [e, Nat.and_or_distrib_right, Nat.and_or_distrib_right]
  have a1 : (if s then 2 ^ 63 else 0) &&& (2 ^ 64 - 1 - 2 ^ 52) = (if s then 2 ^ 63 else 0) := by cases s <;> decide +kernel
  have a2 : 2 ^ 52 &&& (2 ^ 64 - 1 - 2 ^ 52) = 0 := by decide +kernel
  have a3 : lo &&& (2 ^ 64 - 1 - 2 ^ 52) = lo := by
    have b : (2 ^ 64 - 1 - 2 ^ 52 : Nat) = 2 ^ 52 * 4094 + (2 ^ 52 - 1) := by decide +kernel
    rw [b, Nat.two_pow_add_eq_or_of_lt (by decide +kernel) 4094, Nat.and_or_distrib_left, Nat.and_two_pow_sub_one_eq_mod, Nat.mod_eq_of_lt h1]
    have c : lo &&& 2 ^ 52 * 4094 = 0 := by
      have := Nat.and_two_pow_sub_one_eq_mod lo 52
      rw [Nat.mod_eq_of_lt h1] at this
      rw [← this, Nat.and_assoc]
      have : (2 ^ 52 - 1) &&& 2 ^ 52 * 4094 = 0 := by decide +kernel
      rw [this, Nat.and_zero]
    rw [c, Nat.zero_or]
  rw [a1, a2, a3, Nat.zero_or]

def errOf (r : Nat) : Value := if r = FP.INF then .iface 124 (.int .i64 1) else .nilIface
theorem wordOf_lt (s : Bool) {n : Nat} (h : n < 2 ^ 63) : FP.wordOf s n < 2 ^ 64 := by unfold FP.wordOf; split <;> omega

theorem pack64_calls (s : Bool) (r : Nat) (e : Int) (hr : r < 2 ^ 53) (he0 : -1074 ≤ e) (he1 : e ≤ 5000) (w : World) :
    Calls Tryz.prog 109 #[.int .u64 (FP.wordOf s r), .int .i64 e] w fun e1 w' => e1 = .returned (.tuple #[.float .f64 (FP.wordOf s (FP.packN r e)), errOf (FP.packN r e)]) ∧ w' = w := by
  have hm := wordOf_lt s (n := r) (by omega)
  have hand : Go.bits .and .u64 (FP.wordOf s r : Int) 4503599627370496 = ((FP.wordOf s r / 2 ^ 52 % 2 * 2 ^ 52 : Nat) : Int) := by
    rw [← and_bit]; exact and64 hm (by decide)
  have hbit : FP.wordOf s r / 2 ^ 52 % 2 = r / 2 ^ 52 := by unfold FP.wordOf; split <;> omega
  rw [hbit] at hand
  by_cases c : r < 2 ^ 52
  · have hp : FP.packN r e = r := by unfold FP.packN; rw [if_pos c]
    have he : errOf r = .nilIface := by unfold errOf; rw [if_neg (by unfold FP.INF; omega)]
    have := pack64_small (FP.wordOf s r) e w (by rw [hand, show r / 2 ^ 52 = 0 by omega]; rfl)
    rw [hp, he]
    exact this
  · have ht : (Go.bits .and .u64 (FP.wordOf s r : Int) 4503599627370496 == 0) = false := by rw [hand, show r / 2 ^ 52 = 1 by omega]; rfl
    by_cases c2 : 972 ≤ e
    · have hp : FP.packN r e = FP.INF := by unfold FP.packN; rw [if_neg c, if_pos c2]
      have he : errOf FP.INF = .iface 124 (.int .i64 1) := by unfold errOf; rw [if_pos rfl]
      have := pack64_inf (FP.wordOf s r) e w ht c2
      have e1 : Go.bits .and .u64 (FP.wordOf s r : Int) 9223372036854775808 = ((FP.wordOf s 0 : Nat) : Int) := by
        have h1 : Go.bits .and .u64 (FP.wordOf s r : Int) 9223372036854775808 = ((FP.wordOf s r / 2 ^ 63 % 2 * 2 ^ 63 : Nat) : Int) := by
          rw [← and_bit]; exact and64 hm (by decide)
        rw [h1]; congr 1; unfold FP.wordOf; split <;> omega
      have e2 : Go.bits .or .u64 (FP.wordOf s 0 : Int) 9218868437227405312 = ((FP.wordOf s FP.INF : Nat) : Int) := by
        have h1 : Go.bits .or .u64 (FP.wordOf s 0 : Int) 9218868437227405312 = ((FP.wordOf s 0 ||| 2047 * 2 ^ 52 : Nat) : Int) := or64 (wordOf_lt s (by decide)) (by decide)
        rw [h1, place_or s (by decide) (by decide)]; simp [FP.INF]
      rw [e1, e2] at this
      rw [hp, he]
      exact this
    · have hp : FP.packN r e = r - 2 ^ 52 + (1075 + e).toNat * 2 ^ 52 := by unfold FP.packN; rw [if_neg c, if_neg c2]
      have he : errOf (r - 2 ^ 52 + (1075 + e).toNat * 2 ^ 52) = .nilIface := by unfold errOf; rw [if_neg (by unfold FP.INF; omega)]
      have := pack64_big (FP.wordOf s r) e w ht (decide_eq_false c2) he0 (by omega)
      have e1 : Go.bits .andNot .u64 (FP.wordOf s r : Int) 4503599627370496 = ((FP.wordOf s (r - 2 ^ 52) : Nat) : Int) := by
        have h1 : Go.bits .andNot .u64 (FP.wordOf s r : Int) 4503599627370496 = ((FP.wordOf s r &&& (2 ^ 64 - 1 - 2 ^ 52) : Nat) : Int) := andnot64 hm (by decide)
        rw [h1]
        have := clear_bit s (lo := r - 2 ^ 52) (by omega)
        rw [show 2 ^ 52 + (r - 2 ^ 52) = r by omega] at this
        rw [this]
      have e2 : Go.bits .or .u64 (FP.wordOf s (r - 2 ^ 52) : Int) ((1075 + e) * 4503599627370496) = ((FP.wordOf s (r - 2 ^ 52 + (1075 + e).toNat * 2 ^ 52) : Nat) : Int) := by
        rw [← place_or s (by omega) (by omega)]
        have h1 : (1075 + e) * 4503599627370496 = (((1075 + e).toNat * 2 ^ 52 : Nat) : Int) := by omega
        rw [h1]
        exact or64 (wordOf_lt s (by omega)) (by omega)
      rw [e1, e2] at this
      rw [hp, he]
      exact this
end Go.Proofs.YtodbjojglibniaaGreatDoor
