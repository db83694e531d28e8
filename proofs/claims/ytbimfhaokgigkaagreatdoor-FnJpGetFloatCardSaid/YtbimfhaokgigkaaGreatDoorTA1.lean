/- Walks of functions of FnJpGetFloat (A1); conditions stand ahead of each theorem. -/
import Derived.Test.YtbimfhaokgigkaaGreatDoorProg
import Derived.Below
import Derived.Deep.Draws
import Derived.Deep.AppendLies
import Derived.Maps.AppendAt
import Derived.OwnWalk
import Derived.Laws.BytesArg
import Derived.Laws.MakeOwn
import Derived.Laws.OwnMore
import Derived.Deep.OwnRows
import Derived.Tactics
import Derived.Lib.ConvBytes
import Derived.Laws.Slices
import Derived.WalkKit
import Derived.KernelRfl
import Derived.RowKit3
import Derived.Deep.LoopGhost
import Derived.Deep.QuietTactic
import Derived.BigQuiet
import Derived.WideLaws
import Derived.Deep.DeepCutAuto
import Derived.Deep.CutBlock
import Derived.Deep.RegionHeld3
import Derived.Laws.Rows
import Derived.Lib.AppendStr
import Derived.ArgAppend
import Derived.Laws.IdiomCopy
import Derived.OrdersHeld
import Derived.Laws.BitsLemmas
import Derived.RowKit
import Derived.Test.YtbimfhaokgigkaaGreatDoorT00
import Derived.WalkLawsBesides
import Derived.WalkSpells
import Derived.Outline
import Derived.Test.YtbimfhaokgigkaaGreatDoorT02
namespace Go.Proofs.YtbimfhaokgigkaaGreatDoor
open Go.RowKit Go.Proofs.YtbimfhaokgigkaaGreatDoorW.PrintWords Go.Proofs.YtbimfhaokgigkaaGreatDoorW.PrintLast
theorem wrapU (n : Nat) : IntKind.u64.wrap (n : Int) = ((n % 2 ^ 64 : Nat) : Int) := by simp [IntKind.wrap, IntKind.bits, IntKind.signed]
theorem wrapU_lt {n : Nat} (h : n < 2 ^ 64) : IntKind.u64.wrap (n : Int) = (n : Int) := by rw [wrapU, Nat.mod_eq_of_lt h]
theorem wraps_u64 (n : Int) (h₀ : 0 ≤ n) (h₁ : n < 2 ^ 64) : IntKind.u64.wrap n = n := by
 obtain ⟨a, rfl⟩ := Int.eq_ofNat_of_zero_le h₀
 exact wrapU_lt (by omega)
theorem and64 {a b : Nat} (ha : a < 2 ^ 64) (hb : b < 2 ^ 64) : Go.bits .and .u64 (a : Int) (b : Int) = ((a &&& b : Nat) : Int) := (bits_nat .u64 64 (by decide) wraps_u64 a b ha hb).1
theorem or64 {a b : Nat} (ha : a < 2 ^ 64) (hb : b < 2 ^ 64) : Go.bits .or .u64 (a : Int) (b : Int) = ((a ||| b : Nat) : Int) := (bits_nat .u64 64 (by decide) wraps_u64 a b ha hb).2
theorem mask64 {x : Int} (i : Nat) (hi : i ≤ 64) (h₀ : 0 ≤ x) (h₁ : x < 2 ^ 64) : Go.bits .and .u64 x (2 ^ i - 1) = x % 2 ^ i := bits_mask .u64 64 (by decide) wraps_u64 i hi x h₀ h₁
theorem low32 {x : Int} (h₀ : 0 ≤ x) (h₁ : x < 2 ^ 64) : Go.bits .and .u64 x 4294967295 = x % 4294967296 := mask64 32 (by decide) h₀ h₁
theorem bool64_calls (b : Bool) (w : World) : Calls Tryz.prog 99 #[.bool b] w fun e w' => e = .returned (.int .u64 (if b then 1 else 0)) ∧ w' = w := by
 cases b
 ·go_enter Tryz.func99, Tryz.ntmps99
  go_wp2
  go_ret
  exact ⟨rfl, rfl⟩
 ·go_enter Tryz.func99, Tryz.ntmps99
  go_wp2
  go_ret
  exact ⟨rfl, rfl⟩
theorem boolInt_calls (b : Bool) (w : World) : Calls Tryz.prog 118 #[.bool b] w fun e w' => e = .returned (.int .i64 (if b then 1 else 0)) ∧ w' = w := by
 cases b
 ·go_enter Tryz.func118, Tryz.ntmps118
  go_wp2
  go_ret
  exact ⟨rfl, rfl⟩
 ·go_enter Tryz.func118, Tryz.ntmps118
  go_wp2
  go_ret
  exact ⟨rfl, rfl⟩
theorem unmin_calls (x : Int) (w : World) : Calls Tryz.prog 119 #[.int .u64 x] w fun e w' => e = .returned (.int .u64 (IntKind.u64.wrap (IntKind.u64.wrap (x * 4) - 2))) ∧ w' = w := by
 go_enter Tryz.func119, Tryz.ntmps119
 go_wp2
 go_ret
 exact ⟨rfl, rfl⟩
theorem round_eq (u : Nat) (hu : u < 2 ^ 64 - 2) : IntKind.u64.wrap (IntKind.u64.wrap ((u : Int) + 1) + bits BinOp.and IntKind.u64 ((u : Int) / 4) 1) / 4 = (FP.roundU u : Int) := by
 have h := mask64 (x := (u : Int) / 4) 1 (by decide) (by omega) (by omega)
 rw [show (2 ^ 1 - 1 : Int) = 1 by decide] at h
 rw [h, wraps_u64 ((u : Int) + 1) (by omega) (by omega), wraps_u64 _ (by omega) (by omega)]
 unfold FP.roundU
 omega
theorem round_calls (u : Nat) (hu : u < 2 ^ 64 - 2) (w : World) : Calls Tryz.prog 121 #[.int .u64 u] w fun e w' => e = .returned (.int .u64 (FP.roundU u : Int)) ∧ w' = w := by
 rw [← round_eq u hu]
 clear hu
 go_enter Tryz.func121, Tryz.ntmps121
 go_wp2
 go_ret
 exact ⟨rfl, rfl⟩
theorem log2_calls (x : Int) (h0 : -100000 ≤ x) (h1 : x ≤ 100000) (w : World) : Calls Tryz.prog 115 #[.int .i64 x] w fun e w' => e = .returned (.int .i64 (x * 108853 / 32768)) ∧ w' = w := by
 have h : wrap64 (x * 108853) = x * 108853 := by unfold wrap64; omega
 go_enter Tryz.func115, Tryz.ntmps115
 go_wp2
 go_ret
 exact ⟨rfl, rfl⟩
theorem mul_hi {x y : Int} (hx0 : 0 ≤ x) (hx : x < 2 ^ 64) (hy0 : 0 ≤ y) (hy : y < 2 ^ 64) :
  IntKind.u64.wrap (IntKind.u64.wrap (IntKind.u64.wrap (x / 4294967296 * (y / 4294967296)) + IntKind.u64.wrap (IntKind.u64.wrap (x / 4294967296 * bits BinOp.and IntKind.u64 y 4294967295) + IntKind.u64.wrap (bits BinOp.and IntKind.u64 x 4294967295 * bits BinOp.and IntKind.u64 y 4294967295) / 4294967296) / 4294967296) +
   IntKind.u64.wrap (bits BinOp.and IntKind.u64 (IntKind.u64.wrap (IntKind.u64.wrap (x / 4294967296 * bits BinOp.and IntKind.u64 y 4294967295) + IntKind.u64.wrap (bits BinOp.and IntKind.u64 x 4294967295 * bits BinOp.and IntKind.u64 y 4294967295) / 4294967296)) 4294967295 +
    IntKind.u64.wrap (bits BinOp.and IntKind.u64 x 4294967295 * (y / 4294967296))) / 4294967296) = x * y / 2 ^ 64 := by
 rw [low32 hx0 hx, low32 hy0 hy]
 have ex := Int.emod_add_mul_ediv x 4294967296
 have ey := Int.emod_add_mul_ediv y 4294967296
 have a0 : 0 ≤ x % 4294967296 := by omega
 have a1 : x % 4294967296 ≤ 4294967295 := by omega
 have b0 : 0 ≤ y % 4294967296 := by omega
 have b1 : y % 4294967296 ≤ 4294967295 := by omega
 have c0 : 0 ≤ x / 4294967296 := by omega
 have c1 : x / 4294967296 ≤ 4294967295 := by omega
 have d0 : 0 ≤ y / 4294967296 := by omega
 have d1 : y / 4294967296 ≤ 4294967295 := by omega
 generalize x % 4294967296 = a at *
 generalize y % 4294967296 = b at *
 generalize x / 4294967296 = c at *
 generalize y / 4294967296 = d at *
 have lim : ∀ {p q : Int}, 0 ≤ p → p ≤ 4294967295 → 0 ≤ q → q ≤ 4294967295 → 0 ≤ p * q ∧ p * q ≤ 4294967295 * 4294967295 := by
  intro p q h1 h2 h3 h4
  exact ⟨Int.mul_nonneg h1 h3, Int.mul_le_mul h2 h4 h3 (by omega)⟩
 have e1 := lim c0 c1 d0 d1
 have e2 := lim c0 c1 b0 b1
 have e3 := lim a0 a1 b0 b1
 have e4 := lim a0 a1 d0 d1
 have prod : x * y = c * d * 18446744073709551616 + c * b * 4294967296 + a * d * 4294967296 + a * b := by subst ex ey; grind
 rw [prod]
 generalize c * d = P at *
 generalize c * b = Q at *
 generalize a * b = R at *
 generalize a * d = S at *
 rw [wraps_u64 P (by omega) (by omega), wraps_u64 Q (by omega) (by omega), wraps_u64 R (by omega) (by omega), wraps_u64 S (by omega) (by omega),
  wraps_u64 (Q + R / 4294967296) (by omega) (by omega), low32 (by omega) (by omega), wraps_u64 ((Q + R / 4294967296) % 4294967296 + S) (by omega) (by omega),
  wraps_u64 (P + (Q + R / 4294967296) / 4294967296) (by omega) (by omega), wraps_u64 _ (by omega) (by omega)]
 omega
theorem mul64_calls (x y : Int) (hx0 : 0 ≤ x) (hx : x < 2 ^ 64) (hy0 : 0 ≤ y) (hy : y < 2 ^ 64) (w : World) :
  Calls Tryz.prog 127 #[.int .u64 x, .int .u64 y] w fun e w' => e = .returned (.tuple #[.int .u64 (x * y / 18446744073709551616), .int .u64 (x * y % 18446744073709551616)]) ∧ w' = w := by
 have h1 := mul_hi hx0 hx hy0 hy
 have h2 : IntKind.u64.wrap (x * y) = x * y % 18446744073709551616 := by simp [IntKind.wrap, IntKind.bits, IntKind.signed]
 rw [show (2 : Int) ^ 64 = 18446744073709551616 by decide] at h1
 rw [← h2, ← h1]
 clear h1 h2 hx0 hx hy0 hy
 go_enter Tryz.func127, Tryz.ntmps127
 go_wp2
 go_ret2
 exact ⟨rfl, rfl⟩
end Go.Proofs.YtbimfhaokgigkaaGreatDoor
