/- Walks of functions of FnFjFloatAll (G9); conditions stand ahead of each theorem. -/
import Derived.Test.YtodbjojglibniaaGreatDoorT30
import Derived.Laws.Closers25b
set_option linter.unusedVariables false
set_option linter.unusedSimpArgs false
namespace Go.Proofs.YtodbjojglibniaaGreatDoor
open Go.RowKit Go.Proofs.YtodbjojglibniaaGreatDoorW.PrintWords Go.Proofs.YtodbjojglibniaaGreatDoorW.PrintLast

def UPost (w : World) (D : Nat) (e : Ending) (w' : World) : Prop := w' = w ∧ e = .returned (.tuple #[.int .u64 (D : Int), .bool true])
set_option maxRecDepth 100000 in
set_option maxHeartbeats 1000000 in
theorem uint64_calls (t : ByteArray) (g : Nat → Nat) (h1 : 1 ≤ t.size) (h18 : t.size ≤ 18) (hb : ∀ k < t.size, bt t (k : Int) = (g k : Int)) (hk : ∀ k < t.size, 48 ≤ g k ∧ g k ≤ 57) (w : World) :
    Calls Tryz.prog 11 #[.string t] w (UPost w (FP.dnum 0 g t.size)) := by
  obtain ⟨R, hR⟩ : ∃ R, R = UPost w (FP.dnum 0 g t.size) := ⟨_, rfl⟩
  rw [← hR]
  have HR := Aside0.mk hR
  have hds : (t = ByteArray.empty) = False := eq_false (fun e => by rw [e] at h1; exact absurd h1 (by decide))
  have hd2 : (t.toList = ([] : List UInt8)) = False := eq_false (fun e => by rw [(toList_nil_iff_emptyBytes t).mp e] at h1; exact absurd h1 (by decide))
  have hd4 : t.toList.isEmpty = false := by rw [List.isEmpty_eq_false_iff]; intro e; rw [hd2] at e; exact e
  have HB := Aside0.mk hb
  have HK := Aside0.mk hk
  have HN := Aside0.mk (And.intro h1 h18)
  have h18i : (t.size : Int) ≤ 18 := by omega
  clear hR hb hk h1 h18
  go_enter Tryz.func11, Tryz.ntmps11
  go_wp2_with fail
  go_loopg [4, 5] t.size (fun q v4 v5 w' => ∃ k : Nat, v5 = .int .i64 (k : Int) ∧ v4 = .int .u64 ((FP.dnum 0 g k : Nat) : Int) ∧ Aside0 (k ≤ t.size ∧ q = t.size - k) ∧ Aside0 (w' = w))
  case atStart => exact ⟨0, rfl, rfl, ⟨⟨Nat.zero_le _, rfl⟩⟩, ⟨rfl⟩⟩
  case round =>
    obtain ⟨k, rfl, rfl, hkk, hw⟩ := hrel
    obtain rfl := hw.out
    have hlt18 := FP.dnum_lt (a := 0) (g := g) (j := 0) (n := t.size) (by decide) (fun j hj => (HK.out j hj).2) k hkk.out.1
    have hD : FP.dnum 0 g k < 10 ^ 18 := Nat.lt_of_lt_of_le hlt18 (Nat.pow_le_pow_right (by decide) (by have := hkk.out.1; have := HN.out.2; omega))
    have h10 : (10 : Nat) ^ 18 = 1000000000000000000 := by decide
    rw [h10] at hD
    by_cases hlt : k < t.size
    · have hbk := HB.out k hlt
      have hkd := HK.out k hlt
      have hx5 : ∀ h : k < t.size, ((t[k]'h).toNat : Int) = (g k : Int) := fun h => (bt_at t (k : Int) h).trans hbk
      have hnext : FP.dnum 0 g (k + 1) = FP.dnum 0 g k * 10 + (g k - 48) := rfl
      obtain ⟨E, hE⟩ : ∃ E, E = FP.dnum 0 g k := ⟨_, rfl⟩
      obtain ⟨c, hc⟩ : ∃ c, c = g k := ⟨_, rfl⟩
      rw [← hE, ← hc] at hnext
      rw [← hE] at hD ⊢
      rw [← hc] at hkd hx5
      obtain ⟨e, he⟩ : ∃ e, c = e + 48 := ⟨c - 48, by omega⟩
      subst he
      have e0 : ((e + 48 : Nat) : Int) - 48 = (e : Int) := by omega
      have he9 : (e : Int) ≤ 9 := by omega
      have e1 : (18446744073709551615 - (e : Int)) / 10 = ((((18446744073709551615 - e) / 10 : Nat)) : Int) := by omega
      obtain ⟨B, hBB⟩ : ∃ B, B = (18446744073709551615 - e) / 10 := ⟨_, rfl⟩
      rw [← hBB] at e1
      have t1 : decide ((B : Int) < (E : Int)) = false := decide_eq_false (by omega)
      have t1n : decide (B < E) = false := decide_eq_false (by omega)
      have HNX := Aside0.mk hnext
      have HL := Aside0.mk hlt
      clear hbk hlt18 hE hc hnext hBB
      go_wp2_with fail
      go_roundg (t.size - (k + 1))
      case measure => have := hkk.out.2; have := HL.out; omega
      case rel =>
        refine ⟨k + 1, by go_num, ?_, ⟨⟨by have := HL.out; omega, rfl⟩⟩, ⟨rfl⟩⟩
        rw [HNX.out, Nat.add_sub_cancel]
        first | rfl | go_num
    · have e : k = t.size := by have := hkk.out.1; omega
      subst e
      clear hlt hlt18 hD
      go_wp2_with fail
      rw [HR.out]
      exact ⟨rfl, rfl⟩

end Go.Proofs.YtodbjojglibniaaGreatDoor
