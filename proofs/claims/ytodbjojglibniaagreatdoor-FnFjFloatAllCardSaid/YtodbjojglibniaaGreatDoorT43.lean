/- Walks of functions of FnFjFloatAll (K2); conditions stand ahead of each theorem. -/
import Derived.Test.YtodbjojglibniaaGreatDoorT42
set_option linter.unusedVariables false
set_option linter.unusedSimpArgs false
namespace Go.Proofs.YtodbjojglibniaaGreatDoor
open Go.RowKit Go.Proofs.YtodbjojglibniaaGreatDoorW.PrintWords Go.Proofs.YtodbjojglibniaaGreatDoorW.PrintLast

/-- Bytes of which numbers are made. -/
def IsNumB (c : Int) : Prop := (48 ≤ c ∧ c ≤ 57) ∨ c = 46 ∨ c = 45 ∨ c = 101 ∨ c = 69 ∨ c = 43
theorem num_bytes {s : ByteArray} {neg : Bool} {W F : Nat} {x esg : Int} {N : Nat} (h : Num0 s neg W F x esg N) : ∀ k : Nat, k < s.size → IsNumB (bt s (k : Int)) := by
  intro k hk
  have hst := nst_eq neg
  obtain ⟨h1, h2, h3, h4, h5, h6, h7⟩ := h
  rw [hst] at h3 h4 h6 h7
  have hn : nst neg ≤ 1 := by unfold nst; split <;> omega
  by_cases c0 : k < nst neg
  · have : k = 0 := by omega
    subst this
    rcases h1 with ⟨_, e⟩ | ⟨e, _⟩
    · exact .inr (.inr (.inl e))
    · rw [e] at c0; exact absurd c0 (by decide)
  · by_cases c1 : k < nst neg + W
    · have := h4 (k - nst neg) (by omega)
      rw [show nst neg + (k - nst neg) = k by omega] at this
      exact .inl this
    · have hq : ∀ q : Nat, q = nst neg + W + (if F = 0 then 0 else 1 + F) → k < q → IsNumB (bt s (k : Int)) := by
        intro q hq hkq
        by_cases hF : F = 0
        · rw [if_pos hF] at hq; omega
        · rw [if_neg hF] at hq
          obtain ⟨a, b, c⟩ := h6 hF
          by_cases c2 : k = nst neg + W
          · rw [c2]; exact .inr (.inl a)
          · have := c (k - nst neg - W - 1) (by omega)
            rw [show nst neg + W + 1 + (k - nst neg - W - 1) = k by omega] at this
            exact .inl this
      rcases h7 with ⟨_, e⟩ | ⟨a, q, b, c, d, e, f⟩
      · exact hq _ rfl (by omega)
      · by_cases c3 : k < q
        · exact hq q b c3
        · by_cases c4 : k = q
          · rw [c4]
            rcases c with c | c
            · exact .inr (.inr (.inr (.inr (.inl c))))
            · exact .inr (.inr (.inr (.inl c)))
          · have dig : x ≤ (k : Int) → IsNumB (bt s (k : Int)) := by
              intro hx
              have := f ((k : Int) - x).toNat (by omega)
              rw [show x + (((k : Int) - x).toNat : Int) = (k : Int) by omega] at this
              exact .inl this
            rcases d with ⟨d, _⟩ | ⟨d, d2, _⟩ | ⟨d, d2, _⟩
            · exact dig (by omega)
            · by_cases c5 : k = q + 1
              · rw [c5]; exact .inr (.inr (.inr (.inr (.inr d2))))
              · exact dig (by omega)
            · by_cases c5 : k = q + 1
              · rw [c5]; exact .inr (.inr (.inl d2))
              · exact dig (by omega)
theorem num_head {s : ByteArray} {neg : Bool} {W F : Nat} {x esg : Int} {N : Nat} (h : Num0 s neg W F x esg N) : 1 ≤ s.size ∧ 45 ≤ bt s ((0 : Nat) : Int) ∧ bt s ((0 : Nat) : Int) ≤ 57 ∧ (s.size = 1 → 48 ≤ bt s ((0 : Nat) : Int)) := by
  have hst := nst_eq neg
  obtain ⟨h1, h2, h3, h4, h5, h6, h7⟩ := h
  rw [hst] at h3 h4
  rcases h1 with ⟨e, hb⟩ | ⟨e, hb⟩
  · subst e
    have en : nst true = 1 := rfl
    have hb' : bt s ((0 : Nat) : Int) = 45 := hb
    rw [en] at h3
    rw [hb']
    exact ⟨by omega, by omega, by omega, by omega⟩
  · subst e
    have en : nst false = 0 := rfl
    have := h4 0 (by omega)
    rw [en] at this h3
    simp only [Nat.add_zero] at this
    exact ⟨by omega, by omega, by omega, fun _ => by omega⟩
def RawPost (w : World) (s a : ByteArray) (e : Ending) (w' : World) : Prop := e = .returned (.tuple #[.string s, .string a, .nilIface]) ∧ w' = w

set_option maxRecDepth 100000 in
set_option maxHeartbeats 2000000 in
theorem raw_end (T : ByteArray) (n : Nat) (h1 : 1 ≤ n) (hz : T.size ≤ 900) (hn : n = T.size) (hb : ∀ k : Nat, k < n → IsNumB (bt T (k : Int))) (w : World) : Calls Tryz.prog 40 #[.string T] w (RawPost w T ⟨#[]⟩) := by
  obtain ⟨R, hR⟩ : ∃ R, R = RawPost w T ⟨#[]⟩ := ⟨_, rfl⟩
  rw [← hR]
  have HR := Aside0.mk hR
  have HT := Aside0.mk (And.intro (show n ≤ T.size by omega) hb)
  have hz9 : (T.size : Int) ≤ 900 := by omega

  have HX := Aside0.mk (And.intro hn h1)
  clear hR hb hz hn h1
  go_enter Tryz.func40, Tryz.ntmps40
  go_wp2_with fail
  go_loopg [0, 11] n (fun q v0 v11 w' => ∃ k : Nat, v0 = .string T ∧ v11 = .int .i64 (k : Int) ∧ Aside0 (q = n - k ∧ k ≤ n) ∧ Aside0 (w' = w))
  case atStart => exact ⟨0, rfl, rfl, ⟨⟨rfl, Nat.zero_le _⟩⟩, ⟨rfl⟩⟩
  case round =>
    obtain ⟨k, rfl, rfl, hkk, hw⟩ := hrel
    have e := hw.out
    subst e
    by_cases hlt : k < n
    · have hkT : k < T.size := by have := HT.out.1; omega
      obtain ⟨c, hc⟩ : ∃ c : Nat, (c : Int) = bt T (k : Int) := ⟨(bt T (k : Int)).toNat, by have := bt_range T (k : Int); omega⟩
      have hx5 : ∀ h : k < T.size, ((T[k]'h).toNat : Int) = (c : Int) := fun h => (bt_at T (k : Int) h).trans hc.symm
      have hnb := HT.out.2 k hlt
      rw [← hc] at hnb
      have HL := Aside0.mk hlt
      clear hc hlt
      rcases hnb with ⟨hd0, hd1⟩ | hc1 | hc1 | hc1 | hc1 | hc1
      · have t48 : decide ((48 : Int) ≤ (c : Int)) = true := decide_eq_true hd0
        have t57 : decide ((c : Int) ≤ 57) = true := decide_eq_true hd1
        go_wp2_with fail
        go_roundg (n - (k + 1))
        case measure => have := hkk.out; have := HL.out; omega
        case rel => exact ⟨k + 1, rfl, by go_num, ⟨⟨rfl, by have := HL.out; omega⟩⟩, ⟨rfl⟩⟩
      · obtain rfl : c = 46 := by omega
        go_wp2_with fail
        go_roundg (n - (k + 1))
        case measure => have := hkk.out; have := HL.out; omega
        case rel => exact ⟨k + 1, rfl, by go_num, ⟨⟨rfl, by have := HL.out; omega⟩⟩, ⟨rfl⟩⟩
      · obtain rfl : c = 45 := by omega
        go_wp2_with fail
        go_roundg (n - (k + 1))
        case measure => have := hkk.out; have := HL.out; omega
        case rel => exact ⟨k + 1, rfl, by go_num, ⟨⟨rfl, by have := HL.out; omega⟩⟩, ⟨rfl⟩⟩
      · obtain rfl : c = 101 := by omega
        go_wp2_with fail
        go_roundg (n - (k + 1))
        case measure => have := hkk.out; have := HL.out; omega
        case rel => exact ⟨k + 1, rfl, by go_num, ⟨⟨rfl, by have := HL.out; omega⟩⟩, ⟨rfl⟩⟩
      · obtain rfl : c = 69 := by omega
        go_wp2_with fail
        go_roundg (n - (k + 1))
        case measure => have := hkk.out; have := HL.out; omega
        case rel => exact ⟨k + 1, rfl, by go_num, ⟨⟨rfl, by have := HL.out; omega⟩⟩, ⟨rfl⟩⟩
      · obtain rfl : c = 43 := by omega
        go_wp2_with fail
        go_roundg (n - (k + 1))
        case measure => have := hkk.out; have := HL.out; omega
        case rel => exact ⟨k + 1, rfl, by go_num, ⟨⟨rfl, by have := HL.out; omega⟩⟩, ⟨rfl⟩⟩
    · have hkn : k = n := by have := hkk.out; omega
      subst hkn
      have t0 : decide ((k : Int) < (T.size : Int)) = false := decide_eq_false (by have := HX.out; omega)
      have t0n : decide (k < T.size) = false := decide_eq_false (by have := HX.out; omega)
      clear hlt
      go_wp2_with fail
      rw [HR.out]
      exact ⟨rfl, rfl⟩

set_option maxRecDepth 100000 in
set_option maxHeartbeats 2000000 in
theorem raw_blank (T : ByteArray) (n : Nat) (h1 : 1 ≤ n) (hz : T.size ≤ 900) (hn : n < T.size) (s a : ByteArray) (hs : T.extract 0 n = s) (ha : T.extract n T.size = a) (c0 : Nat) (hc0 : bt T (n : Int) = (c0 : Int)) (hbl : c0 = 32 ∨ c0 = 10 ∨ c0 = 13) (h01 : n = 1 → 48 ≤ bt T ((0 : Nat) : Int)) (hb : ∀ k : Nat, k < n → IsNumB (bt T (k : Int))) (w : World) : Calls Tryz.prog 40 #[.string T] w (RawPost w s a) := by
  obtain ⟨R, hR⟩ : ∃ R, R = RawPost w s a := ⟨_, rfl⟩
  rw [← hR]
  have HR := Aside0.mk hR
  have HT := Aside0.mk (And.intro (show n ≤ T.size by omega) hb)
  have hz9 : (T.size : Int) ≤ 900 := by omega

  have HX := Aside0.mk (And.intro hn (And.intro hs (And.intro ha (And.intro hc0 (And.intro hbl (And.intro h01 h1))))))
  clear hR hb hz hn hs ha hc0 hbl h01 h1
  go_enter Tryz.func40, Tryz.ntmps40
  go_wp2_with fail
  go_loopg [0, 11] n (fun q v0 v11 w' => ∃ k : Nat, v0 = .string T ∧ v11 = .int .i64 (k : Int) ∧ Aside0 (q = n - k ∧ k ≤ n) ∧ Aside0 (w' = w))
  case atStart => exact ⟨0, rfl, rfl, ⟨⟨rfl, Nat.zero_le _⟩⟩, ⟨rfl⟩⟩
  case round =>
    obtain ⟨k, rfl, rfl, hkk, hw⟩ := hrel
    have e := hw.out
    subst e
    by_cases hlt : k < n
    · have hkT : k < T.size := by have := HT.out.1; omega
      obtain ⟨c, hc⟩ : ∃ c : Nat, (c : Int) = bt T (k : Int) := ⟨(bt T (k : Int)).toNat, by have := bt_range T (k : Int); omega⟩
      have hx5 : ∀ h : k < T.size, ((T[k]'h).toNat : Int) = (c : Int) := fun h => (bt_at T (k : Int) h).trans hc.symm
      have hnb := HT.out.2 k hlt
      rw [← hc] at hnb
      have HL := Aside0.mk hlt
      clear hc hlt
      rcases hnb with ⟨hd0, hd1⟩ | hc1 | hc1 | hc1 | hc1 | hc1
      · have t48 : decide ((48 : Int) ≤ (c : Int)) = true := decide_eq_true hd0
        have t57 : decide ((c : Int) ≤ 57) = true := decide_eq_true hd1
        go_wp2_with fail
        go_roundg (n - (k + 1))
        case measure => have := hkk.out; have := HL.out; omega
        case rel => exact ⟨k + 1, rfl, by go_num, ⟨⟨rfl, by have := HL.out; omega⟩⟩, ⟨rfl⟩⟩
      · obtain rfl : c = 46 := by omega
        go_wp2_with fail
        go_roundg (n - (k + 1))
        case measure => have := hkk.out; have := HL.out; omega
        case rel => exact ⟨k + 1, rfl, by go_num, ⟨⟨rfl, by have := HL.out; omega⟩⟩, ⟨rfl⟩⟩
      · obtain rfl : c = 45 := by omega
        go_wp2_with fail
        go_roundg (n - (k + 1))
        case measure => have := hkk.out; have := HL.out; omega
        case rel => exact ⟨k + 1, rfl, by go_num, ⟨⟨rfl, by have := HL.out; omega⟩⟩, ⟨rfl⟩⟩
      · obtain rfl : c = 101 := by omega
        go_wp2_with fail
        go_roundg (n - (k + 1))
        case measure => have := hkk.out; have := HL.out; omega
        case rel => exact ⟨k + 1, rfl, by go_num, ⟨⟨rfl, by have := HL.out; omega⟩⟩, ⟨rfl⟩⟩
      · obtain rfl : c = 69 := by omega
        go_wp2_with fail
        go_roundg (n - (k + 1))
        case measure => have := hkk.out; have := HL.out; omega
        case rel => exact ⟨k + 1, rfl, by go_num, ⟨⟨rfl, by have := HL.out; omega⟩⟩, ⟨rfl⟩⟩
      · obtain rfl : c = 43 := by omega
        go_wp2_with fail
        go_roundg (n - (k + 1))
        case measure => have := hkk.out; have := HL.out; omega
        case rel => exact ⟨k + 1, rfl, by go_num, ⟨⟨rfl, by have := HL.out; omega⟩⟩, ⟨rfl⟩⟩
    · have hkn : k = n := by have := hkk.out; omega
      subst hkn
      obtain ⟨x1, x2, x3, x4, x5, x6, x7⟩ := HX.out
      have hx5 : ∀ h : k < T.size, ((T[k]'h).toNat : Int) = (c0 : Int) := fun h => (bt_at T (k : Int) h).trans x4
      obtain ⟨d0, hd0⟩ : ∃ d0 : Nat, (d0 : Int) = bt T ((0 : Nat) : Int) := ⟨(bt T ((0 : Nat) : Int)).toNat, by have := bt_range T ((0 : Nat) : Int); omega⟩
      have hx0 : ∀ h : 0 < T.size, ((T[0]'h).toNat : Int) = (d0 : Int) := fun h => (bt_at T ((0 : Nat) : Int) h).trans hd0.symm
      rw [← hd0] at x6
      have p0 : (0 < T.size) = True := eq_true (by omega)
      have pk : (k < T.size) = True := eq_true x1
      have pki : ((k : Int) < (T.size : Int)) = True := eq_true (by omega)
      have pkl : ((k : Int) ≤ (T.size : Int)) = True := eq_true (by omega)
      have k0 : ((k : Int) == 0) = false := by rw [beq_eq_false_iff_ne]; omega
      have k0n : (k == 0) = false := by rw [beq_eq_false_iff_ne]; omega
      have xx : Aside0 (R (.returned (.tuple #[.string (T.extract 0 k), .string (T.extract k T.size), .nilIface])) wr) := ⟨by rw [HR.out, x2, x3]; exact ⟨rfl, rfl⟩⟩
      by_cases hk1 : k = 1
      · have h48 := x6 hk1
        have k1 : ((k : Int) == 1) = true := by rw [beq_iff_eq]; omega
        have k1n : (k == 1) = true := by rw [beq_iff_eq]; exact hk1
        have d45 : ((d0 : Int) == 45) = false := by rw [beq_eq_false_iff_ne]; omega
        have d45n : (d0 == 45) = false := by rw [beq_eq_false_iff_ne]; omega
        have d43 : ((d0 : Int) == 43) = false := by rw [beq_eq_false_iff_ne]; omega
        have d43n : (d0 == 43) = false := by rw [beq_eq_false_iff_ne]; omega
        clear x1 x2 x3 x4 x6 x7 hd0 hlt hk1 h48
        rcases x5 with rfl | rfl | rfl
        all_goals
          go_wp2_with fail
          exact xx.out
      · have k1 : ((k : Int) == 1) = false := by rw [beq_eq_false_iff_ne]; omega
        have k1n : (k == 1) = false := by rw [beq_eq_false_iff_ne]; exact hk1
        clear x1 x2 x3 x4 x6 x7 hd0 hlt hk1
        rcases x5 with rfl | rfl | rfl
        all_goals
          go_wp2_with fail
          exact xx.out


end Go.Proofs.YtodbjojglibniaaGreatDoor
