/- Walks of functions of FnFjFloatAll (K1); conditions stand ahead of each theorem. -/
import Derived.Test.YtodbjojglibniaaGreatDoorT41
import Derived.LoopN
set_option linter.unusedVariables false
set_option linter.unusedSimpArgs false
namespace Go.Proofs.YtodbjojglibniaaGreatDoor
open Go.RowKit Go.Proofs.YtodbjojglibniaaGreatDoorW.PrintWords Go.Proofs.YtodbjojglibniaaGreatDoorW.PrintLast

theorem ba_ext {a b : ByteArray} (hs : a.size = b.size) (h : ∀ k : Nat, k < a.size → bt a (k : Int) = bt b (k : Int)) : a = b := by
  apply ByteArray.ext_getElem hs
  intro i h1 h2
  have h3 := h i h1
  unfold bt at h3
  rw [dif_pos (show ((i : Int)).toNat < a.size from h1), dif_pos (show ((i : Int)).toNat < b.size from h2)] at h3
  have h4 : (a[i]).toNat = (b[i]).toNat := by exact_mod_cast h3
  exact UInt8.toNat_inj.mp h4
/-- What stands ahead of the number, and behind it. -/
def Ahead (a : ByteArray) : Prop := a = ⟨#[]⟩ ∨ a = ⟨#[32]⟩ ∨ a = ⟨#[10, 9]⟩ ∨ a = ⟨#[13]⟩
theorem Ahead.sz {a : ByteArray} (h : Ahead a) : a.size ≤ 2 := by rcases h with rfl | rfl | rfl | rfl <;> decide
theorem cut_front {a s : ByteArray} : (a ++ s ++ a).extract a.size (a ++ s ++ a).size = s ++ a := by
  have e : (a ++ s ++ a).size = a.size + s.size + a.size := by rw [ByteArray.size_append, ByteArray.size_append]
  apply ba_ext
  · rw [ext_size (by omega) (Nat.le_refl _), e, ByteArray.size_append]; omega
  · intro k hk
    rw [ext_size (by omega) (Nat.le_refl _), e] at hk
    have hk2 : k < s.size + a.size := by omega
    have hr := bt_append (a := s) (b := a) (k := k) hk2
    have hl := bt_append (a := a ++ s) (b := a) (k := a.size + k) (by rw [ByteArray.size_append]; omega)
    rw [bt_ext (by omega) (Nat.le_refl _), hl, hr, ByteArray.size_append]
    by_cases c : k < s.size
    · rw [if_pos (by omega), if_pos c, bt_append (by omega), if_neg (by omega)]
      congr 2
      omega
    · rw [if_neg (by omega), if_neg c]
      congr 2
      omega
def SkipPost (w : World) (t : ByteArray) (e : Ending) (w' : World) : Prop := e = .returned (.string t) ∧ w' = w

set_option maxRecDepth 100000 in
theorem skip_fast (T : ByteArray) (hs : T.size ≤ 1000) (c : Nat) (hc : bt T ((0 : Nat) : Int) = (c : Int)) (h0 : 1 ≤ T.size) (h33 : 33 ≤ c) (w : World) : Calls Tryz.prog 21 #[.string T] w (SkipPost w T) := by
  have p0 : (0 < T.size) = True := eq_true (by omega)
  have e0 : (T.size == 0) = false := by rw [beq_eq_false_iff_ne]; omega
  have e0i : ((T.size : Int) == 0) = false := by rw [beq_eq_false_iff_ne]; omega
  have x0 : ∀ h : 0 < T.size, ((T[0]'h).toNat : Int) = (c : Int) := fun h => (bt_at T ((0 : Nat) : Int) h).trans hc
  have t32 : decide ((32 : Int) < (c : Int)) = true := decide_eq_true (by omega)
  have t32n : decide (32 < c) = true := decide_eq_true (by omega)
  clear hs hc h0 h33
  go_enter Tryz.func21, Tryz.ntmps21
  go_wp2
  go_ret
  exact ⟨rfl, rfl⟩

set_option maxRecDepth 100000 in
theorem slow_32 (T : ByteArray) (hs : (T.size : Int) ≤ 1000) (hz : 1 < T.size) (h0 : bt T ((0 : Nat) : Int) = 32) (c : Nat) (hc : bt T ((1 : Nat) : Int) = (c : Int)) (h33 : 33 ≤ c) (w : World) (R : Ending → World → Prop) (hR : R (.returned (.string (T.extract 1 T.size))) w) : Calls Tryz.prog 34 #[.string T] w R := by
  have p0 : (0 < T.size) = True := eq_true (by omega)
  have e0 : (T.size == 0) = false := by rw [beq_eq_false_iff_ne]; omega
  have e0i : ((T.size : Int) == 0) = false := by rw [beq_eq_false_iff_ne]; omega
  have x0 : ∀ h : 0 < T.size, ((T[0]'h).toNat : Int) = 32 := fun h => (bt_at T ((0 : Nat) : Int) h).trans h0
  have xc : ∀ h : 1 < T.size, ((T[1]'h).toNat : Int) = (c : Int) := fun h => (bt_at T ((1 : Nat) : Int) h).trans hc
  have t32 : ((c : Int) != 32) = true := by rw [bne_iff_ne]; omega
  have t10 : ((c : Int) != 10) = true := by rw [bne_iff_ne]; omega
  have t9 : ((c : Int) != 9) = true := by rw [bne_iff_ne]; omega
  have t13 : ((c : Int) != 13) = true := by rw [bne_iff_ne]; omega
  have t32n : (c != 32) = true := by rw [bne_iff_ne]; omega
  have t10n : (c != 10) = true := by rw [bne_iff_ne]; omega
  have t9n : (c != 9) = true := by rw [bne_iff_ne]; omega
  have t13n : (c != 13) = true := by rw [bne_iff_ne]; omega
  have l1 : (1 < (T.size : Int)) = True := eq_true (by omega)
  have ln1 : (1 < T.size) = True := eq_true (by omega)
  have m1 : (1 ≤ (T.size : Int)) = True := eq_true (by omega)
  have HR := Aside0.mk hR
  clear h0 hc h33 hz hR
  go_enter Tryz.func34, Tryz.ntmps34
  go_wp2_with fail
  refine wp_loop_rounds 1 ?_
  rw [rounds_succ]
  go_wp2_with fail
  exact HR.out
theorem skip_32 (s : ByteArray) (hs : s.size ≤ 800) (h1 : 1 ≤ s.size) (h33 : 33 ≤ bt s ((0 : Nat) : Int)) (w : World) : Calls Tryz.prog 21 #[.string (⟨#[32]⟩ ++ s ++ ⟨#[32]⟩)] w (SkipPost w (s ++ ⟨#[32]⟩)) := by
  have hcut := cut_front (a := ⟨#[32]⟩) (s := s)
  have ez : (⟨#[32]⟩ : ByteArray).size = 1 := rfl
  have e : ((⟨#[32]⟩ ++ s ++ ⟨#[32]⟩ : ByteArray)).size = 1 + s.size + 1 := by rw [ByteArray.size_append, ByteArray.size_append, ez]
  have hb : ∀ k : Nat, k < 1 → bt (⟨#[32]⟩ ++ s ++ ⟨#[32]⟩) (k : Int) = bt (⟨#[32]⟩ : ByteArray) (k : Int) := by
    intro k hk
    rw [bt_append (by rw [ByteArray.size_append, ez]; omega), ByteArray.size_append, ez, if_pos (by omega), bt_append (by rw [ez]; omega), ez, if_pos hk]
  have hn : bt (⟨#[32]⟩ ++ s ++ ⟨#[32]⟩) ((1 : Nat) : Int) = bt s ((0 : Nat) : Int) := by
    rw [bt_append (by rw [ByteArray.size_append, ez]; omega), ByteArray.size_append, ez, if_pos (by omega), bt_append (by rw [ez]; omega), ez, if_neg (by omega)]
  obtain ⟨T, hT⟩ : ∃ T, T = (⟨#[32]⟩ ++ s ++ ⟨#[32]⟩ : ByteArray) := ⟨_, rfl⟩
  rw [← hT] at hcut e hb hn ⊢
  rw [ez] at hcut
  obtain ⟨c, hc⟩ : ∃ c : Nat, (c : Int) = bt s ((0 : Nat) : Int) := ⟨(bt s ((0 : Nat) : Int)).toNat, by omega⟩
  rw [← hc] at hn h33
  have CS := Aside0.mk (slow_32 T (by omega) (by omega) (hb 0 (by omega)) c hn (by omega) w (SkipPost w (s ++ ⟨#[32]⟩)) (by rw [hcut]; exact ⟨rfl, rfl⟩))
  have p0 : (0 < T.size) = True := eq_true (by omega)
  have e0 : (T.size == 0) = false := by rw [beq_eq_false_iff_ne]; omega
  have e0i : ((T.size : Int) == 0) = false := by rw [beq_eq_false_iff_ne]; omega
  have x0 : ∀ h : 0 < T.size, ((T[0]'h).toNat : Int) = 32 := fun h => (bt_at T ((0 : Nat) : Int) h).trans (hb 0 (by omega))
  obtain ⟨R, hR⟩ : ∃ R, R = SkipPost w (s ++ ⟨#[32]⟩) := ⟨_, rfl⟩
  rw [← hR] at CS ⊢
  have HR := Aside0.mk hR
  clear hb hn hcut e hc h33 hs h1 hT hR
  go_enter Tryz.func21, Tryz.ntmps21
  go_wp2_with fail
  refine CS.out.mono ?_
  intro e w1 h
  rw [HR.out] at h
  obtain ⟨rfl, rfl⟩ := h
  go_wp2_with fail
  rw [HR.out]
  exact ⟨rfl, rfl⟩

set_option maxRecDepth 100000 in
theorem back_32 (w : World) : Calls Tryz.prog 21 #[.string ⟨#[32]⟩] w (SkipPost w ⟨#[]⟩) := by
  obtain ⟨R, hR⟩ : ∃ R, R = SkipPost w ⟨#[]⟩ := ⟨_, rfl⟩
  rw [← hR]
  have HR := Aside0.mk hR
  clear hR
  have CS : Aside0 (Calls Tryz.prog 34 #[.string ⟨#[32]⟩] w (SkipPost w ⟨#[]⟩)) := ⟨by
    obtain ⟨R, hR⟩ : ∃ R, R = SkipPost w ⟨#[]⟩ := ⟨_, rfl⟩
    rw [← hR]
    have HR := Aside0.mk hR
    clear hR
    go_enter Tryz.func34, Tryz.ntmps34
    go_wp2_with fail
    refine wp_loop_rounds 1 ?_
    rw [rounds_succ]
    go_wp2_with fail
    rw [HR.out]
    exact ⟨rfl, rfl⟩⟩
  go_enter Tryz.func21, Tryz.ntmps21
  go_wp2_with fail
  refine CS.out.mono ?_
  rintro e w1 ⟨rfl, rfl⟩
  go_wp2_with fail
  rw [HR.out]
  exact ⟨rfl, rfl⟩

set_option maxRecDepth 100000 in
theorem slow_13 (T : ByteArray) (hs : (T.size : Int) ≤ 1000) (hz : 1 < T.size) (h0 : bt T ((0 : Nat) : Int) = 13) (c : Nat) (hc : bt T ((1 : Nat) : Int) = (c : Int)) (h33 : 33 ≤ c) (w : World) (R : Ending → World → Prop) (hR : R (.returned (.string (T.extract 1 T.size))) w) : Calls Tryz.prog 34 #[.string T] w R := by
  have p0 : (0 < T.size) = True := eq_true (by omega)
  have e0 : (T.size == 0) = false := by rw [beq_eq_false_iff_ne]; omega
  have e0i : ((T.size : Int) == 0) = false := by rw [beq_eq_false_iff_ne]; omega
  have x0 : ∀ h : 0 < T.size, ((T[0]'h).toNat : Int) = 13 := fun h => (bt_at T ((0 : Nat) : Int) h).trans h0
  have xc : ∀ h : 1 < T.size, ((T[1]'h).toNat : Int) = (c : Int) := fun h => (bt_at T ((1 : Nat) : Int) h).trans hc
  have t32 : ((c : Int) != 32) = true := by rw [bne_iff_ne]; omega
  have t10 : ((c : Int) != 10) = true := by rw [bne_iff_ne]; omega
  have t9 : ((c : Int) != 9) = true := by rw [bne_iff_ne]; omega
  have t13 : ((c : Int) != 13) = true := by rw [bne_iff_ne]; omega
  have t32n : (c != 32) = true := by rw [bne_iff_ne]; omega
  have t10n : (c != 10) = true := by rw [bne_iff_ne]; omega
  have t9n : (c != 9) = true := by rw [bne_iff_ne]; omega
  have t13n : (c != 13) = true := by rw [bne_iff_ne]; omega
  have l1 : (1 < (T.size : Int)) = True := eq_true (by omega)
  have ln1 : (1 < T.size) = True := eq_true (by omega)
  have m1 : (1 ≤ (T.size : Int)) = True := eq_true (by omega)
  have HR := Aside0.mk hR
  clear h0 hc h33 hz hR
  go_enter Tryz.func34, Tryz.ntmps34
  go_wp2_with fail
  refine wp_loop_rounds 1 ?_
  rw [rounds_succ]
  go_wp2_with fail
  exact HR.out
theorem skip_13 (s : ByteArray) (hs : s.size ≤ 800) (h1 : 1 ≤ s.size) (h33 : 33 ≤ bt s ((0 : Nat) : Int)) (w : World) : Calls Tryz.prog 21 #[.string (⟨#[13]⟩ ++ s ++ ⟨#[13]⟩)] w (SkipPost w (s ++ ⟨#[13]⟩)) := by
  have hcut := cut_front (a := ⟨#[13]⟩) (s := s)
  have ez : (⟨#[13]⟩ : ByteArray).size = 1 := rfl
  have e : ((⟨#[13]⟩ ++ s ++ ⟨#[13]⟩ : ByteArray)).size = 1 + s.size + 1 := by rw [ByteArray.size_append, ByteArray.size_append, ez]
  have hb : ∀ k : Nat, k < 1 → bt (⟨#[13]⟩ ++ s ++ ⟨#[13]⟩) (k : Int) = bt (⟨#[13]⟩ : ByteArray) (k : Int) := by
    intro k hk
    rw [bt_append (by rw [ByteArray.size_append, ez]; omega), ByteArray.size_append, ez, if_pos (by omega), bt_append (by rw [ez]; omega), ez, if_pos hk]
  have hn : bt (⟨#[13]⟩ ++ s ++ ⟨#[13]⟩) ((1 : Nat) : Int) = bt s ((0 : Nat) : Int) := by
    rw [bt_append (by rw [ByteArray.size_append, ez]; omega), ByteArray.size_append, ez, if_pos (by omega), bt_append (by rw [ez]; omega), ez, if_neg (by omega)]
  obtain ⟨T, hT⟩ : ∃ T, T = (⟨#[13]⟩ ++ s ++ ⟨#[13]⟩ : ByteArray) := ⟨_, rfl⟩
  rw [← hT] at hcut e hb hn ⊢
  rw [ez] at hcut
  obtain ⟨c, hc⟩ : ∃ c : Nat, (c : Int) = bt s ((0 : Nat) : Int) := ⟨(bt s ((0 : Nat) : Int)).toNat, by omega⟩
  rw [← hc] at hn h33
  have CS := Aside0.mk (slow_13 T (by omega) (by omega) (hb 0 (by omega)) c hn (by omega) w (SkipPost w (s ++ ⟨#[13]⟩)) (by rw [hcut]; exact ⟨rfl, rfl⟩))
  have p0 : (0 < T.size) = True := eq_true (by omega)
  have e0 : (T.size == 0) = false := by rw [beq_eq_false_iff_ne]; omega
  have e0i : ((T.size : Int) == 0) = false := by rw [beq_eq_false_iff_ne]; omega
  have x0 : ∀ h : 0 < T.size, ((T[0]'h).toNat : Int) = 13 := fun h => (bt_at T ((0 : Nat) : Int) h).trans (hb 0 (by omega))
  obtain ⟨R, hR⟩ : ∃ R, R = SkipPost w (s ++ ⟨#[13]⟩) := ⟨_, rfl⟩
  rw [← hR] at CS ⊢
  have HR := Aside0.mk hR
  clear hb hn hcut e hc h33 hs h1 hT hR
  go_enter Tryz.func21, Tryz.ntmps21
  go_wp2_with fail
  refine CS.out.mono ?_
  intro e w1 h
  rw [HR.out] at h
  obtain ⟨rfl, rfl⟩ := h
  go_wp2_with fail
  rw [HR.out]
  exact ⟨rfl, rfl⟩

set_option maxRecDepth 100000 in
theorem back_13 (w : World) : Calls Tryz.prog 21 #[.string ⟨#[13]⟩] w (SkipPost w ⟨#[]⟩) := by
  obtain ⟨R, hR⟩ : ∃ R, R = SkipPost w ⟨#[]⟩ := ⟨_, rfl⟩
  rw [← hR]
  have HR := Aside0.mk hR
  clear hR
  have CS : Aside0 (Calls Tryz.prog 34 #[.string ⟨#[13]⟩] w (SkipPost w ⟨#[]⟩)) := ⟨by
    obtain ⟨R, hR⟩ : ∃ R, R = SkipPost w ⟨#[]⟩ := ⟨_, rfl⟩
    rw [← hR]
    have HR := Aside0.mk hR
    clear hR
    go_enter Tryz.func34, Tryz.ntmps34
    go_wp2_with fail
    refine wp_loop_rounds 1 ?_
    rw [rounds_succ]
    go_wp2_with fail
    rw [HR.out]
    exact ⟨rfl, rfl⟩⟩
  go_enter Tryz.func21, Tryz.ntmps21
  go_wp2_with fail
  refine CS.out.mono ?_
  rintro e w1 ⟨rfl, rfl⟩
  go_wp2_with fail
  rw [HR.out]
  exact ⟨rfl, rfl⟩

set_option maxRecDepth 100000 in
theorem slow_109 (T : ByteArray) (hs : (T.size : Int) ≤ 1000) (hz : 2 < T.size) (h0 : bt T ((0 : Nat) : Int) = 10) (h1 : bt T ((1 : Nat) : Int) = 9) (c : Nat) (hc : bt T ((2 : Nat) : Int) = (c : Int)) (h33 : 33 ≤ c) (w : World) (R : Ending → World → Prop) (hR : R (.returned (.string (T.extract 2 T.size))) w) : Calls Tryz.prog 34 #[.string T] w R := by
  have p0 : (0 < T.size) = True := eq_true (by omega)
  have e0 : (T.size == 0) = false := by rw [beq_eq_false_iff_ne]; omega
  have e0i : ((T.size : Int) == 0) = false := by rw [beq_eq_false_iff_ne]; omega
  have x0 : ∀ h : 0 < T.size, ((T[0]'h).toNat : Int) = 10 := fun h => (bt_at T ((0 : Nat) : Int) h).trans h0
  have x1 : ∀ h : 1 < T.size, ((T[1]'h).toNat : Int) = 9 := fun h => (bt_at T ((1 : Nat) : Int) h).trans h1
  have xc : ∀ h : 2 < T.size, ((T[2]'h).toNat : Int) = (c : Int) := fun h => (bt_at T ((2 : Nat) : Int) h).trans hc
  have t32 : ((c : Int) != 32) = true := by rw [bne_iff_ne]; omega
  have t10 : ((c : Int) != 10) = true := by rw [bne_iff_ne]; omega
  have t9 : ((c : Int) != 9) = true := by rw [bne_iff_ne]; omega
  have t13 : ((c : Int) != 13) = true := by rw [bne_iff_ne]; omega
  have t32n : (c != 32) = true := by rw [bne_iff_ne]; omega
  have t10n : (c != 10) = true := by rw [bne_iff_ne]; omega
  have t9n : (c != 9) = true := by rw [bne_iff_ne]; omega
  have t13n : (c != 13) = true := by rw [bne_iff_ne]; omega
  have l1 : (1 < (T.size : Int)) = True := eq_true (by omega)
  have ln1 : (1 < T.size) = True := eq_true (by omega)
  have m1 : (1 ≤ (T.size : Int)) = True := eq_true (by omega)
  have l2 : (2 < (T.size : Int)) = True := eq_true (by omega)
  have ln2 : (2 < T.size) = True := eq_true (by omega)
  have m2 : (2 ≤ (T.size : Int)) = True := eq_true (by omega)
  have HR := Aside0.mk hR
  clear h0 h1 hc h33 hz hR
  go_enter Tryz.func34, Tryz.ntmps34
  go_wp2_with fail
  refine wp_loop_rounds 2 ?_
  rw [rounds_succ]
  go_wp2_with fail
  rw [rounds_succ]
  go_wp2_with fail
  exact HR.out
theorem skip_109 (s : ByteArray) (hs : s.size ≤ 800) (h1 : 1 ≤ s.size) (h33 : 33 ≤ bt s ((0 : Nat) : Int)) (w : World) : Calls Tryz.prog 21 #[.string (⟨#[10, 9]⟩ ++ s ++ ⟨#[10, 9]⟩)] w (SkipPost w (s ++ ⟨#[10, 9]⟩)) := by
  have hcut := cut_front (a := ⟨#[10, 9]⟩) (s := s)
  have ez : (⟨#[10, 9]⟩ : ByteArray).size = 2 := rfl
  have e : ((⟨#[10, 9]⟩ ++ s ++ ⟨#[10, 9]⟩ : ByteArray)).size = 2 + s.size + 2 := by rw [ByteArray.size_append, ByteArray.size_append, ez]
  have hb : ∀ k : Nat, k < 2 → bt (⟨#[10, 9]⟩ ++ s ++ ⟨#[10, 9]⟩) (k : Int) = bt (⟨#[10, 9]⟩ : ByteArray) (k : Int) := by
    intro k hk
    rw [bt_append (by rw [ByteArray.size_append, ez]; omega), ByteArray.size_append, ez, if_pos (by omega), bt_append (by rw [ez]; omega), ez, if_pos hk]
  have hn : bt (⟨#[10, 9]⟩ ++ s ++ ⟨#[10, 9]⟩) ((2 : Nat) : Int) = bt s ((0 : Nat) : Int) := by
    rw [bt_append (by rw [ByteArray.size_append, ez]; omega), ByteArray.size_append, ez, if_pos (by omega), bt_append (by rw [ez]; omega), ez, if_neg (by omega)]
  obtain ⟨T, hT⟩ : ∃ T, T = (⟨#[10, 9]⟩ ++ s ++ ⟨#[10, 9]⟩ : ByteArray) := ⟨_, rfl⟩
  rw [← hT] at hcut e hb hn ⊢
  rw [ez] at hcut
  obtain ⟨c, hc⟩ : ∃ c : Nat, (c : Int) = bt s ((0 : Nat) : Int) := ⟨(bt s ((0 : Nat) : Int)).toNat, by omega⟩
  rw [← hc] at hn h33
  have CS := Aside0.mk (slow_109 T (by omega) (by omega) (hb 0 (by omega)) (hb 1 (by omega)) c hn (by omega) w (SkipPost w (s ++ ⟨#[10, 9]⟩)) (by rw [hcut]; exact ⟨rfl, rfl⟩))
  have p0 : (0 < T.size) = True := eq_true (by omega)
  have e0 : (T.size == 0) = false := by rw [beq_eq_false_iff_ne]; omega
  have e0i : ((T.size : Int) == 0) = false := by rw [beq_eq_false_iff_ne]; omega
  have x0 : ∀ h : 0 < T.size, ((T[0]'h).toNat : Int) = 10 := fun h => (bt_at T ((0 : Nat) : Int) h).trans (hb 0 (by omega))
  obtain ⟨R, hR⟩ : ∃ R, R = SkipPost w (s ++ ⟨#[10, 9]⟩) := ⟨_, rfl⟩
  rw [← hR] at CS ⊢
  have HR := Aside0.mk hR
  clear hb hn hcut e hc h33 hs h1 hT hR
  go_enter Tryz.func21, Tryz.ntmps21
  go_wp2_with fail
  refine CS.out.mono ?_
  intro e w1 h
  rw [HR.out] at h
  obtain ⟨rfl, rfl⟩ := h
  go_wp2_with fail
  rw [HR.out]
  exact ⟨rfl, rfl⟩

set_option maxRecDepth 100000 in
theorem back_109 (w : World) : Calls Tryz.prog 21 #[.string ⟨#[10, 9]⟩] w (SkipPost w ⟨#[]⟩) := by
  obtain ⟨R, hR⟩ : ∃ R, R = SkipPost w ⟨#[]⟩ := ⟨_, rfl⟩
  rw [← hR]
  have HR := Aside0.mk hR
  clear hR
  have CS : Aside0 (Calls Tryz.prog 34 #[.string ⟨#[10, 9]⟩] w (SkipPost w ⟨#[]⟩)) := ⟨by
    obtain ⟨R, hR⟩ : ∃ R, R = SkipPost w ⟨#[]⟩ := ⟨_, rfl⟩
    rw [← hR]
    have HR := Aside0.mk hR
    clear hR
    go_enter Tryz.func34, Tryz.ntmps34
    go_wp2_with fail
    refine wp_loop_rounds 2 ?_
    rw [rounds_succ]
    go_wp2_with fail
    rw [rounds_succ]
    go_wp2_with fail
    rw [HR.out]
    exact ⟨rfl, rfl⟩⟩
  go_enter Tryz.func21, Tryz.ntmps21
  go_wp2_with fail
  refine CS.out.mono ?_
  rintro e w1 ⟨rfl, rfl⟩
  go_wp2_with fail
  rw [HR.out]
  exact ⟨rfl, rfl⟩

set_option maxRecDepth 100000 in
theorem back_nil (w : World) : Calls Tryz.prog 21 #[.string ⟨#[]⟩] w (SkipPost w ⟨#[]⟩) := by
  go_enter Tryz.func21, Tryz.ntmps21
  go_wp2
  go_ret
  exact ⟨rfl, rfl⟩
theorem skip_back {a : ByteArray} (h : Ahead a) (w : World) : Calls Tryz.prog 21 #[.string a] w (SkipPost w ⟨#[]⟩) := by
  rcases h with rfl | rfl | rfl | rfl
  · exact back_nil w
  · exact back_32 w
  · exact back_109 w
  · exact back_13 w
theorem skip_front {a s : ByteArray} (h : Ahead a) (hs : s.size ≤ 800) (h1 : 1 ≤ s.size) (h33 : 33 ≤ bt s ((0 : Nat) : Int)) (w : World) : Calls Tryz.prog 21 #[.string (a ++ s ++ a)] w (SkipPost w (s ++ a)) := by
  rcases h with rfl | rfl | rfl | rfl
  · have e1 : (⟨#[]⟩ ++ s ++ ⟨#[]⟩ : ByteArray) = s := by
      show ByteArray.empty ++ s ++ ByteArray.empty = s
      rw [ByteArray.append_empty, ByteArray.empty_append]
    have e2 : (s ++ ⟨#[]⟩ : ByteArray) = s := by
      show s ++ ByteArray.empty = s
      rw [ByteArray.append_empty]
    rw [e1, e2]
    exact skip_fast s (by omega) (bt s ((0 : Nat) : Int)).toNat (by omega) h1 (by omega) w
  · exact skip_32 s hs h1 h33 w
  · exact skip_109 s hs h1 h33 w
  · exact skip_13 s hs h1 h33 w


end Go.Proofs.YtodbjojglibniaaGreatDoor
