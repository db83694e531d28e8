/- Walks of functions of FnFjFloatAll (G4); conditions stand ahead of each theorem. -/
import Derived.Test.YtodbjojglibniaaGreatDoorT29
import Derived.Test.YtodbjojglibniaaGreatDoorT03
set_option linter.unusedVariables false
set_option linter.unusedSimpArgs false
namespace Go.Proofs.YtodbjojglibniaaGreatDoor
open Go.RowKit Go.Proofs.YtodbjojglibniaaGreatDoorW.PrintWords Go.Proofs.YtodbjojglibniaaGreatDoorW.PrintLast

theorem bt_ext {s : ByteArray} {a b k : Nat} (h : a + k < b) (hb : b ≤ s.size) : bt (s.extract a b) (k : Int) = bt s ((a + k : Nat) : Int) := by
  unfold bt
  have h1 : ((k : Int)).toNat < (s.extract a b).size := by rw [ByteArray.size_extract]; omega
  have h2 : (((a + k : Nat) : Int)).toNat < s.size := by omega
  rw [dif_pos h1, dif_pos h2]
  rw [ByteArray.getElem_extract]
  rfl
theorem ext_size {s : ByteArray} {a b : Nat} (h : a ≤ b) (hb : b ≤ s.size) : (s.extract a b).size = b - a := by rw [ByteArray.size_extract]; omega
/-- How many digits stand behind the zeros. -/
def sdig (g : Nat → Nat) : Nat → Nat
  | 0 => 0
  | k + 1 => if 0 < sdig g k ∨ g k ≠ 48 then sdig g k + 1 else sdig g k
theorem sdig_lt {g : Nat → Nat} {n : Nat} (h : ∀ k < n, g k ≤ 57) : ∀ k ≤ n, FP.dnum 0 g k < 10 ^ sdig g k
  | 0, _ => by show 0 < 10 ^ 0; decide
  | k + 1, hk => by
    have ih := sdig_lt h k (by omega)
    have := h k (by omega)
    show FP.dnum 0 g k * 10 + (g k - 48) < 10 ^ (if 0 < sdig g k ∨ g k ≠ 48 then sdig g k + 1 else sdig g k)
    by_cases c : 0 < sdig g k ∨ g k ≠ 48
    · rw [if_pos c, Nat.pow_succ]; omega
    · rw [if_neg c]
      have h0 : sdig g k = 0 := by omega
      have h48 : g k = 48 := by omega
      rw [h0] at ih ⊢
      rw [h48]
      omega
theorem sdig_ge {g : Nat → Nat} {n : Nat} (h : ∀ k < n, 48 ≤ g k) : ∀ k ≤ n, 0 < sdig g k → 10 ^ (sdig g k - 1) ≤ FP.dnum 0 g k
  | 0, _, h0 => absurd h0 (by show ¬ 0 < 0; decide)
  | k + 1, hk, h0 => by
    have ih := sdig_ge h k (by omega)
    have := h k (by omega)
    have hs : sdig g (k + 1) = if 0 < sdig g k ∨ g k ≠ 48 then sdig g k + 1 else sdig g k := rfl
    have hd : FP.dnum 0 g (k + 1) = FP.dnum 0 g k * 10 + (g k - 48) := rfl
    rw [hd]
    by_cases c : 0 < sdig g k ∨ g k ≠ 48
    · rw [if_pos c] at hs
      rw [hs, Nat.add_sub_cancel]
      by_cases c2 : 0 < sdig g k
      · have ih := ih c2
        obtain ⟨m, hm⟩ : ∃ m, sdig g k = m + 1 := ⟨sdig g k - 1, by omega⟩
        rw [hm, Nat.add_sub_cancel] at ih
        rw [hm, Nat.pow_succ]
        omega
      · have e : sdig g k = 0 := by omega
        rw [e, Nat.pow_zero]
        omega
    · rw [if_neg c] at hs
      omega
/-- What signed says: the number, if it has at most 15 digits behind its zeros. -/
def SgPost (w : World) (esg : Int) (E : Nat) (e : Ending) (w' : World) : Prop := w' = w ∧ ∃ (n : Int) (ok : Bool), e = .returned (.tuple #[.int .i64 n, .bool ok]) ∧ (ok = true → n = esg * (E : Int) ∧ E < 10 ^ 15) ∧ (ok = false → 10 ^ 15 ≤ E)

set_option maxRecDepth 100000 in
set_option maxHeartbeats 2000000 in
theorem signed_minus (t : ByteArray) (N : Nat) (g : Nat → Nat) (hN : 1 ≤ N) (hs : N ≤ 799) (h1 : t.size = N + 1) (hb : bt t ((0 : Nat) : Int) = 45) (hg : ∀ k < N, bt t ((1 + k : Nat) : Int) = (g k : Int)) (hk : ∀ k < N, 48 ≤ g k ∧ g k ≤ 57) (w : World) : Calls Tryz.prog 17 #[.string t] w (SgPost w (-1) (FP.dnum 0 g N)) := by
  have p0 : (0 < t.size) = True := eq_true (by omega)
  obtain ⟨R, hR⟩ : ∃ R, R = SgPost w (-1) (FP.dnum 0 g N) := ⟨_, rfl⟩
  rw [← hR]
  have HR := Aside0.mk hR
  have x0 : ∀ h : 0 < t.size, ((t[0]'h).toNat : Int) = bt t ((0 : Nat) : Int) := fun h => bt_at t ((0 : Nat) : Int) h
  rw [hb] at x0
  have p1i : ((1 : Int) ≤ (t.size : Int)) = True := eq_true (by omega)
  have HG := Aside0.mk (fun (k : Nat) (h : k < N) => (bt_ext (s := t) (a := 1) (b := t.size) (k := k) (by omega) (Nat.le_refl _)).trans (hg k h))
  have HZ := Aside0.mk (show (t.extract 1 t.size).size = N by rw [ext_size (by omega) (Nat.le_refl _)]; omega)
  have ht8 : (t.size : Int) ≤ 800 := by omega
  clear hb hg
  have HK := Aside0.mk hk
  have H1 := Aside0.mk h1
  clear hk hR h1
  go_enter Tryz.func17, Tryz.ntmps17
  go_wp2_with fail
  obtain ⟨d, hd⟩ : ∃ d, d = t.extract 1 t.size := ⟨_, rfl⟩
  rw [← hd] at HG HZ
  rw [← hd]
  clear hd
  have HN := Aside0.mk hN
  have hZ := HZ.out
  have hz8 : (d.size : Int) ≤ 800 := by omega
  clear hN hs hZ p0
  have FIN : Aside0 (∀ (n : Int) (ok : Bool), True → ((ok = true → n = (-1) * ((FP.dnum 0 g N : Nat) : Int) ∧ FP.dnum 0 g N < 10 ^ 15) ∧ (ok = false → 10 ^ 15 ≤ FP.dnum 0 g N)) → R (.returned (.tuple #[.int .i64 n, .bool ok])) w) := ⟨fun n ok _ h => by rw [HR.out]; exact ⟨rfl, n, ok, rfl, h⟩⟩
  go_loopg [5, 6, 7] N (fun q v5 v6 v7 w' => ∃ k : Nat, v7 = .int .i64 (k : Int) ∧ v6 = .int .i64 ((sdig g k : Nat) : Int) ∧ v5 = .int .i64 ((FP.dnum 0 g k : Nat) : Int) ∧ Aside0 (q = N - k ∧ k ≤ N ∧ sdig g k ≤ 15) ∧ Aside0 (w' = w))
  case atStart => exact ⟨0, rfl, rfl, rfl, ⟨⟨rfl, Nat.zero_le _, Nat.zero_le _⟩⟩, ⟨rfl⟩⟩
  case round =>
    obtain ⟨k, rfl, rfl, rfl, hkk, hw⟩ := hrel
    obtain rfl := hw.out
    by_cases hlt : k < N
    · have hZ2 := HZ.out
      have hlt2 : k < d.size := by omega
      have hbk := HG.out k hlt
      have hkd := HK.out k hlt
      have hx5 : ∀ h : k < d.size, ((d[k]'h).toNat : Int) = (g k : Int) := fun h => (bt_at d (k : Int) h).trans hbk
      have hsd := hkk.out.2.2
      have hdl := sdig_lt (g := g) (n := N) (fun j hj => (HK.out j hj).2) k hkk.out.2.1
      have hdl2 : FP.dnum 0 g k < 10 ^ 15 := Nat.lt_of_lt_of_le hdl (Nat.pow_le_pow_right (by decide) hsd)
      have HL := Aside0.mk hlt
      have stepn : FP.dnum 0 g (k + 1) = FP.dnum 0 g k * 10 + (g k - 48) := rfl
      have steps : sdig g (k + 1) = if 0 < sdig g k ∨ g k ≠ 48 then sdig g k + 1 else sdig g k := rfl
      obtain ⟨E, hE⟩ : ∃ E, E = FP.dnum 0 g k := ⟨_, rfl⟩
      obtain ⟨S, hS⟩ : ∃ S, S = sdig g k := ⟨_, rfl⟩
      obtain ⟨c, hc⟩ : ∃ c, c = g k := ⟨_, rfl⟩
      rw [← hE, ← hc] at stepn
      rw [← hS, ← hc] at steps
      rw [← hE] at hdl2
      rw [← hS] at hsd
      rw [← hc] at hx5 hkd
      rw [← hE, ← hS]
      have hE15 : E < 1000000000000000 := hdl2
      have eE : (E : Int) * 10 + ((c : Int) - 48) = ((E * 10 + (c - 48) : Nat) : Int) := by omega
      have SN := Aside0.mk stepn
      have SS := Aside0.mk steps
      clear hbk hdl hdl2 hZ2 hE hS hc stepn steps hlt
      by_cases h0 : 0 < S ∨ c ≠ 48
      · have SS2 := Aside0.mk (SS.out.trans (if_pos h0))
        have two : (decide (0 < S) = true ∧ decide ((0 : Int) < (S : Int)) = true) ∨ (S = 0 ∧ ((c : Int) == 48) = false ∧ ((c : Int) != 48) = true) := by
          by_cases hS0 : S = 0
          · exact .inr ⟨hS0, by rw [beq_eq_false_iff_ne]; omega, by rw [bne_iff_ne]; omega⟩
          · exact .inl ⟨decide_eq_true (by omega), decide_eq_true (by omega)⟩
        clear SS h0
        rcases two with ⟨t1n, t1⟩ | ⟨rfl, t3, t3n⟩
        · by_cases h15 : S = 15
          · have LB := Aside0.mk (show 10 ^ 15 ≤ FP.dnum 0 g N by
              have h1 := sdig_ge (g := g) (n := N) (fun j hj => (HK.out j hj).1) (k + 1) (by have := HL.out; omega) (by rw [SS2.out]; omega)
              rw [SS2.out, h15] at h1
              exact Nat.le_trans h1 (FP.dnum_mono 0 g (by have := HL.out; omega)))
            subst h15
            go_wp2_with fail
            exact FIN.out 0 false trivial ⟨fun h => absurd h (by decide), fun _ => LB.out⟩
          · have t4 : decide ((15 : Int) < (S : Int) + 1) = false := decide_eq_false (by omega)
            have t4n : decide (15 < S + 1) = false := decide_eq_false (by omega)
            go_wp2_with fail
            go_roundg (N - (k + 1))
            case measure => have := hkk.out; have := HL.out; omega
            case rel => exact ⟨k + 1, by go_num, (by rw [SS2.out]; first | rfl | go_num), by rw [SN.out]; first | exact congrArg _ eE | exact (congrArg (fun z => Value.int .i64 z) eE) | rfl, ⟨⟨rfl, by have := HL.out; omega, by rw [SS2.out]; omega⟩⟩, ⟨rfl⟩⟩
        · go_wp2_with fail
          go_roundg (N - (k + 1))
          case measure => have := hkk.out; have := HL.out; omega
          case rel => exact ⟨k + 1, by go_num, (by rw [SS2.out]; first | rfl | go_num), by rw [SN.out]; first | exact congrArg _ eE | exact (congrArg (fun z => Value.int .i64 z) eE) | rfl, ⟨⟨rfl, by have := HL.out; omega, by rw [SS2.out]; omega⟩⟩, ⟨rfl⟩⟩
      · have hS0 : S = 0 := by omega
        have hc48 : c = 48 := by omega
        have SS2 := Aside0.mk (SS.out.trans (if_neg h0))
        clear SS h0
        subst hS0 hc48
        go_wp2_with fail
        go_roundg (N - (k + 1))
        case measure => have := hkk.out; have := HL.out; omega
        case rel => exact ⟨k + 1, by go_num, (by rw [SS2.out]; first | rfl | go_num), by rw [SN.out]; first | exact congrArg _ eE | exact (congrArg (fun z => Value.int .i64 z) eE) | rfl, ⟨⟨rfl, by have := HL.out; omega, by rw [SS2.out]; omega⟩⟩, ⟨rfl⟩⟩
    · have e : k = N := by have := hkk.out; omega
      subst e
      have t0 : decide ((d.size : Int)  ≤ (k : Int)) = true := decide_eq_true (by have := HZ.out; omega)
      have hsd := hkk.out.2.2
      have hdl := sdig_lt (g := g) (n := k) (fun j hj => (HK.out j hj).2) k (Nat.le_refl _)
      have hdl2 : FP.dnum 0 g k < 10 ^ 15 := Nat.lt_of_lt_of_le hdl (Nat.pow_le_pow_right (by decide) hsd)
      have hZ3 := HZ.out
      obtain ⟨E, hE⟩ : ∃ E, E = FP.dnum 0 g k := ⟨_, rfl⟩
      have HE := Aside0.mk hE
      rw [← hE]
      rw [← hE] at hdl2
      have HD := Aside0.mk hdl2
      have hE15 : (E : Int) ≤ 1000000000000000 := by omega
      clear hlt hsd hdl hdl2 hE
      go_wp2_with fail
      exact FIN.out _ true trivial ⟨fun _ => ⟨by first | omega | (rw [← HE.out]; omega), by rw [← HE.out]; exact HD.out⟩, fun h => absurd h (by decide)⟩

set_option maxRecDepth 100000 in
set_option maxHeartbeats 2000000 in
theorem signed_plus (t : ByteArray) (N : Nat) (g : Nat → Nat) (hN : 1 ≤ N) (hs : N ≤ 799) (h1 : t.size = N + 1) (hb : bt t ((0 : Nat) : Int) = 43) (hg : ∀ k < N, bt t ((1 + k : Nat) : Int) = (g k : Int)) (hk : ∀ k < N, 48 ≤ g k ∧ g k ≤ 57) (w : World) : Calls Tryz.prog 17 #[.string t] w (SgPost w 1 (FP.dnum 0 g N)) := by
  have p0 : (0 < t.size) = True := eq_true (by omega)
  obtain ⟨R, hR⟩ : ∃ R, R = SgPost w 1 (FP.dnum 0 g N) := ⟨_, rfl⟩
  rw [← hR]
  have HR := Aside0.mk hR
  have x0 : ∀ h : 0 < t.size, ((t[0]'h).toNat : Int) = bt t ((0 : Nat) : Int) := fun h => bt_at t ((0 : Nat) : Int) h
  rw [hb] at x0
  have p1i : ((1 : Int) ≤ (t.size : Int)) = True := eq_true (by omega)
  have HG := Aside0.mk (fun (k : Nat) (h : k < N) => (bt_ext (s := t) (a := 1) (b := t.size) (k := k) (by omega) (Nat.le_refl _)).trans (hg k h))
  have HZ := Aside0.mk (show (t.extract 1 t.size).size = N by rw [ext_size (by omega) (Nat.le_refl _)]; omega)
  have ht8 : (t.size : Int) ≤ 800 := by omega
  clear hb hg
  have HK := Aside0.mk hk
  have H1 := Aside0.mk h1
  clear hk hR h1
  go_enter Tryz.func17, Tryz.ntmps17
  go_wp2_with fail
  obtain ⟨d, hd⟩ : ∃ d, d = t.extract 1 t.size := ⟨_, rfl⟩
  rw [← hd] at HG HZ
  rw [← hd]
  clear hd
  have HN := Aside0.mk hN
  have hZ := HZ.out
  have hz8 : (d.size : Int) ≤ 800 := by omega
  clear hN hs hZ p0
  have FIN : Aside0 (∀ (n : Int) (ok : Bool), True → ((ok = true → n = 1 * ((FP.dnum 0 g N : Nat) : Int) ∧ FP.dnum 0 g N < 10 ^ 15) ∧ (ok = false → 10 ^ 15 ≤ FP.dnum 0 g N)) → R (.returned (.tuple #[.int .i64 n, .bool ok])) w) := ⟨fun n ok _ h => by rw [HR.out]; exact ⟨rfl, n, ok, rfl, h⟩⟩
  go_loopg [5, 6, 7] N (fun q v5 v6 v7 w' => ∃ k : Nat, v7 = .int .i64 (k : Int) ∧ v6 = .int .i64 ((sdig g k : Nat) : Int) ∧ v5 = .int .i64 ((FP.dnum 0 g k : Nat) : Int) ∧ Aside0 (q = N - k ∧ k ≤ N ∧ sdig g k ≤ 15) ∧ Aside0 (w' = w))
  case atStart => exact ⟨0, rfl, rfl, rfl, ⟨⟨rfl, Nat.zero_le _, Nat.zero_le _⟩⟩, ⟨rfl⟩⟩
  case round =>
    obtain ⟨k, rfl, rfl, rfl, hkk, hw⟩ := hrel
    obtain rfl := hw.out
    by_cases hlt : k < N
    · have hZ2 := HZ.out
      have hlt2 : k < d.size := by omega
      have hbk := HG.out k hlt
      have hkd := HK.out k hlt
      have hx5 : ∀ h : k < d.size, ((d[k]'h).toNat : Int) = (g k : Int) := fun h => (bt_at d (k : Int) h).trans hbk
      have hsd := hkk.out.2.2
      have hdl := sdig_lt (g := g) (n := N) (fun j hj => (HK.out j hj).2) k hkk.out.2.1
      have hdl2 : FP.dnum 0 g k < 10 ^ 15 := Nat.lt_of_lt_of_le hdl (Nat.pow_le_pow_right (by decide) hsd)
      have HL := Aside0.mk hlt
      have stepn : FP.dnum 0 g (k + 1) = FP.dnum 0 g k * 10 + (g k - 48) := rfl
      have steps : sdig g (k + 1) = if 0 < sdig g k ∨ g k ≠ 48 then sdig g k + 1 else sdig g k := rfl
      obtain ⟨E, hE⟩ : ∃ E, E = FP.dnum 0 g k := ⟨_, rfl⟩
      obtain ⟨S, hS⟩ : ∃ S, S = sdig g k := ⟨_, rfl⟩
      obtain ⟨c, hc⟩ : ∃ c, c = g k := ⟨_, rfl⟩
      rw [← hE, ← hc] at stepn
      rw [← hS, ← hc] at steps
      rw [← hE] at hdl2
      rw [← hS] at hsd
      rw [← hc] at hx5 hkd
      rw [← hE, ← hS]
      have hE15 : E < 1000000000000000 := hdl2
      have eE : (E : Int) * 10 + ((c : Int) - 48) = ((E * 10 + (c - 48) : Nat) : Int) := by omega
      have SN := Aside0.mk stepn
      have SS := Aside0.mk steps
      clear hbk hdl hdl2 hZ2 hE hS hc stepn steps hlt
      by_cases h0 : 0 < S ∨ c ≠ 48
      · have SS2 := Aside0.mk (SS.out.trans (if_pos h0))
        have two : (decide (0 < S) = true ∧ decide ((0 : Int) < (S : Int)) = true) ∨ (S = 0 ∧ ((c : Int) == 48) = false ∧ ((c : Int) != 48) = true) := by
          by_cases hS0 : S = 0
          · exact .inr ⟨hS0, by rw [beq_eq_false_iff_ne]; omega, by rw [bne_iff_ne]; omega⟩
          · exact .inl ⟨decide_eq_true (by omega), decide_eq_true (by omega)⟩
        clear SS h0
        rcases two with ⟨t1n, t1⟩ | ⟨rfl, t3, t3n⟩
        · by_cases h15 : S = 15
          · have LB := Aside0.mk (show 10 ^ 15 ≤ FP.dnum 0 g N by
              have h1 := sdig_ge (g := g) (n := N) (fun j hj => (HK.out j hj).1) (k + 1) (by have := HL.out; omega) (by rw [SS2.out]; omega)
              rw [SS2.out, h15] at h1
              exact Nat.le_trans h1 (FP.dnum_mono 0 g (by have := HL.out; omega)))
            subst h15
            go_wp2_with fail
            exact FIN.out 0 false trivial ⟨fun h => absurd h (by decide), fun _ => LB.out⟩
          · have t4 : decide ((15 : Int) < (S : Int) + 1) = false := decide_eq_false (by omega)
            have t4n : decide (15 < S + 1) = false := decide_eq_false (by omega)
            go_wp2_with fail
            go_roundg (N - (k + 1))
            case measure => have := hkk.out; have := HL.out; omega
            case rel => exact ⟨k + 1, by go_num, (by rw [SS2.out]; first | rfl | go_num), by rw [SN.out]; first | exact congrArg _ eE | exact (congrArg (fun z => Value.int .i64 z) eE) | rfl, ⟨⟨rfl, by have := HL.out; omega, by rw [SS2.out]; omega⟩⟩, ⟨rfl⟩⟩
        · go_wp2_with fail
          go_roundg (N - (k + 1))
          case measure => have := hkk.out; have := HL.out; omega
          case rel => exact ⟨k + 1, by go_num, (by rw [SS2.out]; first | rfl | go_num), by rw [SN.out]; first | exact congrArg _ eE | exact (congrArg (fun z => Value.int .i64 z) eE) | rfl, ⟨⟨rfl, by have := HL.out; omega, by rw [SS2.out]; omega⟩⟩, ⟨rfl⟩⟩
      · have hS0 : S = 0 := by omega
        have hc48 : c = 48 := by omega
        have SS2 := Aside0.mk (SS.out.trans (if_neg h0))
        clear SS h0
        subst hS0 hc48
        go_wp2_with fail
        go_roundg (N - (k + 1))
        case measure => have := hkk.out; have := HL.out; omega
        case rel => exact ⟨k + 1, by go_num, (by rw [SS2.out]; first | rfl | go_num), by rw [SN.out]; first | exact congrArg _ eE | exact (congrArg (fun z => Value.int .i64 z) eE) | rfl, ⟨⟨rfl, by have := HL.out; omega, by rw [SS2.out]; omega⟩⟩, ⟨rfl⟩⟩
    · have e : k = N := by have := hkk.out; omega
      subst e
      have t0 : decide ((d.size : Int)  ≤ (k : Int)) = true := decide_eq_true (by have := HZ.out; omega)
      have hsd := hkk.out.2.2
      have hdl := sdig_lt (g := g) (n := k) (fun j hj => (HK.out j hj).2) k (Nat.le_refl _)
      have hdl2 : FP.dnum 0 g k < 10 ^ 15 := Nat.lt_of_lt_of_le hdl (Nat.pow_le_pow_right (by decide) hsd)
      have hZ3 := HZ.out
      obtain ⟨E, hE⟩ : ∃ E, E = FP.dnum 0 g k := ⟨_, rfl⟩
      have HE := Aside0.mk hE
      rw [← hE]
      rw [← hE] at hdl2
      have HD := Aside0.mk hdl2
      have hE15 : (E : Int) ≤ 1000000000000000 := by omega
      clear hlt hsd hdl hdl2 hE
      go_wp2_with fail
      exact FIN.out _ true trivial ⟨fun _ => ⟨by first | omega | (rw [← HE.out]; omega), by rw [← HE.out]; exact HD.out⟩, fun h => absurd h (by decide)⟩

set_option maxRecDepth 100000 in
set_option maxHeartbeats 2000000 in
theorem signed_none (t : ByteArray) (N : Nat) (g : Nat → Nat) (hN : 1 ≤ N) (hs : N ≤ 799) (h1 : t.size = N) (hg : ∀ k < N, bt t (k : Int) = (g k : Int)) (hk : ∀ k < N, 48 ≤ g k ∧ g k ≤ 57) (w : World) : Calls Tryz.prog 17 #[.string t] w (SgPost w 1 (FP.dnum 0 g N)) := by
  have p0 : (0 < t.size) = True := eq_true (by omega)
  obtain ⟨R, hR⟩ : ∃ R, R = SgPost w 1 (FP.dnum 0 g N) := ⟨_, rfl⟩
  rw [← hR]
  have HR := Aside0.mk hR
  have hb0 := hg 0 (by omega)
  have hk0 := hk 0 (by omega)
  have x0 : ∀ h : 0 < t.size, ((t[0]'h).toNat : Int) = (g 0 : Int) := fun h => (bt_at t ((0 : Nat) : Int) h).trans hb0
  have c45 : ((g 0 : Int) == 45) = false := by rw [beq_eq_false_iff_ne]; omega
  have c45n : (g 0 == 45) = false := by rw [beq_eq_false_iff_ne]; omega
  have c43 : ((g 0 : Int) == 43) = false := by rw [beq_eq_false_iff_ne]; omega
  have c43n : (g 0 == 43) = false := by rw [beq_eq_false_iff_ne]; omega
  have HG := Aside0.mk hg
  have HZ := Aside0.mk h1
  clear hb0 hk0 hg
  have HK := Aside0.mk hk
  have H1 := Aside0.mk h1
  clear hk hR h1
  go_enter Tryz.func17, Tryz.ntmps17
  go_wp2_with fail
  have HN := Aside0.mk hN
  have hZ := HZ.out
  have hz8 : (t.size : Int) ≤ 800 := by omega
  clear hN hs hZ p0
  have FIN : Aside0 (∀ (n : Int) (ok : Bool), True → ((ok = true → n = 1 * ((FP.dnum 0 g N : Nat) : Int) ∧ FP.dnum 0 g N < 10 ^ 15) ∧ (ok = false → 10 ^ 15 ≤ FP.dnum 0 g N)) → R (.returned (.tuple #[.int .i64 n, .bool ok])) w) := ⟨fun n ok _ h => by rw [HR.out]; exact ⟨rfl, n, ok, rfl, h⟩⟩
  go_loopg [5, 6, 7] N (fun q v5 v6 v7 w' => ∃ k : Nat, v7 = .int .i64 (k : Int) ∧ v6 = .int .i64 ((sdig g k : Nat) : Int) ∧ v5 = .int .i64 ((FP.dnum 0 g k : Nat) : Int) ∧ Aside0 (q = N - k ∧ k ≤ N ∧ sdig g k ≤ 15) ∧ Aside0 (w' = w))
  case atStart => exact ⟨0, rfl, rfl, rfl, ⟨⟨rfl, Nat.zero_le _, Nat.zero_le _⟩⟩, ⟨rfl⟩⟩
  case round =>
    obtain ⟨k, rfl, rfl, rfl, hkk, hw⟩ := hrel
    obtain rfl := hw.out
    by_cases hlt : k < N
    · have hZ2 := HZ.out
      have hlt2 : k < t.size := by omega
      have hbk := HG.out k hlt
      have hkd := HK.out k hlt
      have hx5 : ∀ h : k < t.size, ((t[k]'h).toNat : Int) = (g k : Int) := fun h => (bt_at t (k : Int) h).trans hbk
      have hsd := hkk.out.2.2
      have hdl := sdig_lt (g := g) (n := N) (fun j hj => (HK.out j hj).2) k hkk.out.2.1
      have hdl2 : FP.dnum 0 g k < 10 ^ 15 := Nat.lt_of_lt_of_le hdl (Nat.pow_le_pow_right (by decide) hsd)
      have HL := Aside0.mk hlt
      have stepn : FP.dnum 0 g (k + 1) = FP.dnum 0 g k * 10 + (g k - 48) := rfl
      have steps : sdig g (k + 1) = if 0 < sdig g k ∨ g k ≠ 48 then sdig g k + 1 else sdig g k := rfl
      obtain ⟨E, hE⟩ : ∃ E, E = FP.dnum 0 g k := ⟨_, rfl⟩
      obtain ⟨S, hS⟩ : ∃ S, S = sdig g k := ⟨_, rfl⟩
      obtain ⟨c, hc⟩ : ∃ c, c = g k := ⟨_, rfl⟩
      rw [← hE, ← hc] at stepn
      rw [← hS, ← hc] at steps
      rw [← hE] at hdl2
      rw [← hS] at hsd
      rw [← hc] at hx5 hkd
      rw [← hE, ← hS]
      have hE15 : E < 1000000000000000 := hdl2
      have eE : (E : Int) * 10 + ((c : Int) - 48) = ((E * 10 + (c - 48) : Nat) : Int) := by omega
      have SN := Aside0.mk stepn
      have SS := Aside0.mk steps
      clear hbk hdl hdl2 hZ2 hE hS hc stepn steps hlt
      by_cases h0 : 0 < S ∨ c ≠ 48
      · have SS2 := Aside0.mk (SS.out.trans (if_pos h0))
        have two : (decide (0 < S) = true ∧ decide ((0 : Int) < (S : Int)) = true) ∨ (S = 0 ∧ ((c : Int) == 48) = false ∧ ((c : Int) != 48) = true) := by
          by_cases hS0 : S = 0
          · exact .inr ⟨hS0, by rw [beq_eq_false_iff_ne]; omega, by rw [bne_iff_ne]; omega⟩
          · exact .inl ⟨decide_eq_true (by omega), decide_eq_true (by omega)⟩
        clear SS h0
        rcases two with ⟨t1n, t1⟩ | ⟨rfl, t3, t3n⟩
        · by_cases h15 : S = 15
          · have LB := Aside0.mk (show 10 ^ 15 ≤ FP.dnum 0 g N by
              have h1 := sdig_ge (g := g) (n := N) (fun j hj => (HK.out j hj).1) (k + 1) (by have := HL.out; omega) (by rw [SS2.out]; omega)
              rw [SS2.out, h15] at h1
              exact Nat.le_trans h1 (FP.dnum_mono 0 g (by have := HL.out; omega)))
            subst h15
            go_wp2_with fail
            exact FIN.out 0 false trivial ⟨fun h => absurd h (by decide), fun _ => LB.out⟩
          · have t4 : decide ((15 : Int) < (S : Int) + 1) = false := decide_eq_false (by omega)
            have t4n : decide (15 < S + 1) = false := decide_eq_false (by omega)
            go_wp2_with fail
            go_roundg (N - (k + 1))
            case measure => have := hkk.out; have := HL.out; omega
            case rel => exact ⟨k + 1, by go_num, (by rw [SS2.out]; first | rfl | go_num), by rw [SN.out]; first | exact congrArg _ eE | exact (congrArg (fun z => Value.int .i64 z) eE) | rfl, ⟨⟨rfl, by have := HL.out; omega, by rw [SS2.out]; omega⟩⟩, ⟨rfl⟩⟩
        · go_wp2_with fail
          go_roundg (N - (k + 1))
          case measure => have := hkk.out; have := HL.out; omega
          case rel => exact ⟨k + 1, by go_num, (by rw [SS2.out]; first | rfl | go_num), by rw [SN.out]; first | exact congrArg _ eE | exact (congrArg (fun z => Value.int .i64 z) eE) | rfl, ⟨⟨rfl, by have := HL.out; omega, by rw [SS2.out]; omega⟩⟩, ⟨rfl⟩⟩
      · have hS0 : S = 0 := by omega
        have hc48 : c = 48 := by omega
        have SS2 := Aside0.mk (SS.out.trans (if_neg h0))
        clear SS h0
        subst hS0 hc48
        go_wp2_with fail
        go_roundg (N - (k + 1))
        case measure => have := hkk.out; have := HL.out; omega
        case rel => exact ⟨k + 1, by go_num, (by rw [SS2.out]; first | rfl | go_num), by rw [SN.out]; first | exact congrArg _ eE | exact (congrArg (fun z => Value.int .i64 z) eE) | rfl, ⟨⟨rfl, by have := HL.out; omega, by rw [SS2.out]; omega⟩⟩, ⟨rfl⟩⟩
    · have e : k = N := by have := hkk.out; omega
      subst e
      have t0 : decide ((t.size : Int)  ≤ (k : Int)) = true := decide_eq_true (by have := HZ.out; omega)
      have hsd := hkk.out.2.2
      have hdl := sdig_lt (g := g) (n := k) (fun j hj => (HK.out j hj).2) k (Nat.le_refl _)
      have hdl2 : FP.dnum 0 g k < 10 ^ 15 := Nat.lt_of_lt_of_le hdl (Nat.pow_le_pow_right (by decide) hsd)
      have hZ3 := HZ.out
      obtain ⟨E, hE⟩ : ∃ E, E = FP.dnum 0 g k := ⟨_, rfl⟩
      have HE := Aside0.mk hE
      rw [← hE]
      rw [← hE] at hdl2
      have HD := Aside0.mk hdl2
      have hE15 : (E : Int) ≤ 1000000000000000 := by omega
      clear hlt hsd hdl hdl2 hE
      go_wp2_with fail
      exact FIN.out _ true trivial ⟨fun _ => ⟨by first | omega | (rw [← HE.out]; omega), by rw [← HE.out]; exact HD.out⟩, fun h => absurd h (by decide)⟩


end Go.Proofs.YtodbjojglibniaaGreatDoor
