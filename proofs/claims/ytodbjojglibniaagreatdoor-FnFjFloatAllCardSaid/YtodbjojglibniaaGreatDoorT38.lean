/- Walks of functions of FnFjFloatAll (G8); conditions stand ahead of each theorem. -/
import Derived.Test.YtodbjojglibniaaGreatDoorT30
import Derived.Test.YtodbjojglibniaaGreatDoorT27
set_option linter.unusedVariables false
set_option linter.unusedSimpArgs false
namespace Go.Proofs.YtodbjojglibniaaGreatDoor
open Go.RowKit Go.Proofs.YtodbjojglibniaaGreatDoorW.PrintWords Go.Proofs.YtodbjojglibniaaGreatDoorW.PrintLast

theorem bt_ext0 {s : ByteArray} {b k : Nat} (h : k < b) (hb : b ≤ s.size) : bt (s.extract 0 b) (k : Int) = bt s (k : Int) := by
  rw [bt_ext (by omega) hb, Nat.zero_add]
def nexp2 (s : ByteArray) (x : Int) (k : Nat) : Nat := (bt s (x + k)).toNat
/-- The parts. -/
def PartsPost (w : World) (s : ByteArray) (st W F : Nat) (x esg : Int) (N : Nat) (e : Ending) (w' : World) : Prop :=
  w' = w ∧ ∃ (wh be : ByteArray) (pw : Int) (sm : Bool), e = .returned (.tuple #[.string wh, .string be, .int .i64 pw, .bool sm]) ∧ wh.size = W ∧ be.size = F ∧ (∀ k < W, bt wh (k : Int) = bt s ((st + k : Nat) : Int)) ∧
    (∀ k < F, bt be (k : Int) = bt s ((st + W + 1 + k : Nat) : Int)) ∧ (N = 0 → pw = 4611686018427387904 ∧ sm = true) ∧
    (N ≠ 0 → (sm = true → pw = esg * (FP.dnum 0 (nexp2 s x) N : Int) ∧ FP.dnum 0 (nexp2 s x) N ≤ 300) ∧ (sm = false → 300 < FP.dnum 0 (nexp2 s x) N))

set_option maxRecDepth 100000 in
set_option maxHeartbeats 4000000 in
theorem parts_true {s : ByteArray} {W F : Nat} {x esg : Int} {N : Nat} (h : Num0 s true W F x esg N) (hs : s.size ≤ 800) (w : World) : Calls Tryz.prog 9 #[.string s] w (PartsPost w s 1 W F x esg N) := by
  obtain ⟨R, hR⟩ : ∃ R, R = PartsPost w s 1 W F x esg N := ⟨_, rfl⟩
  rw [← hR]
  have HR := Aside0.mk hR
  have hst : (if true = true then 1 else 0 : Nat) = 1 := rfl
  have hone := h.one
  have hfits : 1 + W ≤ s.size := h.fits
  have p0 : (0 < s.size) = True := eq_true (by omega)
  have hs8 : (s.size : Int) ≤ 800 := by omega
  have hb0 : bt s ((0 : Nat) : Int) = 45 := by
    rcases h.sgn with ⟨_, e⟩ | ⟨e, _⟩
    · exact e
    · cases e
  have x0 : ∀ h : 0 < s.size, ((s[0]'h).toNat : Int) = bt s ((0 : Nat) : Int) := fun h => bt_at s ((0 : Nat) : Int) h
  rw [hb0] at x0
  have p1i : ((1 : Int) ≤ (s.size : Int)) = True := eq_true (by omega)
  have p1n : (1 ≤ s.size) = True := eq_true (by omega)
  have hd : ∀ k : Nat, 1 + k < s.size → bt (s.extract 1 s.size) (k : Int) = bt s ((1 + k : Nat) : Int) := fun k hk => bt_ext hk (Nat.le_refl _)
  have hz : (s.extract 1 s.size).size + 1 = s.size := by rw [ext_size (by omega) (Nat.le_refl _)]; omega
  clear hb0
  have HD := Aside0.mk hd
  have HZ := Aside0.mk hz
  have HH := Aside0.mk h
  have HS := Aside0.mk (And.intro hone (And.intro hfits hs))
  clear hR h hs hone hfits hst hd hz
  go_enter Tryz.func9, Tryz.ntmps9
  go_wp2_with fail
  obtain ⟨d, hdd⟩ : ∃ d, d = s.extract 1 s.size := ⟨_, rfl⟩
  rw [← hdd] at HD HZ
  rw [← hdd]
  clear hdd
  have hz8 : (d.size : Int) ≤ 800 := by have := HZ.out; omega
  -- the byte behind the digits
  have hdig1 : ∀ k < W, 48 ≤ bt d (k : Int) ∧ bt d (k : Int) ≤ 57 := by
    intro k hk
    rw [HD.out k (by have := HS.out; omega)]
    exact HH.out.kinds k hk
  have HDG := Aside0.mk hdig1
  have hbk : (N = 0 ∧ 1 + W + (if F = 0 then 0 else 1 + F) = s.size) ∨ (1 ≤ N ∧ 1 + W + (if F = 0 then 0 else 1 + F) < s.size ∧ (bt s ((1 + W + (if F = 0 then 0 else 1 + F) : Nat) : Int) = 69 ∨ bt s ((1 + W + (if F = 0 then 0 else 1 + F) : Nat) : Int) = 101)) := by
    have hst : (if true = true then 1 else 0 : Nat) = 1 := rfl
    rcases HH.out.back with ⟨h1, h2⟩ | ⟨h1, q, h2, h3, h4, h5, _⟩
    · rw [hst] at h2; exact .inl ⟨h1, h2⟩
    · rw [hst] at h2
      rw [← h2]
      refine .inr ⟨h1, ?_, h3⟩
      rcases h4 with ⟨h4, _⟩ | ⟨h4, _⟩ | ⟨h4, _⟩ <;> omega
  have HBK := Aside0.mk hbk
  clear hdig1 hbk
  go_loopg [6] W (fun q v6 w' => ∃ k : Nat, v6 = .int .i64 (k : Int) ∧ Aside0 (q = W - k ∧ k ≤ W) ∧ Aside0 (w' = w))
  case atStart => exact ⟨0, rfl, ⟨⟨rfl, Nat.zero_le _⟩⟩, ⟨rfl⟩⟩
  case round =>
    obtain ⟨k, rfl, hkk, hw⟩ := hrel
    have e := hw.out
    subst e
    by_cases hlt : k < W
    · have hkd : k < d.size := by have := HS.out; have := HZ.out; omega
      have hdg := HDG.out k hlt
      obtain ⟨c, hc⟩ : ∃ c : Nat, (c : Int) = bt d (k : Int) := ⟨(bt d (k : Int)).toNat, by omega⟩
      have hx5 : ∀ h : k < d.size, ((d[k]'h).toNat : Int) = (c : Int) := fun h => (bt_at d (k : Int) h).trans hc.symm
      rw [← hc] at hdg
      obtain ⟨hd0, hd1⟩ := hdg
      have HL := Aside0.mk hlt
      clear hc hlt
      go_wp2_with fail
      go_roundg (W - (k + 1))
      case measure => have := hkk.out; have := HL.out; omega
      case rel => exact ⟨k + 1, by go_num, ⟨⟨rfl, by have := HL.out; omega⟩⟩, ⟨rfl⟩⟩
    · have hkW : k = W := by have := hkk.out; omega
      subst hkW
      have CSG : Aside0 (∀ j : Nat, 1 ≤ N → j = k + (if F = 0 then 0 else 1 + F) → Calls Tryz.prog 17 #[.string (d.extract (j + 1) d.size)] wr (SgPost wr esg (FP.dnum 0 (nexp2 s x) N))) := ⟨by
        intro j hN1 hj
        have hst : (if true = true then 1 else 0 : Nat) = 1 := rfl
        have hzz := HZ.out
        have hss := HS.out.2.2
        rcases HH.out.back with ⟨h1, _⟩ | ⟨_, q, hq, hlet, hsgn, hfin, hek⟩
        · omega
        · rw [hst] at hq
          have hqj : q = 1 + j := by omega
          subst hqj
          have hek2 : ∀ k < N, 48 ≤ nexp2 s x k ∧ nexp2 s x k ≤ 57 := by
            intro k hk
            have := hek k hk
            unfold nexp2
            omega
          have hjz : j + 1 < d.size := by rcases hsgn with ⟨hx, _⟩ | ⟨hx, _⟩ | ⟨hx, _⟩ <;> omega
          have hbtx : ∀ k < N, ∀ i : Nat, x = ((1 + j : Nat) : Int) + 1 + i → bt (d.extract (j + 1) d.size) ((i + k : Nat) : Int) = ((nexp2 s x k : Nat) : Int) := by
            intro k hk i hi'
            rw [bt_ext (by omega) (Nat.le_refl _), HD.out _ (by omega)]
            have := hek k hk
            unfold nexp2
            rw [show ((1 + (j + 1 + (i + k)) : Nat) : Int) = x + k by omega]
            omega
          have hb1 : bt (d.extract (j + 1) d.size) ((0 : Nat) : Int) = bt s (((1 + j : Nat) : Int) + 1) := by
            rw [bt_ext (by omega) (Nat.le_refl _), HD.out _ (by omega)]
            congr 1
          rcases hsgn with ⟨hx, rfl⟩ | ⟨hx, hc, rfl⟩ | ⟨hx, hc, rfl⟩
          · exact signed_none _ N (nexp2 s x) hN1 (by omega) (by rw [ext_size (by omega) (Nat.le_refl _)]; omega) (fun k hk => by have := hbtx k hk 0 (by omega); rwa [Nat.zero_add] at this) hek2 wr
          · exact signed_plus _ N (nexp2 s x) hN1 (by omega) (by rw [ext_size (by omega) (Nat.le_refl _)]; omega) (by rw [hb1]; exact hc) (fun k hk => hbtx k hk 1 (by omega)) hek2 wr
          · exact signed_minus _ N (nexp2 s x) hN1 (by omega) (by rw [ext_size (by omega) (Nat.le_refl _)]; omega) (by rw [hb1]; exact hc) (fun k hk => hbtx k hk 1 (by omega)) hek2 wr⟩
      have HEG : Aside0 (1 ≤ N → esg = 1 ∨ esg = -1) := ⟨by
        intro hN1
        rcases HH.out.back with ⟨h1, _⟩ | ⟨_, q, hq, hlet, hsgn, hfin, hek⟩
        · omega
        · rcases hsgn with ⟨_, h⟩ | ⟨_, _, h⟩ | ⟨_, _, h⟩ <;> omega⟩
      have FIN : Aside0 (∀ (be : ByteArray) (pw : Int) (sm : Bool), be.size = F → (∀ i < F, bt be (i : Int) = bt s ((1 + k + 1 + i : Nat) : Int)) → (N = 0 → pw = 4611686018427387904 ∧ sm = true) →
          (N ≠ 0 → (sm = true → pw = esg * (FP.dnum 0 (nexp2 s x) N : Int) ∧ FP.dnum 0 (nexp2 s x) N ≤ 300) ∧ (sm = false → 300 < FP.dnum 0 (nexp2 s x) N)) →
          R (.returned (.tuple #[.string (d.extract 0 k), .string be, .int .i64 pw, .bool sm])) wr) := ⟨by
        intro be pw sm a1 a2 a3 a4
        rw [HR.out]
        have hzz := HZ.out
        have hss := HS.out
        refine ⟨rfl, _, be, pw, sm, rfl, by rw [ext_size (by omega) (by omega)]; omega, a1, fun i hi => ?_, a2, a3, a4⟩
        rw [bt_ext0 hi (by omega), HD.out i (by omega)]⟩
      have hkd : k ≤ d.size := by have := HS.out; have := HZ.out; omega
      have q0 : ((k : Int) ≤ (d.size : Int)) = True := eq_true (by omega)
      have q0n : (k ≤ d.size) = True := eq_true hkd
      by_cases hF : F = 0
      · subst hF
        have hbk := HBK.out
        rw [if_pos rfl, Nat.add_zero] at hbk
        rcases hbk with ⟨hN, hend⟩ | ⟨hN1, hlt2, hlet⟩
        · have hke : k = d.size := by have := HZ.out; omega
          have t1 : decide ((k : Int) < (d.size : Int)) = false := decide_eq_false (by omega)
          have t1n : decide (k < d.size) = false := decide_eq_false (by omega)
          have t2 : ((k : Int) == (d.size : Int)) = true := by rw [beq_iff_eq]; omega
          have t2n : (k == d.size) = true := by rw [beq_iff_eq]; omega
          have HN := Aside0.mk hN
          clear hlt hkd hend hke hN q0 q0n
          have q0 : ((k : Int) ≤ (d.size : Int)) = True := eq_true (by rw [beq_iff_eq] at t2; omega)
          go_wp2_with fail
          refine bodyPost_ret (v := .tuple #[.string (d.extract 0 k), .string ⟨#[]⟩, .int .i64 4611686018427387904, .bool true]) (by simp [results, Tryz.results9, go_sem]) rfl ?_
          exact FIN.out ⟨#[]⟩ _ true rfl (fun i hi => absurd hi (by omega)) (fun _ => ⟨rfl, rfl⟩) (fun h => absurd HN.out h)
        · have hkl : k < d.size := by have := HZ.out; omega
          obtain ⟨c, hc⟩ : ∃ c : Nat, (c : Int) = bt d (k : Int) := ⟨(bt d (k : Int)).toNat, by have := bt_range d (k : Int); omega⟩
          have hx5 : ∀ h : k < d.size, ((d[k]'h).toNat : Int) = (c : Int) := fun h => (bt_at d (k : Int) h).trans hc.symm
          rw [show ((1 + k : Nat) : Int) = ((1 + k : Nat) : Int) from rfl, ← HD.out k (by omega), ← hc] at hlet
          have hce : c = 69 ∨ c = 101 := by omega
          have t2 : ((k : Int) == (d.size : Int)) = false := by rw [beq_eq_false_iff_ne]; omega
          have t2n : (k == d.size) = false := by rw [beq_eq_false_iff_ne]; omega
          have q1 : ((k : Int) + 1 ≤ (d.size : Int)) = True := eq_true (by omega)
          have q1n : (k + 1 ≤ d.size) = True := eq_true (by omega)
          have HN1 := Aside0.mk hN1
          clear hlt hc hlet hN1 hlt2
          rcases hce with rfl | rfl
          all_goals
            go_wp2_with fail
            refine (CSG.out k HN1.out (by simp)).mono ?_
            rintro e w5 ⟨rfl, n, ok, rfl, hok⟩
            cases ok with
            | false =>
              have HE := Aside0.mk (hok.2 rfl)
              clear hok
              go_wp2_with fail
              refine bodyPost_ret (v := .tuple #[.string (d.extract 0 k), .string ⟨#[]⟩, .int .i64 n, .bool false]) (by simp [results, Tryz.results9, go_sem]) rfl ?_
              exact FIN.out ⟨#[]⟩ _ false rfl (fun i hi => absurd hi (by omega)) (fun h => absurd h (by have := HN1.out; omega)) (fun _ => ⟨fun h => absurd h (by decide), fun _ => Nat.lt_of_lt_of_le (by decide) HE.out⟩)
            | true =>
              obtain ⟨hE, hE15⟩ := hok.1 rfl
              have heg := HEG.out HN1.out
              have HEE := Aside0.mk hE
              by_cases h300 : FP.dnum 0 (nexp2 s x) N ≤ 300
              · have d1 : decide (-300 ≤ n) = true := decide_eq_true (by rcases heg with e | e <;> rw [e] at hE <;> omega)
                have d2 : decide (n ≤ 300) = true := decide_eq_true (by rcases heg with e | e <;> rw [e] at hE <;> omega)
                have H3 := Aside0.mk h300
                clear hok hE hE15 heg h300
                go_wp2_with fail
                refine bodyPost_ret (v := .tuple #[.string (d.extract 0 k), .string ⟨#[]⟩, .int .i64 n, .bool true]) (by simp [results, Tryz.results9, go_sem]) rfl ?_
                exact FIN.out ⟨#[]⟩ _ true rfl (fun i hi => absurd hi (by omega)) (fun h => absurd h (by have := HN1.out; omega)) (fun _ => ⟨fun _ => ⟨HEE.out, H3.out⟩, fun h => absurd h (by decide)⟩)
              · have H3 := Aside0.mk (show 300 < FP.dnum 0 (nexp2 s x) N by omega)
                rcases heg with e | e
                · have d1 : decide (-300 ≤ n) = true := decide_eq_true (by rw [e] at hE; omega)
                  have d2 : decide (n ≤ 300) = false := decide_eq_false (by rw [e] at hE; omega)
                  clear hok hE hE15 h300 e
                  go_wp2_with fail
                  refine bodyPost_ret (v := .tuple #[.string (d.extract 0 k), .string ⟨#[]⟩, .int .i64 n, .bool false]) (by simp [results, Tryz.results9, go_sem]) rfl ?_
                  exact FIN.out ⟨#[]⟩ _ false rfl (fun i hi => absurd hi (by omega)) (fun h => absurd h (by have := HN1.out; omega)) (fun _ => ⟨fun h => absurd h (by decide), fun _ => H3.out⟩)
                · have d1 : decide (-300 ≤ n) = false := decide_eq_false (by rw [e] at hE; omega)
                  clear hok hE hE15 h300 e
                  go_wp2_with fail
                  refine bodyPost_ret (v := .tuple #[.string (d.extract 0 k), .string ⟨#[]⟩, .int .i64 n, .bool false]) (by simp [results, Tryz.results9, go_sem]) rfl ?_
                  exact FIN.out ⟨#[]⟩ _ false rfl (fun i hi => absurd hi (by omega)) (fun h => absurd h (by have := HN1.out; omega)) (fun _ => ⟨fun h => absurd h (by decide), fun _ => H3.out⟩)
      · obtain ⟨f1, f2, f3⟩ := HH.out.frac hF
        have hst : (if true = true then 1 else 0 : Nat) = 1 := rfl
        rw [hst] at f1 f2 f3
        have hkl : k < d.size := by have := HZ.out; omega
        have b46 : bt d (k : Int) = 46 := by rw [HD.out k (by omega)]; exact f1
        have hx5 : ∀ h : k < d.size, ((d[k]'h).toNat : Int) = 46 := fun h => (bt_at d (k : Int) h).trans b46
        have HF := Aside0.mk (And.intro hF (And.intro f2 f3))
        clear hlt b46 f1 f2 f3 hst
        go_wp2_with fail
        go_loopg [9] F (fun q v9 w' => ∃ i : Nat, v9 = .int .i64 (i : Int) ∧ Aside0 (∃ m, i = k + 1 + m ∧ q = F - m ∧ m ≤ F) ∧ Aside0 (w' = wr))
        case atStart => exact ⟨k + 1, by first | rfl | go_num, ⟨⟨0, rfl, rfl, Nat.zero_le _⟩⟩, ⟨rfl⟩⟩
        case round =>
          obtain ⟨i, rfl, hii, hw2⟩ := hrel
          have e := hw2.out
          subst e
          obtain ⟨m, hm1, hm2, hm3⟩ := hii.out
          have hi8 : i ≤ d.size := by have := HF.out.2.1; have := HZ.out; omega
          by_cases hmF : m < F
          · have hil : i < d.size := by have := HF.out.2.1; have := HZ.out; omega
            have hdg : 48 ≤ bt d (i : Int) ∧ bt d (i : Int) ≤ 57 := by
              rw [HD.out i (by have := HZ.out; omega)]
              have := HF.out.2.2 m hmF
              rwa [show 1 + k + 1 + m = 1 + i by omega] at this
            obtain ⟨c, hc⟩ : ∃ c : Nat, (c : Int) = bt d (i : Int) := ⟨(bt d (i : Int)).toNat, by omega⟩
            have hx6 : ∀ h : i < d.size, ((d[i]'h).toNat : Int) = (c : Int) := fun h => (bt_at d (i : Int) h).trans hc.symm
            rw [← hc] at hdg
            obtain ⟨hd0, hd1⟩ := hdg
            have HL := Aside0.mk (And.intro hm1 (And.intro hm2 hmF))
            clear hc hmF hm1 hm2 hm3 hii
            go_wp2_with fail
            go_roundg (F - (m + 1))
            case measure => have := HL.out; omega
            case rel => exact ⟨i + 1, by go_num, ⟨⟨m + 1, by have := HL.out; omega, rfl, by have := HL.out; omega⟩⟩, ⟨rfl⟩⟩
          · have hiF : i = k + 1 + F := by omega
            have HJ : Aside0 (i = k + (if F = 0 then 0 else 1 + F)) := ⟨by rw [if_neg HF.out.1]; omega⟩
            have hbe1 : (d.extract (k + 1) i).size = F := by rw [ext_size (by omega) hi8]; omega
            have hbe2 : ∀ j < F, bt (d.extract (k + 1) i) (j : Int) = bt s ((1 + k + 1 + j : Nat) : Int) := by
              intro j hj
              rw [bt_ext (by omega) hi8, HD.out _ (by have := HZ.out; omega)]
              congr 2
              omega
            have HBE := Aside0.mk (And.intro hbe1 hbe2)
            have r1 : ((k : Int) + 1 ≤ (i : Int)) = True := eq_true (by omega)
            have r1n : (k + 1 ≤ i) = True := eq_true (by omega)
            have r2 : ((i : Int) ≤ (d.size : Int)) = True := eq_true (by omega)
            have r2n : (i ≤ d.size) = True := eq_true hi8
            have hbk := HBK.out
            rw [if_neg HF.out.1, show 1 + k + (1 + F) = 1 + i by omega] at hbk
            rcases hbk with ⟨hN, hend⟩ | ⟨hN1, hlt2, hlet⟩
            · have t1 : decide ((i : Int) < (d.size : Int)) = false := decide_eq_false (by have := HZ.out; omega)
              have t1n : decide (i < d.size) = false := decide_eq_false (by have := HZ.out; omega)
              have t2 : ((i : Int) == (d.size : Int)) = true := by rw [beq_iff_eq]; have := HZ.out; omega
              have t2n : (i == d.size) = true := by rw [beq_iff_eq]; have := HZ.out; omega
              have HN := Aside0.mk hN
              clear hmF hm1 hm2 hm3 hii hiF hbe1 hbe2 hend hN hi8
              go_wp2_with fail
              refine bodyPost_ret (v := .tuple #[.string (d.extract 0 k), .string (d.extract (k + 1) i), .int .i64 4611686018427387904, .bool true]) (by simp [results, Tryz.results9, go_sem]) rfl ?_
              exact FIN.out _ _ true HBE.out.1 HBE.out.2 (fun _ => ⟨rfl, rfl⟩) (fun h => absurd HN.out h)
            · have hil : i < d.size := by have := HZ.out; omega
              obtain ⟨c, hc⟩ : ∃ c : Nat, (c : Int) = bt d (i : Int) := ⟨(bt d (i : Int)).toNat, by have := bt_range d (i : Int); omega⟩
              have hx6 : ∀ h : i < d.size, ((d[i]'h).toNat : Int) = (c : Int) := fun h => (bt_at d (i : Int) h).trans hc.symm
              rw [← HD.out i (by omega), ← hc] at hlet
              have hce : c = 69 ∨ c = 101 := by omega
              have t2 : ((i : Int) == (d.size : Int)) = false := by rw [beq_eq_false_iff_ne]; omega
              have t2n : (i == d.size) = false := by rw [beq_eq_false_iff_ne]; omega
              have q1 : ((i : Int) + 1 ≤ (d.size : Int)) = True := eq_true (by omega)
              have q1n : (i + 1 ≤ d.size) = True := eq_true (by omega)
              have HN1 := Aside0.mk hN1
              clear hmF hm1 hm2 hm3 hii hiF hbe1 hbe2 hN1 hlt2 hc hlet hi8
              rcases hce with rfl | rfl
              all_goals
                go_wp2_with fail
                refine (CSG.out i HN1.out HJ.out).mono ?_
                rintro e w5 ⟨rfl, n, ok, rfl, hok⟩
                cases ok with
                | false =>
                  have HE := Aside0.mk (hok.2 rfl)
                  clear hok
                  go_wp2_with fail
                  refine bodyPost_ret (v := .tuple #[.string (d.extract 0 k), .string (d.extract (k + 1) i), .int .i64 n, .bool false]) (by simp [results, Tryz.results9, go_sem]) rfl ?_
                  exact FIN.out _ _ false HBE.out.1 HBE.out.2 (fun h => absurd h (by have := HN1.out; omega)) (fun _ => ⟨fun h => absurd h (by decide), fun _ => Nat.lt_of_lt_of_le (by decide) HE.out⟩)
                | true =>
                  obtain ⟨hE, hE15⟩ := hok.1 rfl
                  have heg := HEG.out HN1.out
                  have HEE := Aside0.mk hE
                  by_cases h300 : FP.dnum 0 (nexp2 s x) N ≤ 300
                  · have d1 : decide (-300 ≤ n) = true := decide_eq_true (by rcases heg with e | e <;> rw [e] at hE <;> omega)
                    have d2 : decide (n ≤ 300) = true := decide_eq_true (by rcases heg with e | e <;> rw [e] at hE <;> omega)
                    have H3 := Aside0.mk h300
                    clear hok hE hE15 heg h300
                    go_wp2_with fail
                    refine bodyPost_ret (v := .tuple #[.string (d.extract 0 k), .string (d.extract (k + 1) i), .int .i64 n, .bool true]) (by simp [results, Tryz.results9, go_sem]) rfl ?_
                    exact FIN.out _ _ true HBE.out.1 HBE.out.2 (fun h => absurd h (by have := HN1.out; omega)) (fun _ => ⟨fun _ => ⟨HEE.out, H3.out⟩, fun h => absurd h (by decide)⟩)
                  · have H3 := Aside0.mk (show 300 < FP.dnum 0 (nexp2 s x) N by omega)
                    rcases heg with e | e
                    · have d1 : decide (-300 ≤ n) = true := decide_eq_true (by rw [e] at hE; omega)
                      have d2 : decide (n ≤ 300) = false := decide_eq_false (by rw [e] at hE; omega)
                      clear hok hE hE15 h300 e
                      go_wp2_with fail
                      refine bodyPost_ret (v := .tuple #[.string (d.extract 0 k), .string (d.extract (k + 1) i), .int .i64 n, .bool false]) (by simp [results, Tryz.results9, go_sem]) rfl ?_
                      exact FIN.out _ _ false HBE.out.1 HBE.out.2 (fun h => absurd h (by have := HN1.out; omega)) (fun _ => ⟨fun h => absurd h (by decide), fun _ => H3.out⟩)
                    · have d1 : decide (-300 ≤ n) = false := decide_eq_false (by rw [e] at hE; omega)
                      clear hok hE hE15 h300 e
                      go_wp2_with fail
                      refine bodyPost_ret (v := .tuple #[.string (d.extract 0 k), .string (d.extract (k + 1) i), .int .i64 n, .bool false]) (by simp [results, Tryz.results9, go_sem]) rfl ?_
                      exact FIN.out _ _ false HBE.out.1 HBE.out.2 (fun h => absurd h (by have := HN1.out; omega)) (fun _ => ⟨fun h => absurd h (by decide), fun _ => H3.out⟩)

set_option maxRecDepth 100000 in
set_option maxHeartbeats 4000000 in
theorem parts_false {s : ByteArray} {W F : Nat} {x esg : Int} {N : Nat} (h : Num0 s false W F x esg N) (hs : s.size ≤ 800) (w : World) : Calls Tryz.prog 9 #[.string s] w (PartsPost w s 0 W F x esg N) := by
  obtain ⟨R, hR⟩ : ∃ R, R = PartsPost w s 0 W F x esg N := ⟨_, rfl⟩
  rw [← hR]
  have HR := Aside0.mk hR
  have hst : (if false = true then 1 else 0 : Nat) = 0 := rfl
  have hone := h.one
  have hfits : 0 + W ≤ s.size := h.fits
  have p0 : (0 < s.size) = True := eq_true (by omega)
  have hs8 : (s.size : Int) ≤ 800 := by omega
  have hb0 : ¬ bt s ((0 : Nat) : Int) = 45 := by
    rcases h.sgn with ⟨e, _⟩ | ⟨_, e⟩
    · cases e
    · exact e
  obtain ⟨c0, hc0⟩ : ∃ c0 : Nat, (c0 : Int) = bt s ((0 : Nat) : Int) := ⟨(bt s ((0 : Nat) : Int)).toNat, by have := bt_range s ((0 : Nat) : Int); omega⟩
  have x0 : ∀ h : 0 < s.size, ((s[0]'h).toNat : Int) = (c0 : Int) := fun h => (bt_at s ((0 : Nat) : Int) h).trans hc0.symm
  rw [← hc0] at hb0
  have t45 : ((c0 : Int) == 45) = false := by rw [beq_eq_false_iff_ne]; exact hb0
  have t45n : (c0 == 45) = false := by rw [beq_eq_false_iff_ne]; intro e; exact hb0 (by rw [e]; rfl)
  have hd : ∀ k : Nat, 0 + k < s.size → bt s (k : Int) = bt s ((0 + k : Nat) : Int) := fun k hk => by rw [Nat.zero_add]
  have hz : s.size + 0 = s.size := rfl
  clear hb0 hc0
  have HD := Aside0.mk hd
  have HZ := Aside0.mk hz
  have HH := Aside0.mk h
  have HS := Aside0.mk (And.intro hone (And.intro hfits hs))
  clear hR h hs hone hfits hst hd hz
  go_enter Tryz.func9, Tryz.ntmps9
  go_wp2_with fail
  have hz8 : (s.size : Int) ≤ 800 := by have := HZ.out; omega
  -- the byte behind the digits
  have hdig1 : ∀ k < W, 48 ≤ bt s (k : Int) ∧ bt s (k : Int) ≤ 57 := by
    intro k hk
    rw [HD.out k (by have := HS.out; omega)]
    exact HH.out.kinds k hk
  have HDG := Aside0.mk hdig1
  have hbk : (N = 0 ∧ 0 + W + (if F = 0 then 0 else 1 + F) = s.size) ∨ (1 ≤ N ∧ 0 + W + (if F = 0 then 0 else 1 + F) < s.size ∧ (bt s ((0 + W + (if F = 0 then 0 else 1 + F) : Nat) : Int) = 69 ∨ bt s ((0 + W + (if F = 0 then 0 else 1 + F) : Nat) : Int) = 101)) := by
    have hst : (if false = true then 1 else 0 : Nat) = 0 := rfl
    rcases HH.out.back with ⟨h1, h2⟩ | ⟨h1, q, h2, h3, h4, h5, _⟩
    · rw [hst] at h2; exact .inl ⟨h1, h2⟩
    · rw [hst] at h2
      rw [← h2]
      refine .inr ⟨h1, ?_, h3⟩
      rcases h4 with ⟨h4, _⟩ | ⟨h4, _⟩ | ⟨h4, _⟩ <;> omega
  have HBK := Aside0.mk hbk
  clear hdig1 hbk
  go_loopg [6] W (fun q v6 w' => ∃ k : Nat, v6 = .int .i64 (k : Int) ∧ Aside0 (q = W - k ∧ k ≤ W) ∧ Aside0 (w' = w))
  case atStart => exact ⟨0, rfl, ⟨⟨rfl, Nat.zero_le _⟩⟩, ⟨rfl⟩⟩
  case round =>
    obtain ⟨k, rfl, hkk, hw⟩ := hrel
    have e := hw.out
    subst e
    by_cases hlt : k < W
    · have hkd : k < s.size := by have := HS.out; have := HZ.out; omega
      have hdg := HDG.out k hlt
      obtain ⟨c, hc⟩ : ∃ c : Nat, (c : Int) = bt s (k : Int) := ⟨(bt s (k : Int)).toNat, by omega⟩
      have hx5 : ∀ h : k < s.size, ((s[k]'h).toNat : Int) = (c : Int) := fun h => (bt_at s (k : Int) h).trans hc.symm
      rw [← hc] at hdg
      obtain ⟨hd0, hd1⟩ := hdg
      have HL := Aside0.mk hlt
      clear hc hlt
      go_wp2_with fail
      go_roundg (W - (k + 1))
      case measure => have := hkk.out; have := HL.out; omega
      case rel => exact ⟨k + 1, by go_num, ⟨⟨rfl, by have := HL.out; omega⟩⟩, ⟨rfl⟩⟩
    · have hkW : k = W := by have := hkk.out; omega
      subst hkW
      have CSG : Aside0 (∀ j : Nat, 1 ≤ N → j = k + (if F = 0 then 0 else 1 + F) → Calls Tryz.prog 17 #[.string (s.extract (j + 1) s.size)] wr (SgPost wr esg (FP.dnum 0 (nexp2 s x) N))) := ⟨by
        intro j hN1 hj
        have hst : (if false = true then 1 else 0 : Nat) = 0 := rfl
        have hzz := HZ.out
        have hss := HS.out.2.2
        rcases HH.out.back with ⟨h1, _⟩ | ⟨_, q, hq, hlet, hsgn, hfin, hek⟩
        · omega
        · rw [hst] at hq
          have hqj : q = 0 + j := by omega
          subst hqj
          have hek2 : ∀ k < N, 48 ≤ nexp2 s x k ∧ nexp2 s x k ≤ 57 := by
            intro k hk
            have := hek k hk
            unfold nexp2
            omega
          have hjz : j + 1 < s.size := by rcases hsgn with ⟨hx, _⟩ | ⟨hx, _⟩ | ⟨hx, _⟩ <;> omega
          have hbtx : ∀ k < N, ∀ i : Nat, x = ((0 + j : Nat) : Int) + 1 + i → bt (s.extract (j + 1) s.size) ((i + k : Nat) : Int) = ((nexp2 s x k : Nat) : Int) := by
            intro k hk i hi'
            rw [bt_ext (by omega) (Nat.le_refl _), HD.out _ (by omega)]
            have := hek k hk
            unfold nexp2
            rw [show ((0 + (j + 1 + (i + k)) : Nat) : Int) = x + k by omega]
            omega
          have hb1 : bt (s.extract (j + 1) s.size) ((0 : Nat) : Int) = bt s (((0 + j : Nat) : Int) + 1) := by
            rw [bt_ext (by omega) (Nat.le_refl _), HD.out _ (by omega)]
            congr 1
          rcases hsgn with ⟨hx, rfl⟩ | ⟨hx, hc, rfl⟩ | ⟨hx, hc, rfl⟩
          · exact signed_none _ N (nexp2 s x) hN1 (by omega) (by rw [ext_size (by omega) (Nat.le_refl _)]; omega) (fun k hk => by have := hbtx k hk 0 (by omega); rwa [Nat.zero_add] at this) hek2 wr
          · exact signed_plus _ N (nexp2 s x) hN1 (by omega) (by rw [ext_size (by omega) (Nat.le_refl _)]; omega) (by rw [hb1]; exact hc) (fun k hk => hbtx k hk 1 (by omega)) hek2 wr
          · exact signed_minus _ N (nexp2 s x) hN1 (by omega) (by rw [ext_size (by omega) (Nat.le_refl _)]; omega) (by rw [hb1]; exact hc) (fun k hk => hbtx k hk 1 (by omega)) hek2 wr⟩
      have HEG : Aside0 (1 ≤ N → esg = 1 ∨ esg = -1) := ⟨by
        intro hN1
        rcases HH.out.back with ⟨h1, _⟩ | ⟨_, q, hq, hlet, hsgn, hfin, hek⟩
        · omega
        · rcases hsgn with ⟨_, h⟩ | ⟨_, _, h⟩ | ⟨_, _, h⟩ <;> omega⟩
      have FIN : Aside0 (∀ (be : ByteArray) (pw : Int) (sm : Bool), be.size = F → (∀ i < F, bt be (i : Int) = bt s ((0 + k + 1 + i : Nat) : Int)) → (N = 0 → pw = 4611686018427387904 ∧ sm = true) →
          (N ≠ 0 → (sm = true → pw = esg * (FP.dnum 0 (nexp2 s x) N : Int) ∧ FP.dnum 0 (nexp2 s x) N ≤ 300) ∧ (sm = false → 300 < FP.dnum 0 (nexp2 s x) N)) →
          R (.returned (.tuple #[.string (s.extract 0 k), .string be, .int .i64 pw, .bool sm])) wr) := ⟨by
        intro be pw sm a1 a2 a3 a4
        rw [HR.out]
        have hzz := HZ.out
        have hss := HS.out
        refine ⟨rfl, _, be, pw, sm, rfl, by rw [ext_size (by omega) (by omega)]; omega, a1, fun i hi => ?_, a2, a3, a4⟩
        rw [bt_ext0 hi (by omega), HD.out i (by omega)]⟩
      have hkd : k ≤ s.size := by have := HS.out; have := HZ.out; omega
      have q0 : ((k : Int) ≤ (s.size : Int)) = True := eq_true (by omega)
      have q0n : (k ≤ s.size) = True := eq_true hkd
      by_cases hF : F = 0
      · subst hF
        have hbk := HBK.out
        rw [if_pos rfl, Nat.add_zero] at hbk
        rcases hbk with ⟨hN, hend⟩ | ⟨hN1, hlt2, hlet⟩
        · have hke : k = s.size := by have := HZ.out; omega
          have t1 : decide ((k : Int) < (s.size : Int)) = false := decide_eq_false (by omega)
          have t1n : decide (k < s.size) = false := decide_eq_false (by omega)
          have t2 : ((k : Int) == (s.size : Int)) = true := by rw [beq_iff_eq]; omega
          have t2n : (k == s.size) = true := by rw [beq_iff_eq]; omega
          have HN := Aside0.mk hN
          clear hlt hkd hend hke hN q0 q0n
          have q0 : ((k : Int) ≤ (s.size : Int)) = True := eq_true (by rw [beq_iff_eq] at t2; omega)
          go_wp2_with fail
          refine bodyPost_ret (v := .tuple #[.string (s.extract 0 k), .string ⟨#[]⟩, .int .i64 4611686018427387904, .bool true]) (by simp [results, Tryz.results9, go_sem]) rfl ?_
          exact FIN.out ⟨#[]⟩ _ true rfl (fun i hi => absurd hi (by omega)) (fun _ => ⟨rfl, rfl⟩) (fun h => absurd HN.out h)
        · have hkl : k < s.size := by have := HZ.out; omega
          obtain ⟨c, hc⟩ : ∃ c : Nat, (c : Int) = bt s (k : Int) := ⟨(bt s (k : Int)).toNat, by have := bt_range s (k : Int); omega⟩
          have hx5 : ∀ h : k < s.size, ((s[k]'h).toNat : Int) = (c : Int) := fun h => (bt_at s (k : Int) h).trans hc.symm
          rw [show ((0 + k : Nat) : Int) = ((0 + k : Nat) : Int) from rfl, ← HD.out k (by omega), ← hc] at hlet
          have hce : c = 69 ∨ c = 101 := by omega
          have t2 : ((k : Int) == (s.size : Int)) = false := by rw [beq_eq_false_iff_ne]; omega
          have t2n : (k == s.size) = false := by rw [beq_eq_false_iff_ne]; omega
          have q1 : ((k : Int) + 1 ≤ (s.size : Int)) = True := eq_true (by omega)
          have q1n : (k + 1 ≤ s.size) = True := eq_true (by omega)
          have HN1 := Aside0.mk hN1
          clear hlt hc hlet hN1 hlt2
          rcases hce with rfl | rfl
          all_goals
            go_wp2_with fail
            refine (CSG.out k HN1.out (by simp)).mono ?_
            rintro e w5 ⟨rfl, n, ok, rfl, hok⟩
            cases ok with
            | false =>
              have HE := Aside0.mk (hok.2 rfl)
              clear hok
              go_wp2_with fail
              refine bodyPost_ret (v := .tuple #[.string (s.extract 0 k), .string ⟨#[]⟩, .int .i64 n, .bool false]) (by simp [results, Tryz.results9, go_sem]) rfl ?_
              exact FIN.out ⟨#[]⟩ _ false rfl (fun i hi => absurd hi (by omega)) (fun h => absurd h (by have := HN1.out; omega)) (fun _ => ⟨fun h => absurd h (by decide), fun _ => Nat.lt_of_lt_of_le (by decide) HE.out⟩)
            | true =>
              obtain ⟨hE, hE15⟩ := hok.1 rfl
              have heg := HEG.out HN1.out
              have HEE := Aside0.mk hE
              by_cases h300 : FP.dnum 0 (nexp2 s x) N ≤ 300
              · have d1 : decide (-300 ≤ n) = true := decide_eq_true (by rcases heg with e | e <;> rw [e] at hE <;> omega)
                have d2 : decide (n ≤ 300) = true := decide_eq_true (by rcases heg with e | e <;> rw [e] at hE <;> omega)
                have H3 := Aside0.mk h300
                clear hok hE hE15 heg h300
                go_wp2_with fail
                refine bodyPost_ret (v := .tuple #[.string (s.extract 0 k), .string ⟨#[]⟩, .int .i64 n, .bool true]) (by simp [results, Tryz.results9, go_sem]) rfl ?_
                exact FIN.out ⟨#[]⟩ _ true rfl (fun i hi => absurd hi (by omega)) (fun h => absurd h (by have := HN1.out; omega)) (fun _ => ⟨fun _ => ⟨HEE.out, H3.out⟩, fun h => absurd h (by decide)⟩)
              · have H3 := Aside0.mk (show 300 < FP.dnum 0 (nexp2 s x) N by omega)
                rcases heg with e | e
                · have d1 : decide (-300 ≤ n) = true := decide_eq_true (by rw [e] at hE; omega)
                  have d2 : decide (n ≤ 300) = false := decide_eq_false (by rw [e] at hE; omega)
                  clear hok hE hE15 h300 e
                  go_wp2_with fail
                  refine bodyPost_ret (v := .tuple #[.string (s.extract 0 k), .string ⟨#[]⟩, .int .i64 n, .bool false]) (by simp [results, Tryz.results9, go_sem]) rfl ?_
                  exact FIN.out ⟨#[]⟩ _ false rfl (fun i hi => absurd hi (by omega)) (fun h => absurd h (by have := HN1.out; omega)) (fun _ => ⟨fun h => absurd h (by decide), fun _ => H3.out⟩)
                · have d1 : decide (-300 ≤ n) = false := decide_eq_false (by rw [e] at hE; omega)
                  clear hok hE hE15 h300 e
                  go_wp2_with fail
                  refine bodyPost_ret (v := .tuple #[.string (s.extract 0 k), .string ⟨#[]⟩, .int .i64 n, .bool false]) (by simp [results, Tryz.results9, go_sem]) rfl ?_
                  exact FIN.out ⟨#[]⟩ _ false rfl (fun i hi => absurd hi (by omega)) (fun h => absurd h (by have := HN1.out; omega)) (fun _ => ⟨fun h => absurd h (by decide), fun _ => H3.out⟩)
      · obtain ⟨f1, f2, f3⟩ := HH.out.frac hF
        have hst : (if false = true then 1 else 0 : Nat) = 0 := rfl
        rw [hst] at f1 f2 f3
        have hkl : k < s.size := by have := HZ.out; omega
        have b46 : bt s (k : Int) = 46 := by rw [HD.out k (by omega)]; exact f1
        have hx5 : ∀ h : k < s.size, ((s[k]'h).toNat : Int) = 46 := fun h => (bt_at s (k : Int) h).trans b46
        have HF := Aside0.mk (And.intro hF (And.intro f2 f3))
        clear hlt b46 f1 f2 f3 hst
        go_wp2_with fail
        go_loopg [9] F (fun q v9 w' => ∃ i : Nat, v9 = .int .i64 (i : Int) ∧ Aside0 (∃ m, i = k + 1 + m ∧ q = F - m ∧ m ≤ F) ∧ Aside0 (w' = wr))
        case atStart => exact ⟨k + 1, by first | rfl | go_num, ⟨⟨0, rfl, rfl, Nat.zero_le _⟩⟩, ⟨rfl⟩⟩
        case round =>
          obtain ⟨i, rfl, hii, hw2⟩ := hrel
          have e := hw2.out
          subst e
          obtain ⟨m, hm1, hm2, hm3⟩ := hii.out
          have hi8 : i ≤ s.size := by have := HF.out.2.1; have := HZ.out; omega
          by_cases hmF : m < F
          · have hil : i < s.size := by have := HF.out.2.1; have := HZ.out; omega
            have hdg : 48 ≤ bt s (i : Int) ∧ bt s (i : Int) ≤ 57 := by
              rw [HD.out i (by have := HZ.out; omega)]
              have := HF.out.2.2 m hmF
              rwa [show 0 + k + 1 + m = 0 + i by omega] at this
            obtain ⟨c, hc⟩ : ∃ c : Nat, (c : Int) = bt s (i : Int) := ⟨(bt s (i : Int)).toNat, by omega⟩
            have hx6 : ∀ h : i < s.size, ((s[i]'h).toNat : Int) = (c : Int) := fun h => (bt_at s (i : Int) h).trans hc.symm
            rw [← hc] at hdg
            obtain ⟨hd0, hd1⟩ := hdg
            have HL := Aside0.mk (And.intro hm1 (And.intro hm2 hmF))
            clear hc hmF hm1 hm2 hm3 hii
            go_wp2_with fail
            go_roundg (F - (m + 1))
            case measure => have := HL.out; omega
            case rel => exact ⟨i + 1, by go_num, ⟨⟨m + 1, by have := HL.out; omega, rfl, by have := HL.out; omega⟩⟩, ⟨rfl⟩⟩
          · have hiF : i = k + 1 + F := by omega
            have HJ : Aside0 (i = k + (if F = 0 then 0 else 1 + F)) := ⟨by rw [if_neg HF.out.1]; omega⟩
            have hbe1 : (s.extract (k + 1) i).size = F := by rw [ext_size (by omega) hi8]; omega
            have hbe2 : ∀ j < F, bt (s.extract (k + 1) i) (j : Int) = bt s ((0 + k + 1 + j : Nat) : Int) := by
              intro j hj
              rw [bt_ext (by omega) hi8, HD.out _ (by have := HZ.out; omega)]
              congr 2
              omega
            have HBE := Aside0.mk (And.intro hbe1 hbe2)
            have r1 : ((k : Int) + 1 ≤ (i : Int)) = True := eq_true (by omega)
            have r1n : (k + 1 ≤ i) = True := eq_true (by omega)
            have r2 : ((i : Int) ≤ (s.size : Int)) = True := eq_true (by omega)
            have r2n : (i ≤ s.size) = True := eq_true hi8
            have hbk := HBK.out
            rw [if_neg HF.out.1, show 0 + k + (1 + F) = 0 + i by omega] at hbk
            rcases hbk with ⟨hN, hend⟩ | ⟨hN1, hlt2, hlet⟩
            · have t1 : decide ((i : Int) < (s.size : Int)) = false := decide_eq_false (by have := HZ.out; omega)
              have t1n : decide (i < s.size) = false := decide_eq_false (by have := HZ.out; omega)
              have t2 : ((i : Int) == (s.size : Int)) = true := by rw [beq_iff_eq]; have := HZ.out; omega
              have t2n : (i == s.size) = true := by rw [beq_iff_eq]; have := HZ.out; omega
              have HN := Aside0.mk hN
              clear hmF hm1 hm2 hm3 hii hiF hbe1 hbe2 hend hN hi8
              go_wp2_with fail
              refine bodyPost_ret (v := .tuple #[.string (s.extract 0 k), .string (s.extract (k + 1) i), .int .i64 4611686018427387904, .bool true]) (by simp [results, Tryz.results9, go_sem]) rfl ?_
              exact FIN.out _ _ true HBE.out.1 HBE.out.2 (fun _ => ⟨rfl, rfl⟩) (fun h => absurd HN.out h)
            · have hil : i < s.size := by have := HZ.out; omega
              obtain ⟨c, hc⟩ : ∃ c : Nat, (c : Int) = bt s (i : Int) := ⟨(bt s (i : Int)).toNat, by have := bt_range s (i : Int); omega⟩
              have hx6 : ∀ h : i < s.size, ((s[i]'h).toNat : Int) = (c : Int) := fun h => (bt_at s (i : Int) h).trans hc.symm
              rw [← HD.out i (by omega), ← hc] at hlet
              have hce : c = 69 ∨ c = 101 := by omega
              have t2 : ((i : Int) == (s.size : Int)) = false := by rw [beq_eq_false_iff_ne]; omega
              have t2n : (i == s.size) = false := by rw [beq_eq_false_iff_ne]; omega
              have q1 : ((i : Int) + 1 ≤ (s.size : Int)) = True := eq_true (by omega)
              have q1n : (i + 1 ≤ s.size) = True := eq_true (by omega)
              have HN1 := Aside0.mk hN1
              clear hmF hm1 hm2 hm3 hii hiF hbe1 hbe2 hN1 hlt2 hc hlet hi8
              rcases hce with rfl | rfl
              all_goals
                go_wp2_with fail
                refine (CSG.out i HN1.out HJ.out).mono ?_
                rintro e w5 ⟨rfl, n, ok, rfl, hok⟩
                cases ok with
                | false =>
                  have HE := Aside0.mk (hok.2 rfl)
                  clear hok
                  go_wp2_with fail
                  refine bodyPost_ret (v := .tuple #[.string (s.extract 0 k), .string (s.extract (k + 1) i), .int .i64 n, .bool false]) (by simp [results, Tryz.results9, go_sem]) rfl ?_
                  exact FIN.out _ _ false HBE.out.1 HBE.out.2 (fun h => absurd h (by have := HN1.out; omega)) (fun _ => ⟨fun h => absurd h (by decide), fun _ => Nat.lt_of_lt_of_le (by decide) HE.out⟩)
                | true =>
                  obtain ⟨hE, hE15⟩ := hok.1 rfl
                  have heg := HEG.out HN1.out
                  have HEE := Aside0.mk hE
                  by_cases h300 : FP.dnum 0 (nexp2 s x) N ≤ 300
                  · have d1 : decide (-300 ≤ n) = true := decide_eq_true (by rcases heg with e | e <;> rw [e] at hE <;> omega)
                    have d2 : decide (n ≤ 300) = true := decide_eq_true (by rcases heg with e | e <;> rw [e] at hE <;> omega)
                    have H3 := Aside0.mk h300
                    clear hok hE hE15 heg h300
                    go_wp2_with fail
                    refine bodyPost_ret (v := .tuple #[.string (s.extract 0 k), .string (s.extract (k + 1) i), .int .i64 n, .bool true]) (by simp [results, Tryz.results9, go_sem]) rfl ?_
                    exact FIN.out _ _ true HBE.out.1 HBE.out.2 (fun h => absurd h (by have := HN1.out; omega)) (fun _ => ⟨fun _ => ⟨HEE.out, H3.out⟩, fun h => absurd h (by decide)⟩)
                  · have H3 := Aside0.mk (show 300 < FP.dnum 0 (nexp2 s x) N by omega)
                    rcases heg with e | e
                    · have d1 : decide (-300 ≤ n) = true := decide_eq_true (by rw [e] at hE; omega)
                      have d2 : decide (n ≤ 300) = false := decide_eq_false (by rw [e] at hE; omega)
                      clear hok hE hE15 h300 e
                      go_wp2_with fail
                      refine bodyPost_ret (v := .tuple #[.string (s.extract 0 k), .string (s.extract (k + 1) i), .int .i64 n, .bool false]) (by simp [results, Tryz.results9, go_sem]) rfl ?_
                      exact FIN.out _ _ false HBE.out.1 HBE.out.2 (fun h => absurd h (by have := HN1.out; omega)) (fun _ => ⟨fun h => absurd h (by decide), fun _ => H3.out⟩)
                    · have d1 : decide (-300 ≤ n) = false := decide_eq_false (by rw [e] at hE; omega)
                      clear hok hE hE15 h300 e
                      go_wp2_with fail
                      refine bodyPost_ret (v := .tuple #[.string (s.extract 0 k), .string (s.extract (k + 1) i), .int .i64 n, .bool false]) (by simp [results, Tryz.results9, go_sem]) rfl ?_
                      exact FIN.out _ _ false HBE.out.1 HBE.out.2 (fun h => absurd h (by have := HN1.out; omega)) (fun _ => ⟨fun h => absurd h (by decide), fun _ => H3.out⟩)


end Go.Proofs.YtodbjojglibniaaGreatDoor
