/- Walks of functions of FnJpGetFloat (H1, H2, H3, H4); conditions stand ahead of each theorem. -/
import Derived.Test.YtbimfhaokgigkaaGreatDoorTA1
import Derived.Test.YtbimfhaokgigkaaGreatDoorT03
import Derived.Test.YtbimfhaokgigkaaGreatDoorT10
import Derived.LoopN
set_option maxRecDepth 100000
set_option maxHeartbeats 2000000
namespace Go.Proofs.YtbimfhaokgigkaaGreatDoor
open Go.RowKit Go.Proofs.YtbimfhaokgigkaaGreatDoorW.PrintWords Go.Proofs.YtbimfhaokgigkaaGreatDoorW.PrintLast
def Rd (w : World) (v : Value) (l : List Nat) : Prop :=
 ∃ A c, v = .slice A l.length c ∧ l.length ≤ c ∧ (0 < l.length → ∃ g, A = some ⟨g, 0, none⟩ ∧ g < w.heap.size ∧ ∀ j < l.length, w.cell? ⟨g, j, none⟩ = some (.int .u32 ((l.getD j 0 : Nat) : Int)))
theorem Rd.below {w w' : World} {v : Value} {l : List Nat} (h : Rd w v l) (hb : Below w.heap.size w w') : Rd w' v l := by
 obtain ⟨A, c, e, hc, h⟩ := h
 refine ⟨A, c, e, hc, fun h0 => ?_⟩
 obtain ⟨g, h1, h2, h3⟩ := h h0
 have := hb.size
 exact ⟨g, h1, by omega, fun j hj => (hb.cell (p := ⟨g, j, none⟩) h2).trans (h3 j hj)⟩
def u32s (l : List Nat) : List Value := l.map fun d => .int .u32 ((d : Nat) : Int)
theorem u32s_len (l : List Nat) : (u32s l).length = l.length := by unfold u32s; rw [List.length_map]
theorem u32s_get {l : List Nat} {j : Nat} (h : j < l.length) : (u32s l)[j]? = some (.int .u32 ((l.getD j 0 : Nat) : Int)) := by
 unfold u32s
 rw [List.getElem?_map, List.getElem?_eq_getElem h, FP.getD_in h]; rfl
theorem Rd.of_owns {w : World} {base : Nat} {v : Value} {l : List Nat} (h : w.ownsRow base 106 1 v l.length (u32s l)) : Rd w v l := by
 rcases h.2 with ⟨e, hn⟩ | ⟨g, cap, cur, e, hb, hg, hc, _, _, _⟩
 ·exact ⟨none, 0, by rw [e, hn], by omega, fun h0 => by omega⟩
 ·subst e
  refine ⟨some ⟨g, 0, none⟩, cap, rfl, hc, fun h0 => ⟨g, rfl, ?_, fun j hj => ?_⟩⟩
  ·exact ((h.lt) g rfl).2
  ·rw [h.cellAt j (by omega), u32s_get hj]
def NatPost (w : World) (l : List Nat) (e : Ending) (w' : World) : Prop := ∃ v, e = .returned v ∧ Rd w' v l ∧ Below w.heap.size w w'
theorem info_u32 : (Tryz.prog.info? 106).map (fun i => (i.zero, i.size, i.bytes)) = some (some (.int .u32 0), 1, 4) := by kernel_rfl
theorem one_cell_u32 (x : Int) : ∀ u ∈ [Value.int .u32 x], u.oneCell' = true := by
 intro u hu
 rw [List.mem_singleton] at hu
 rw [hu]; rfl
theorem u32s_snoc (l : List Nat) (d : Nat) {x : Int} (h : x = ((d : Nat) : Int)) : u32s l ++ [.int .u32 x] = u32s (l ++ [d]) := by
 unfold u32s
 rw [List.map_append, h]; rfl
theorem below_of_grown {w w' : World} (h : w.grownBy w' none) : Below w.heap.size w w' := ⟨h.os, h.tape, h.output, h.size, fun k hk => h.block k hk (by simp)⟩
theorem below_own {w0 wr w2 : World} {e : TypeId} {size n : Nat} {v : Value} {xs : List Value} {o : Obj} (h0 : w0.heap.size ≤ wr.heap.size) (h : wr.ownsRow w0.heap.size e size v n xs) (hg : (wr.alloc o).grownBy w2 v.ownBlock) : Below w0.heap.size wr w2 := by
 refine ⟨hg.os, hg.tape, hg.output, Nat.le_trans (by simp) hg.size, fun k hk => ?_⟩
 rw [hg.block k (by simp; omega) (fun e' => by have := (h.lt k e'.symm).1; omega)]
 exact heap_alloc_old wr o (by omega)
theorem times_calls (l : List Nat) (m a : Nat) (hl : ∀ d ∈ l, d < 2 ^ 32) (hm : m < 2 ^ 32) (ha : a < 2 ^ 32) (hlen : l.length ≤ 4000) (v : Value) (w : World) (hv : Rd w v l) :
  Calls Tryz.prog 63 #[v, .int .u32 (m : Int), .int .u32 (a : Int)] w (NatPost w (FP.mulAdd l m a)) := by
 obtain ⟨A, c, rfl, hc, hA⟩ := hv
 refine byR fun R hR => ?_
 have HR := az hR
 obtain ⟨i0, hi, hz0, hz1, hz2⟩ := info_parts info_u32
 obtain ⟨n, hn⟩ : ∃ n, n = l.length := ⟨_, rfl⟩
 rw [← hn] at hlen hc hA ⊢
 have HN := az hn
 have HA := az hA
 have HL := az hl
 have hsum := FP.tcar_sum hl hm ha
 have hcar := FP.tcar_lt hl hm ha
 have HS := az hsum
 have HC := az hcar
 have hm' : (m : Int) < 4294967296 := by omega
 have ha' : (a : Int) < 4294967296 := by omega
 have HM := az hm
 clear hR hn hl hA hsum hcar hm ha
 go_enter Tryz.func63, Tryz.ntmps63
 go_wp2_with (at_make; refine wpList_make_own _ rfl _ _ 97 rfl w.heap.size 106 i0 (.int .u32 0) 1 Tryz.underlying97 hi hz0 hz1 .i64 .i64 _ (n + 1) rfl rfl (by first | rfl | omega | simp) (by rw [hz2]; omega) (by unfold maxLen; omega) (Nat.le_refl _) ?_; intro w1 hown1 hgrow1)
 go_loopg [7, 8, 9] n (fun q v7 v8 v9 w' => ∃ k : Nat, Aside0 (k ≤ n ∧ q = n - k) ∧ v9 = .int .i64 (k : Int) ∧ v8 = .int .u64 ((FP.tcar l m a k : Nat) : Int) ∧ Aside0 (w'.ownsRow w.heap.size 106 1 v7 k (u32s (FP.tout l m a k))) ∧ Aside0 (Below w.heap.size w w'))
 case atStart => exact ⟨0, ⟨⟨Nat.zero_le _, by omega⟩⟩, rfl, rfl, ⟨hown1⟩, ⟨below_of_grown hgrow1⟩⟩
 case round =>
  obtain ⟨k, hk, rfl, rfl, hown, hbel⟩ := hrel
  have hkn := hk.out.1
  by_cases hlt : k < n
  ·have h0 : 0 < n := Nat.lt_of_le_of_lt (Nat.zero_le k) hlt
   obtain ⟨g, hAg, hg, hcell⟩ := HA.out h0
   subst hAg
   have hc1 := (hbel.out.cell (p := ⟨g, k, none⟩) hg).trans (hcell k hlt)
   have hd := FP.getD_lt HL.out k
   have hs := HS.out k
   have hcc := HC.out k
   clear hcell hown1 hgrow1 hc hm' ha' h0
   obtain ⟨d, hdd⟩ : ∃ d, d = l.getD k 0 := ⟨_, rfl⟩
   obtain ⟨C, hC⟩ : ∃ C, C = FP.tcar l m a k := ⟨_, rfl⟩
   rw [← hdd] at hc1 hd hs
   rw [← hC] at hs hcc
   rw [← hC]
   obtain ⟨S, hS⟩ : ∃ S, S = C + d * m := ⟨_, rfl⟩
   have hm2 := HM.out
   have hu : IntKind.u64.wrap ((C : Int) + IntKind.u64.wrap (IntKind.u64.wrap (d : Int) * IntKind.u64.wrap (m : Int))) = (S : Int) := by
    rw [wrapU_lt (show d < 2 ^ 64 by omega), wrapU_lt (show m < 2 ^ 64 by omega), ← Int.natCast_mul, wrapU_lt (by omega), ← Int.natCast_add, wrapU_lt (by omega), hS]
   have HD := az hdd
   have HCC := az hC
   have HSS := az hS
   clear hdd hC hS hs hm2 hcc hd
   go_wp2_with (at_builtin; refine wpList_append_own_at _ rfl _ _ 97 rfl w.heap.size 106 i0 (.int .u32 0) 1 4 Tryz.underlying97 hi hz0 hz1 hz2 rfl (by decide) _ k _ rfl (hown.out.alloc _) ⟨wr.heap.size, 0, none⟩ 1 1 [_] rfl rfl (cell_one_new _ _ _) (one_cell_u32 _) (by unfold maxLen; omega) (by omega) (by have := hbel.out.size; simp; omega) ?_; intro v1 w2 hown2 hgrow2 hnil2 hat2; clear hnil2 hat2)
   go_roundg (n - (k + 1))
   case measure => have := hk.out.2; omega
   case rel =>
    refine ⟨k + 1, ⟨⟨by omega, rfl⟩⟩, by go_num, ?_, ⟨?_⟩, ⟨?_⟩⟩
    ·have e := HSS.out
     rw [HCC.out, HD.out] at e
     rw [FP.tcar, ← e]
     rfl
    ·have e := HSS.out
     rw [HCC.out, HD.out] at e
     rw [FP.tout, ← e, ← u32s_snoc _ _ (show (S : Int) % 4294967296 = ((S % 2 ^ 32 : Nat) : Int) by omega)]
     exact hown2
    ·exact hbel.out.trans (below_own hbel.out.size hown.out hgrow2)
  ·have hkn : k = n := by omega
   subst hkn
   clear hown1 hgrow1 hm' ha' hc
   have fin : ∀ v' w', w'.ownsRow w.heap.size 106 1 v' (FP.mulAdd l m a).length (u32s (FP.mulAdd l m a)) → Below w.heap.size w w' → R (.returned v') w' := by
    intro v' w' h1 h2
    rw [HR.out]
    exact ⟨v', rfl, Rd.of_owns h1, h2⟩
   have HF := az fin
   clear fin
   by_cases hz : FP.tcar l m a k = 0
   ·have z1 : decide (0 < FP.tcar l m a k) = false := dF
    have z1i : decide ((0 : Int) < (FP.tcar l m a k : Int)) = false := dF
    have he : FP.mulAdd l m a = FP.tout l m a k := by unfold FP.mulAdd; rw [← HN.out, if_pos hz, List.append_nil]
    have HE := az he
    clear he hz
    go_wp2_with fail
    refine HF.out _ _ ?_ hbel.out
    rw [HE.out, FP.tout_len]
    exact hown.out
   ·have z1 : decide (0 < FP.tcar l m a k) = true := dT
    have z1i : decide ((0 : Int) < (FP.tcar l m a k : Int)) = true := dT
    have hcc := HC.out k
    have hcm : ((FP.tcar l m a k : Nat) : Int) % 4294967296 = ((FP.tcar l m a k : Nat) : Int) := by omega
    have he : FP.mulAdd l m a = FP.tout l m a k ++ [FP.tcar l m a k] := by unfold FP.mulAdd; rw [← HN.out, if_neg hz]
    have HE := az he
    clear he hz hcc
    go_wp2_with (at_builtin; refine wpList_append_own_at _ rfl _ _ 97 rfl w.heap.size 106 i0 (.int .u32 0) 1 4 Tryz.underlying97 hi hz0 hz1 hz2 rfl (by decide) _ k _ rfl (hown.out.alloc _) ⟨wr.heap.size, 0, none⟩ 1 1 [_] rfl rfl (cell_one_new _ _ _) (one_cell_u32 _) (by unfold maxLen; omega) (by omega) (by have := hbel.out.size; simp; omega) ?_; intro v1 w2 hown2 hgrow2 hnil2 hat2; clear hnil2 hat2)
    refine HF.out _ _ ?_ ?_
    ·rw [HE.out, List.length_append, FP.tout_len, ← u32s_snoc _ _ rfl]
     exact hown2
    ·exact hbel.out.trans (below_own hbel.out.size hown.out hgrow2)
def NumRd (w : World) (v : Value) (N B : Nat) : Prop := ∃ l, Rd w v l ∧ FP.Nrm l ∧ FP.n32 l = N ∧ l.length ≤ B
theorem NumRd.below {w w' : World} {v : Value} {N B : Nat} (h : NumRd w v N B) (hb : Below w.heap.size w w') : NumRd w' v N B := by
 obtain ⟨l, h1, h2⟩ := h
 exact ⟨l, h1.below hb, h2⟩
theorem NumRd.mono {w : World} {v : Value} {N B B' : Nat} (h : NumRd w v N B) (hb : B ≤ B') : NumRd w v N B' := by
 obtain ⟨l, h1, h2, h3, h4⟩ := h
 exact ⟨l, h1, h2, h3, by omega⟩
theorem NumRd.nil (w : World) (B : Nat) : NumRd w (.slice none 0 0) 0 B := ⟨[], ⟨none, 0, rfl, Nat.le_refl _, fun h => absurd h (by decide)⟩, FP.nrm_nil, rfl, Nat.zero_le _⟩
def NPost (w : World) (N B : Nat) (e : Ending) (w' : World) : Prop := ∃ v, e = .returned v ∧ NumRd w' v N B ∧ Below w.heap.size w w'
theorem times_num {w : World} {v : Value} {N B : Nat} (h : NumRd w v N B) (m a : Nat) (hm : m < 2 ^ 32) (hm1 : 1 ≤ m) (ha : a < 2 ^ 32) (hB : B ≤ 4000) {mi ai : Int} (hmi : mi = (m : Int)) (hai : ai = (a : Int)) :
  Calls Tryz.prog 63 #[v, .int .u32 mi, .int .u32 ai] w (NPost w (N * m + a) (B + 1)) := by
 subst hmi hai
 obtain ⟨l, h1, h2, h3, h4⟩ := h
 refine (times_calls l m a h2.1 hm ha (by omega) v w h1).mono ?_
 rintro e w' ⟨v', he, hr, hb⟩
 refine ⟨v', he, ⟨_, hr, FP.mulAdd_nrm h2 hm hm1 ha, by rw [FP.mulAdd_val, h3], ?_⟩, hb⟩
 have := FP.mulAdd_len l m a
 omega
theorem tens_calls {w : World} {v : Value} {N B n : Nat} (h : NumRd w v N B) (hn : n ≤ 2000) (hB : B ≤ 2000) :
  Calls Tryz.prog 56 #[v, .int .i64 (n : Int)] w (NPost w (N * 10 ^ n) (B + n)) := by
 refine byR fun R hR => ?_
 have HR := az hR
 have HH := az h
 have HN := az2 hn hB
 clear hR h hn hB
 go_enter Tryz.func56, Tryz.ntmps56
 go_wp2_with fail
 go_loopg [0, 1] n (fun q v0 v1 w' => ∃ (r N' B' : Nat), v1 = .int .i64 (r : Int) ∧ Aside0 (q = r ∧ r ≤ 2000 ∧ N' * 10 ^ r = N * 10 ^ n ∧ B' + r ≤ B + n) ∧ Aside0 (NumRd w' v0 N' B') ∧ Aside0 (Below w.heap.size w w'))
 case atStart => exact ⟨n, N, B, rfl, ⟨⟨rfl, HN.out.1, rfl, Nat.le_refl _⟩⟩, ⟨HH.out⟩, ⟨Below.refl _ _⟩⟩
 case round =>
  obtain ⟨r, N', B', rfl, hk, hrd, hbel⟩ := hrel
  have hr := hk.out.2.1
  by_cases hlt : 9 ≤ r
  ·have t1 : decide ((9 : Int) ≤ (r : Int)) = true := dT
   have t1n : decide (9 ≤ r) = true := decide_eq_true hlt
   obtain ⟨r2, hr2⟩ : ∃ r2, r = r2 + 9 := ⟨r - 9, by omega⟩
   have e1 : (r : Int) - 9 = (r2 : Int) := by omega
   have qb : B' + 1 + r2 ≤ B + n := by have := hk.out.2.2.2; omega
   have qr : r2 ≤ 2000 := by omega
   have qq : gk = r2 + 9 := by have := hk.out.1; omega
   have qn : (N' * 1000000000 + 0) * 10 ^ r2 = N * 10 ^ n := by
    rw [Nat.add_zero, ← hk.out.2.2.1, hr2, Nat.pow_add, Nat.mul_assoc, Nat.mul_comm (10 ^ r2)]
   have QQ := az4 qb qr qq qn
   clear qb qr qq qn
   go_wp2_with (go_at_call 63; refine (times_num hrd.out 1000000000 0 (by omega) (by omega) (by omega) (by have := hk.out; have := HN.out; omega) (by omega) (by omega)).mono ?_; rintro e w2 ⟨v2, rfl, hrd2, hbel2⟩)
   go_roundg r2
   case measure => have := QQ.out.2.2.1; omega
   case rel => exact ⟨r2, N' * 1000000000 + 0, B' + 1, by first | rfl | (rw [e1]), ⟨⟨rfl, QQ.out.2.1, QQ.out.2.2.2, QQ.out.1⟩⟩, ⟨hrd2⟩, ⟨hbel.out.trans (hbel2.mono hbel.out.size)⟩⟩
  ·have t1 : decide ((9 : Int) ≤ (r : Int)) = false := dF
   have t1n : decide (9 ≤ r) = false := decide_eq_false hlt
   go_wp2_with fail
   go_loopg [0, 1] r (fun q v0 v1 w' => ∃ (r' N2 B2 : Nat), v1 = .int .i64 (r' : Int) ∧ Aside0 (q = r' ∧ r' ≤ 2000 ∧ N2 * 10 ^ r' = N * 10 ^ n ∧ B2 + r' ≤ B + n) ∧ Aside0 (NumRd w' v0 N2 B2) ∧ Aside0 (Below w.heap.size w w'))
   case atStart => exact ⟨r, N', B', rfl, ⟨⟨rfl, hr, hk.out.2.2.1, hk.out.2.2.2⟩⟩, hrd, hbel⟩
   case round =>
    clear hk hrd hbel hr hlt t1 t1n
    obtain ⟨r', N2, B2, rfl, hk2, hrd2, hbel2⟩ := hrel
    have hr := hk2.out.2.1
    by_cases hlt : 0 < r'
    ·have t1 : decide ((0 : Int) < (r' : Int)) = true := dT
     have t1n : decide (0 < r') = true := decide_eq_true hlt
     obtain ⟨r2, hr2⟩ : ∃ r2, r' = r2 + 1 := ⟨r' - 1, by omega⟩
     have e1 : (r' : Int) - 1 = (r2 : Int) := by omega
     have qb : B2 + 1 + r2 ≤ B + n := by have := hk2.out.2.2.2; omega
     have qr : r2 ≤ 2000 := by omega
     have qq : gk = r2 + 1 := by have := hk2.out.1; omega
     have qn : (N2 * 10 + 0) * 10 ^ r2 = N * 10 ^ n := by
      rw [Nat.add_zero, ← hk2.out.2.2.1, hr2, Nat.pow_succ, Nat.mul_assoc, Nat.mul_comm (10 ^ r2)]
     have QQ := az4 qb qr qq qn
     clear qb qr qq qn
     go_wp2_with (go_at_call 63; refine (times_num hrd2.out 10 0 (by decide) (by decide) (by decide) (by have := hk2.out; have := HN.out; omega) (by omega) (by omega)).mono ?_; rintro e w2 ⟨v2, rfl, hrd3, hbel3⟩)
     go_roundg r2
     case measure => have := QQ.out.2.2.1; omega
     case rel => exact ⟨r2, N2 * 10 + 0, B2 + 1, by first | rfl | (rw [e1]), ⟨⟨rfl, QQ.out.2.1, QQ.out.2.2.2, QQ.out.1⟩⟩, ⟨hrd3⟩, ⟨hbel2.out.trans (hbel3.mono hbel2.out.size)⟩⟩
    ·have t1 : decide ((0 : Int) < (r' : Int)) = false := dF
     have t1n : decide (0 < r') = false := decide_eq_false hlt
     go_wp2_with fail
     rw [HR.out]
     have h3 := hk2.out
     have e0 : r' = 0 := by omega
     subst e0
     rw [Nat.pow_zero, Nat.mul_one] at h3
     refine ⟨_, rfl, ?_, hbel2.out⟩
     rw [← h3.2.2.1]
     exact hrd2.out.mono (by omega)
theorem ofDigits_calls (s : ByteArray) (g : Nat → Nat) (hs : s.size ≤ 2000) (hb : ∀ k < s.size, bt s (k : Int) = (g k : Int)) (hk : ∀ k < s.size, 48 ≤ g k ∧ g k ≤ 57) (w : World) :
  Calls Tryz.prog 54 #[.string s] w (NPost w (FP.dnum 0 g s.size) s.size) := by
 refine byR fun R hR => ?_
 have HR := az hR
 have HB := az hb
 have HK := az hk
 clear hR hb hk
 go_enter Tryz.func54, Tryz.ntmps54
 go_wp2_with fail
 go_loopg [3, 4] s.size (fun q v3 v4 w' => ∃ k : Nat, v4 = .int .i64 (k : Int) ∧ Aside0 (k ≤ s.size ∧ q = s.size - k) ∧ Aside0 (NumRd w' v3 (FP.dnum 0 g k) k) ∧ Aside0 (Below w.heap.size w w'))
 case atStart => exact ⟨0, rfl, ⟨⟨Nat.zero_le _, rfl⟩⟩, ⟨NumRd.nil _ _⟩, ⟨Below.refl _ _⟩⟩
 case round =>
  obtain ⟨k, rfl, hkk, hrd, hbel⟩ := hrel
  have hk0 := hkk.out.1
  by_cases hlt : k < s.size
  ·have hbk := HB.out k hlt
   have hkd := HK.out k hlt
   have p5 : (0 ≤ (k : Int)) = True := eT
   have q5 : ((k : Int) < (s.size : Int)) = True := eT
   have hx5 : ∀ h : k < s.size, ((s[k]'h).toNat : Int) = (g k : Int) := fun h => (bt_at s (k : Int) h).trans hbk
   have t5 : ((g k : Int) - 48) = ((g k - 48 : Nat) : Int) := by omega
   have q1 : s.size - (k + 1) < gk := by have := hkk.out.2; omega
   have Q := az q1
   clear hbk q1
   go_wp2_with (go_at_call 63; refine (times_num hrd.out 10 (g k - 48) (by omega) (by omega) (by omega) (by omega) (by omega) (by omega)).mono ?_; rintro e w2 ⟨v2, rfl, hrd2, hbel2⟩)
   go_roundg (s.size - (k + 1))
   case measure => exact Q.out
   case rel => exact ⟨k + 1, by go_num, ⟨⟨by omega, rfl⟩⟩, ⟨hrd2⟩, ⟨hbel.out.trans (hbel2.mono hbel.out.size)⟩⟩
  ·have e : k = s.size := by omega
   subst e
   go_wp2_with fail
   rw [HR.out]
   exact ⟨_, rfl, hrd.out, hbel.out⟩
theorem u32s_at {w w3 : World} {g : Nat} {l : List Nat} (hc : ∀ j < l.length, w.cell? ⟨g, j, none⟩ = some (.int .u32 ((l.getD j 0 : Nat) : Int))) (hg : g < w.heap.size) (hgr : w.grownBy w3 none) :
  ∀ j u, (u32s l)[j]? = some u → w3.cell? ((⟨g, 0, none⟩ : Addr).add j) = some u := by
 intro j u hj
 have hjl : j < l.length := by
  by_cases h : j < l.length
  ·exact h
  ·rw [List.getElem?_eq_none (by rw [u32s_len]; omega)] at hj; cases hj
 rw [u32s_get hjl] at hj
 have e : (⟨g, 0, none⟩ : Addr).add j = ⟨g, j, none⟩ := by
  by_cases h0 : j = 0
  ·subst h0; simp [Addr.add]
  ·simp [Addr.add, h0]
 rw [e, hgr.cell_far ⟨g, j, none⟩ hg (by simp), hc j hjl]
 exact hj
theorem u32s_one (l : List Nat) : ∀ u ∈ u32s l, u.oneCell' = true := by
 intro u hu
 unfold u32s at hu
 obtain ⟨d, _, rfl⟩ := List.mem_map.mp hu
 rfl
theorem shift_nil {w : World} {A : Option Addr} {c : Nat} (n : Nat) :
  Calls Tryz.prog 55 #[.slice A 0 c, .int .i64 (n : Int)] w fun e w' => e = .returned (.slice A 0 c) ∧ w' = w := by
 go_enter Tryz.func55, Tryz.ntmps55
 go_wp2_with fail
 go_ret
 exact ⟨rfl, rfl⟩
theorem shift_some {w : World} {v : Value} {l : List Nat} {N B n q r : Nat} {A : Option Addr} {c : Nat} (hv : v = .slice A l.length c) (hl : 0 < l.length) (h : NumRd w v N B) (hN : N ≠ 0) (hn : n ≤ 2000) (hB : B ≤ 2000) (hq : q = n / 32) (hr : r = n % 32) :
  Calls Tryz.prog 55 #[v, .int .i64 (n : Int)] w (NPost w (N * 2 ^ n) (B + 1 + q)) := by
 subst hv
 refine byR fun R hR => ?_
 have HR := az hR
 obtain ⟨i0, hi, hz0, hz1, hz2⟩ := info_parts info_u32
 have HN := az hN
 have HH := az h
 have e1 : (n : Int) % 32 = (r : Int) := by omega
 have e2 : (n : Int) / 32 = (q : Int) := by omega
 have Hq := az hq
 have Hr := az hr
 generalize l.length = m at *
 have m0 : ((m : Int) == 0) = false := bF
 have m0n : (m == 0) = false := bF
 clear hR h hq hr hN
 go_enter Tryz.func55, Tryz.ntmps55
 go_wp2_with fail
 have hr32 : r < 32 := by have := Hr.out; omega
 have hp : 2 ^ r < 2 ^ 32 := Nat.pow_lt_pow_right (by omega) hr32
 have hmi : (2 : Int) ^ r % 4294967296 = ((2 ^ r : Nat) : Int) := by
  have : (2 : Int) ^ r = ((2 ^ r : Nat) : Int) := by rw [Int.natCast_pow]; rfl
  rw [this]
  generalize 2 ^ r = P at *
  omega
 have hp1 : 1 ≤ 2 ^ r := Nat.two_pow_pos r
 refine (times_num HH.out (2 ^ r) 0 hp hp1 (by omega) (by omega) hmi rfl).mono ?_
 rintro e w2 ⟨v2, rfl, hrd2, hbel2⟩
 obtain ⟨l2, hr2, hn2, hv2, hb2⟩ := hrd2
 have hl2 : 0 < l2.length := by
  by_cases c0 : l2 = []
  ·rw [c0] at hv2
   have := HN.out
   have h0 : N * 2 ^ r = 0 := hv2.symm
   rcases Nat.mul_eq_zero.mp h0 with h1 | h1 <;> omega
  ·exact List.length_pos_iff.mpr c0
 obtain ⟨A2, c2, rfl, hc2, hA2⟩ := hr2
 obtain ⟨g2, hg2, hg3, hcell2⟩ := hA2 hl2
 subst hg2
 have HC := az hcell2
 have HL2 := az4 hn2 hv2 hb2 hl2
 have HBel := az hbel2
 have hs2 := hbel2.size
 obtain ⟨m2, hm2⟩ : ∃ m2, m2 = l2.length := ⟨_, rfl⟩
 rw [← hm2] at hc2 hl2 hb2 ⊢
 have HM2 := az hm2
 clear hp hmi hp1 hr32 hcell2 hn2 hv2 hbel2 hm2
 go_wp2_with (first
  | (at_make; refine wpList_make_full _ rfl _ _ 97 rfl w.heap.size 106 i0 (.int .u32 0) 1 Tryz.underlying97 hi hz0 hz1 .i64 .i64 _ _ q rfl rfl (by first | rfl | omega | simp) (by first | rfl | omega | simp) (by rw [hz2]; omega) (by unfold maxLen; omega) hs2 ?_; intro w3 hown3 hgrow3)
  | (at_builtin; refine wpList_append_own_at _ rfl _ _ 97 rfl w.heap.size 106 i0 (.int .u32 0) 1 4 Tryz.underlying97 hi hz0 hz1 hz2 rfl (by decide) _ q _ rfl hown3 ⟨g2, 0, none⟩ m2 c2 (u32s l2) rfl (by rw [u32s_len, HM2.out]; omega) (u32s_at (HM2.out ▸ HC.out) hg3 hgrow3) (u32s_one _) (by unfold maxLen; omega) (by omega) (Nat.le_trans hs2 hgrow3.size) ?_; intro v1 w4 hown4 hgrow4 hnil4 hat4; clear hnil4 hat4))
 rw [HR.out]
 obtain ⟨k1, k2, k3, k4⟩ := HL2.out
 have el : (List.replicate q 0 ++ l2).length = q + m2 := by rw [List.length_append, List.length_replicate, HM2.out]
 have ec : (madeCells (Value.int .u32 0).cells (q * 1)).toList ++ u32s l2 = u32s (List.replicate q 0 ++ l2) := by
  have e1 : (Value.int .u32 0).cells = #[Value.int .u32 0] := rfl
  rw [Nat.mul_one, e1, toList_madeCells_one]
  unfold u32s
  rw [List.map_append, List.map_replicate]
  rfl
 rw [ec, ← el] at hown4
 have hb := HBel.out
 have hs := hb.size
 refine ⟨v1, rfl, ⟨_, Rd.of_owns hown4, FP.nrm_zeros q k1 (List.length_pos_iff.mp k4), ?_, ?_⟩, ?_⟩
 ·rw [FP.n32_zeros, k2, Nat.add_zero, Nat.mul_comm, Nat.mul_assoc, ← Nat.pow_add]
  congr 2
  have := Hq.out
  have := Hr.out
  omega
 ·rw [el]; omega
 ·refine hb.trans (Below.trans ⟨hgrow3.os, hgrow3.tape, hgrow3.output, hgrow3.size, fun k hk => hgrow3.block k (by omega) (by simp)⟩ ⟨hgrow4.os, hgrow4.tape, hgrow4.output, hgrow4.size, fun k hk => hgrow4.block k (by have := hgrow3.size; omega) (fun e => ?_)⟩)
  have e' : some k = some w2.heap.size := e
  have := Option.some.inj e'
  omega
theorem shift_calls {w : World} {v : Value} {N B n : Nat} (h : NumRd w v N B) (hn : n ≤ 2000) (hB : B ≤ 2000) :
  Calls Tryz.prog 55 #[v, .int .i64 (n : Int)] w (NPost w (N * 2 ^ n) (B + 1 + n / 32)) := by
 obtain ⟨l, hr, hn1, hv, hb⟩ := h
 by_cases c : l = []
 ·subst c
  obtain ⟨A, c, rfl, hc, hA⟩ := hr
  refine (shift_nil n).mono ?_
  rintro e w' ⟨rfl, rfl⟩
  refine ⟨_, rfl, ⟨[], ⟨A, c, rfl, hc, hA⟩, hn1, ?_, Nat.zero_le _⟩, Below.refl _ _⟩
  rw [← hv]
  exact (Nat.zero_mul _).symm
 ·have hl := List.length_pos_iff.mpr c
  obtain ⟨A, c', e, hc, hA⟩ := hr
  refine shift_some e hl ⟨l, ⟨A, c', e, hc, hA⟩, hn1, hv, hb⟩ ?_ hn hB rfl rfl
  have := FP.n32_ge hn1 c
  have := Nat.two_pow_pos (32 * (l.length - 1))
  omega
theorem two_rd {w : World} (x y : Nat) (l : List Nat) (hl : l = [] ∨ l = [x] ∨ l = [x, y]) : Rd (w.alloc (.cells #[.int .u32 (x : Int), .int .u32 (y : Int)] 106)) (.slice (some ⟨w.heap.size, 0, none⟩) l.length 2) l := by
 refine ⟨_, _, rfl, by rcases hl with rfl | rfl | rfl <;> simp, fun _ => ⟨_, rfl, by simp, fun j hj => ?_⟩⟩
 have h2 : j < 2 := by rcases hl with rfl | rfl | rfl <;> simp at hj <;> omega
 have e : (w.alloc (.cells #[.int .u32 (x : Int), .int .u32 (y : Int)] 106)).heap[w.heap.size]? = some (.cells #[.int .u32 (x : Int), .int .u32 (y : Int)] 106 (0, 0)) := heap_alloc_new w _
 rw [blk_cell e j]
 rcases hl with rfl | rfl | rfl
 ·simp at hj
 ·have : j = 0 := by simp at hj; omega
  subst this; rfl
 ·have : j = 0 ∨ j = 1 := by omega
  rcases this with rfl | rfl <;> rfl
theorem ofWord_two (m x y : Nat) (hx : x < 2 ^ 32) (hy : y < 2 ^ 32) (hm : m = x + 2 ^ 32 * y) (w : World) (l : List Nat) (h : (y ≠ 0 ∧ l = [x, y]) ∨ (y = 0 ∧ x ≠ 0 ∧ l = [x]) ∨ (y = 0 ∧ x = 0 ∧ l = [])) :
  Calls Tryz.prog 53 #[.int .u64 (m : Int)] w (NatPost w l) := by
 refine byR fun R hR => ?_
 have HR := az hR
 have e1 : (m : Int) % 4294967296 = (x : Int) := by omega
 have e2 : (m : Int) / 4294967296 % 4294967296 = (y : Int) := by omega
 have fin : R (.returned (.slice (some ⟨w.heap.size, 0, none⟩) l.length 2)) (w.alloc (.cells #[.int .u32 (x : Int), .int .u32 (y : Int)] 106)) := by
  rw [hR]
  refine ⟨_, rfl, two_rd x y l ?_, (Below.refl _ _).alloc (Nat.le_refl _) _⟩
  rcases h with ⟨_, h⟩ | ⟨_, _, h⟩ | ⟨_, _, h⟩
  ·exact .inr (.inr h)
  ·exact .inr (.inl h)
  ·exact .inl h
 have HF := az fin
 clear fin hR hm
 rcases h with ⟨hy0, rfl⟩ | ⟨rfl, hx0, rfl⟩ | ⟨rfl, rfl, rfl⟩
 ·have t1 : ((y : Int) == 0) = false := bF
  have t1n : (y == 0) = false := bF
  clear hy0
  go_enter Tryz.func53, Tryz.ntmps53
  go_wp2_with fail
  refine wp_loop_rounds 1 ?_
  rw [rounds_succ]
  go_wp2_with fail
  exact HF.out
 ·have t1 : ((x : Int) == 0) = false := bF
  have t1n : (x == 0) = false := bF
  clear hx0
  go_enter Tryz.func53, Tryz.ntmps53
  go_wp2_with fail
  refine wp_loop_rounds 2 ?_
  rw [rounds_succ]
  go_wp2_with fail
  rw [rounds_succ]
  go_wp2_with fail
  exact HF.out
 ·go_enter Tryz.func53, Tryz.ntmps53
  go_wp2_with fail
  refine wp_loop_rounds 3 ?_
  rw [rounds_succ]
  go_wp2_with fail
  rw [rounds_succ]
  go_wp2_with fail
  rw [rounds_succ]
  go_wp2_with fail
  exact HF.out
theorem ofWord_calls (m : Nat) (hm : m < 2 ^ 64) (w : World) : Calls Tryz.prog 53 #[.int .u64 (m : Int)] w (NPost w m 2) := by
 refine (ofWord_two m (m % 2 ^ 32) (m / 2 ^ 32) (by omega) (by omega) (by omega) w (FP.wordL m) ?_).mono ?_
 ·unfold FP.wordL
  by_cases h0 : m = 0
  ·rw [if_pos h0]; exact .inr (.inr ⟨by omega, by omega, rfl⟩)
  ·rw [if_neg h0]
   by_cases h1 : m < 2 ^ 32
   ·rw [if_pos h1]; exact .inr (.inl ⟨by omega, by omega, by rw [Nat.mod_eq_of_lt h1]⟩)
   ·rw [if_neg h1]; exact .inl ⟨by omega, rfl⟩
 ·rintro e w' ⟨v, he, hr, hb⟩
  exact ⟨v, he, ⟨_, hr, FP.wordL_nrm hm, FP.wordL_val m, FP.wordL_len m⟩, hb⟩
end Go.Proofs.YtbimfhaokgigkaaGreatDoor
