/- Walks of functions of FnJpGetFloat (G6, G7); conditions stand ahead of each theorem. -/
import Derived.Test.YtbimfhaokgigkaaGreatDoorT48
import Derived.Test.YtbimfhaokgigkaaGreatDoorT21
set_option maxRecDepth 1000000
set_option maxHeartbeats 4000000
namespace Go.Proofs.YtbimfhaokgigkaaGreatDoor
open Go.RowKit Go.Proofs.YtbimfhaokgigkaaGreatDoorW.PrintWords Go.Proofs.YtbimfhaokgigkaaGreatDoorW.PrintLast
def nst (neg : Bool) : Nat := if neg then 1 else 0
def nq (neg : Bool) (W F : Nat) : Nat := nst neg + W + (if F = 0 then 0 else 1 + F)
structure JNum (s : ByteArray) (neg : Bool) (W : Nat) (gw : Nat → Nat) (F : Nat) (gf : Nat → Nat) (x esg : Int) (N : Nat) (ge : Nat → Nat) : Prop where
 sz : s.size ≤ 800
 sgn : neg = true → bt s 0 = 45
 one : 1 ≤ W
 fits : nst neg + W ≤ s.size
 bytes : ∀ k < W, bt s ((nst neg + k : Nat) : Int) = (gw k : Int)
 kinds : ∀ k < W, 48 ≤ gw k ∧ gw k ≤ 57
 frac : F ≠ 0 → bt s ((nst neg + W : Nat) : Int) = 46 ∧ nst neg + W + 1 + F ≤ s.size ∧ (∀ k < F, bt s ((nst neg + W + 1 + k : Nat) : Int) = (gf k : Int)) ∧ ∀ k < F, 48 ≤ gf k ∧ gf k ≤ 57
 back : (N = 0 ∧ nq neg W F = s.size) ∨ Back s ((nq neg W F : Nat) : Int) x esg N ge
def ndig (s : ByteArray) (st W k : Nat) : Nat := (bt s ((if k < W then st + k else st + 1 + k : Nat) : Int)).toNat
def nexp (s : ByteArray) (x : Int) (k : Nat) : Nat := (bt s (x + k)).toNat
def NumX (s : ByteArray) (neg : Bool) (W F : Nat) (x esg : Int) (N : Nat) : Rat := (FP.dnum 0 (ndig s (nst neg) W) (W + F) : Rat) * FP.p10 (esg * (FP.dnum 0 (nexp s x) N : Int) - F)
def dl (s : ByteArray) (st W n : Nat) : List Nat := (List.range n).map (ndig s st W)
theorem dl_len (s : ByteArray) (st W n : Nat) : (dl s st W n).length = n := by unfold dl; rw [List.length_map, List.length_range]
theorem dl_succ (s : ByteArray) (st W n : Nat) : dl s st W (n + 1) = dl s st W n ++ [ndig s st W n] := by unfold dl; rw [List.range_succ, List.map_append]; rfl
theorem dl_get {s : ByteArray} {st W n k : Nat} (h : k < n) : (dl s st W n)[k]? = some (ndig s st W k) := by unfold dl; rw [List.getElem?_map, List.getElem?_range h]; rfl
def u8s (l : List Nat) : List Value := l.map fun d => .int .u8 ((d : Nat) : Int)
theorem u8s_snoc (l : List Nat) (d : Nat) {x : Int} (h : x = ((d : Nat) : Int)) : u8s l ++ [.int .u8 x] = u8s (l ++ [d]) := by
 unfold u8s
 rw [List.map_append, h]; rfl
theorem info_u8 : (Tryz.prog.info? 5).map (fun i => (i.zero, i.size, i.bytes)) = some (some (.int .u8 0), 1, 1) := by kernel_rfl
theorem one_cell_u8 (x : Int) : ∀ u ∈ [Value.int .u8 x], u.oneCell' = true := by
 intro u hu
 rw [List.mem_singleton] at hu
 rw [hu]; rfl
theorem reads_own {w : World} {base n g c : Nat} {s : ByteArray} {st W : Nat} (h : w.ownsRow base 5 1 (.slice (some ⟨g, 0, none⟩) n c) n (u8s (dl s st W n))) (hn : n ≤ 70000) : ReadsInt w .u8 (some ⟨g, 0, none⟩) n ((dl s st W n).map Int.ofNat) := by
 refine ⟨by rw [List.length_map, dl_len], by omega, fun _ => ⟨_, rfl, fun j hj => ?_⟩⟩
 have e : (⟨g, 0, none⟩ : Addr).add j = ⟨g, j, none⟩ := by
  by_cases h0 : j = 0
  ·subst h0; simp [Addr.add]
  ·simp [Addr.add, h0]
 rw [e, h.cellAt j (by omega)]
 unfold u8s
 rw [List.getElem?_map, dl_get hj]
 simp [List.getD, List.getElem?_map, dl_get hj]
def ValPost (w : World) (M : Nat) (neg : Bool) (X : Rat) (e : Ending) (w' : World) : Prop :=
 Below w.heap.size w w' ∧ (e = .returned (.tuple #[.agg #[.bool false, .string ⟨#[]⟩, .int .i64 0], .bool false]) ∨
  ∃ (ds : ByteArray) (g : Nat → Nat) (p : Int), e = .returned (.tuple #[.agg #[.bool neg, .string ds, .int .i64 p], .bool true]) ∧ DigsL M ds g ∧ (ds.size ≠ 0 → 49 ≤ g 0) ∧ (-4000000000000000 ≤ p ∧ p ≤ 4000000000000000) ∧ (FP.dnum 0 g ds.size : Rat) * FP.p10 p = X)
theorem below_row {B : Nat} {wr w2 : World} {e : TypeId} {size n : Nat} {v : Value} {xs : List Value} {o : Obj} (h0 : B ≤ wr.heap.size) (h : wr.ownsRow B e size v n xs) (hg : (wr.alloc o).grownBy w2 v.ownBlock) : Below B wr w2 := by
 refine ⟨hg.os, hg.tape, hg.output, Nat.le_trans (by simp) hg.size, fun k hk => ?_⟩
 rw [hg.block k (by simp; omega) (fun e' => by have := (h.lt k e'.symm).1; omega)]
 exact heap_alloc_old wr o (by omega)
theorem value_true {s : ByteArray} {W F : Nat} {x esg : Int} {N : Nat} (h : Num0 s true W F x esg N) (hs : s.size ≤ 65536) (w : World) : Calls Tryz.prog 18 #[.string s] w (ValPost w s.size true (NumX s true W F x esg N)) := by
 refine byR fun R hR => ?_
 have HR := az hR
 have hst : (if true = true then 1 else 0 : Nat) = 1 := rfl
 have hone := h.one
 have hfits : 1 + W ≤ s.size := h.fits
 have CI := az (fun w1 => isNumber_calls s (by omega) w1)
 obtain ⟨i0, hi, hz0, hz1, hz2⟩ := info_parts info_u8
 have p0 : (0 < s.size) = True := eT
 have hs8 : (s.size : Int) ≤ 65536 := by omega
 have hb0 : bt s ((0 : Nat) : Int) = 45 := by
  rcases h.sgn with ⟨_, e⟩ | ⟨e, _⟩
  ·exact e
  ·cases e
 have x0 : ∀ h : 0 < s.size, ((s[0]'h).toNat : Int) = bt s ((0 : Nat) : Int) := fun h => bt_at s ((0 : Nat) : Int) h
 rw [hb0] at x0
 clear hb0
 obtain ⟨M, hM⟩ : ∃ M, M = W + (if F = 0 then 0 else 1 + F) := ⟨_, rfl⟩
 have hkinds : ∀ j < M, (j ≠ W → 48 ≤ bt s ((1 + j : Nat) : Int) ∧ bt s ((1 + j : Nat) : Int) ≤ 57) ∧ (j = W → bt s ((1 + j : Nat) : Int) = 46) := by
  intro j hj
  refine ⟨fun hne => ?_, fun he => ?_⟩
  ·by_cases hjW : j < W
   ·exact h.kinds j hjW
   ·have hF : F ≠ 0 := by intro e; rw [e, if_pos rfl] at hM; omega
    rw [if_neg hF] at hM
    have := (h.frac hF).2.2 (j - W - 1) (by omega)
    rw [hst] at this
    rwa [show 1 + W + 1 + (j - W - 1) = 1 + j by omega] at this
  ·have hF : F ≠ 0 := by intro e; rw [e, if_pos rfl] at hM; omega
   have := (h.frac hF).1
   rw [hst] at this
   rw [he]; exact this
 have hMs : 1 + M ≤ s.size := by
  rcases h.back with ⟨_, e⟩ | ⟨h1, q, e, _, hx, hf, _⟩
  ·rw [hst] at e; omega
  ·rw [hst] at e; rcases hx with ⟨hx, _⟩ | ⟨hx, _⟩ | ⟨hx, _⟩ <;> omega
 have HH := az h
 have HM := az hM
 have HK := az hkinds
 have HS := az4 hone hfits hs hMs
 clear hR h hs hone hfits hkinds hM hMs hst
 go_enter Tryz.func18, Tryz.ntmps18
 go_wp2_with fail
 refine (CI.out _).mono ?_
 rintro e w1 ⟨b, rfl, hbel1, hnum⟩
 have hB2 : w1.heap[w.heap.size]? = some (.cells #[.bool false, .string ⟨#[]⟩, .int .i64 0] 51 (0, 0)) := (hbel1.block _ (by simp)).trans (heap_alloc_new w _)
 have hz := hbel1.size
 simp at hz
 have bw1 : Below w.heap.size w w1 := ((Below.refl _ _).alloc (Nat.le_refl _) _).trans (hbel1.mono (by simp))
 have HB2 := az3 hB2 bw1 hz
 clear hbel1 hnum bw1 hz
 cases b with
 | false =>
  have c20 := blk_cell hB2 0
  have c21 := blk_cell hB2 1
  have c22 := blk_cell hB2 2
  have f20 := blk_frozen hB2 0
  have f21 := blk_frozen hB2 1
  have f22 := blk_frozen hB2 2
  have hF := blk_set (blk_set (blk_set hB2 0 (.bool false)) 1 (.string ⟨#[]⟩)) 2 (.int .i64 0)
  have HF := az hF
  clear hB2 hF
  go_wp2_with fail
  have d0 := blk_cell HF.out 0
  have d1 := blk_cell HF.out 1
  have d2 := blk_cell HF.out 2
  refine bodyPost_ret (v := .tuple #[.agg #[.bool false, .string ⟨#[]⟩, .int .i64 0], .bool false]) (by simp [results, Tryz.results18, go_sem, d0, d1, d2]) rfl ?_
  rw [HR.out]
  exact ⟨(((HB2.out.2.1.setCell (Nat.le_refl _) _).setCell (Nat.le_refl _) _).setCell (Nat.le_refl _) _), .inl rfl⟩
 | true =>
  clear hB2
  go_wp2_with fail
  go_loopg [5, 6, 7, 8] M (fun q v5 v6 v7 v8 w' => ∃ (p j cnt : Nat) (pt : Bool) (pw : Int), v5 = .int .i64 (p : Int) ∧ v7 = .int .i64 pw ∧ v8 = .bool pt ∧ Aside0 (p = 1 + j ∧ q = M - j ∧ j ≤ M ∧ ((pt = false ∧ j ≤ W ∧ cnt = j ∧ pw = 0) ∨ (pt = true ∧ W < j ∧ cnt + 1 = j ∧ pw = (W : Int) - cnt))) ∧
   Aside0 (w'.ownsRow (w1.heap.size + 1) 5 1 v6 cnt (u8s (dl s 1 W cnt))) ∧ Aside0 (Below (w1.heap.size + 1) (w1.alloc (.cells #[.bool true, .string ⟨#[]⟩, .int .i64 0] 51)) w'))
  case atStart => exact ⟨1, 0, 0, false, 0, rfl, rfl, rfl, ⟨⟨rfl, rfl, Nat.zero_le _, .inl ⟨rfl, Nat.zero_le _, rfl, rfl⟩⟩⟩, ⟨World.ownsRow_nil _ _ _ _⟩, ⟨Below.refl _ _⟩⟩
  case round =>
   obtain ⟨p, j, cnt, pt, pw, rfl, rfl, rfl, hkk, hown, hbel⟩ := hrel
   have hcnt : cnt ≤ 65536 := by have := hkk.out; have := HS.out; omega
   by_cases hlt : j < M
   ·have hps : p < s.size := by have := hkk.out; have := HS.out; omega
    obtain ⟨c, hc⟩ : ∃ c : Nat, (c : Int) = bt s (p : Int) := ⟨(bt s (p : Int)).toNat, by have := bt_range s (p : Int); omega⟩
    have hx5 : ∀ h : p < s.size, ((s[p]'h).toNat : Int) = (c : Int) := fun h => (bt_at s (p : Int) h).trans hc.symm
    have hpj : p = 1 + j := hkk.out.1
    by_cases hjW : j = W
    ·have h46 := (HK.out j hlt).2 hjW
     rw [← hpj, ← hc] at h46
     obtain rfl : c = 46 := by omega
     have HC := az3 hpj hjW hlt
     clear hc h46 hpj hjW hlt
     go_wp2_with fail
     go_roundg (M - (j + 1))
     case measure => have := hkk.out; have := HC.out; omega
     case rel =>
      have K := hkk.out
      have C := HC.out
      rcases K.2.2.2 with ⟨rfl, k1, k2, k3⟩ | ⟨_, k1, _⟩
      ·exact ⟨p + 1, j + 1, cnt, true, pw, by go_num, rfl, rfl, ⟨⟨by omega, rfl, by omega, .inr ⟨rfl, by omega, by omega, by omega⟩⟩⟩, hown, hbel⟩
      ·omega
    ·have hd := (HK.out j hlt).1 hjW
     rw [← hpj, ← hc] at hd
     have t46 : ((c : Int) == 46) = false := bF
     have t46n : (c == 46) = false := bF
     have t101 : ((c : Int) != 101) = true := nT
     have t101n : (c != 101) = true := nT
     have t69 : ((c : Int) != 69) = true := nT
     have t69n : (c != 69) = true := nT
     have hdig : c = ndig s 1 W cnt := by
      unfold ndig
      have K := hkk.out.2.2.2
      have e : p = (if cnt < W then 1 + cnt else 1 + 1 + cnt) := by
       rcases K with ⟨_, k1, k2, _⟩ | ⟨_, k1, k2, _⟩
       ·rw [if_pos (by omega)]; omega
       ·rw [if_neg (by omega)]; omega
      rw [← e, ← hc]; rfl
     have HC := az4 hpj hjW hlt hdig
     clear hc hd hpj hjW hlt hdig
     have hpw : -70000 ≤ pw ∧ pw ≤ 70000 := by have := hkk.out; omega
     obtain ⟨hpw0, hpw1⟩ := hpw
     cases pt with
     | false =>
      go_wp2_with (at_builtin; refine wpList_append_own_at _ rfl _ _ 43 rfl (w1.heap.size + 1) 5 i0 (.int .u8 0) 1 1 Tryz.underlying43 hi hz0 hz1 hz2 rfl (by decide) _ cnt _ rfl (hown.out.alloc _) ⟨wr.heap.size, 0, none⟩ 1 1 [_] rfl rfl (cell_one_new _ _ _) (one_cell_u8 _) (by unfold maxLen; omega) (by omega) (by have := hbel.out.size; simp at this; simp; omega) ?_; intro v1 w2 hown2 hgrow2 hnil2 hat2; clear hnil2 hat2)
      go_roundg (M - (j + 1))
      case measure => have := hkk.out; have := HC.out; omega
      case rel =>
       have K := hkk.out
       have C := HC.out
       rcases K.2.2.2 with ⟨_, k1, k2, k3⟩ | ⟨k, _⟩
       ·refine ⟨p + 1, j + 1, cnt + 1, false, pw, by go_num, rfl, rfl, ⟨⟨by omega, rfl, by omega, .inl ⟨rfl, by omega, by omega, k3⟩⟩⟩, ⟨?_⟩, ⟨hbel.out.trans (below_row (by have := hbel.out.size; simp at this; omega) hown.out hgrow2)⟩⟩
        rw [dl_succ, ← C.2.2.2, ← u8s_snoc _ _ rfl]; exact hown2
       ·exact absurd k (by first | decide | simp)
     | true =>
      go_wp2_with (at_builtin; refine wpList_append_own_at _ rfl _ _ 43 rfl (w1.heap.size + 1) 5 i0 (.int .u8 0) 1 1 Tryz.underlying43 hi hz0 hz1 hz2 rfl (by decide) _ cnt _ rfl (hown.out.alloc _) ⟨wr.heap.size, 0, none⟩ 1 1 [_] rfl rfl (cell_one_new _ _ _) (one_cell_u8 _) (by unfold maxLen; omega) (by omega) (by have := hbel.out.size; simp at this; simp; omega) ?_; intro v1 w2 hown2 hgrow2 hnil2 hat2; clear hnil2 hat2)
      go_roundg (M - (j + 1))
      case measure => have := hkk.out; have := HC.out; omega
      case rel =>
       have K := hkk.out
       have C := HC.out
       rcases K.2.2.2 with ⟨k, _⟩ | ⟨_, k1, k2, k3⟩
       ·exact absurd k (by first | decide | simp)
       ·refine ⟨p + 1, j + 1, cnt + 1, true, pw - 1, by go_num, rfl, rfl, ⟨⟨by omega, rfl, by omega, .inr ⟨rfl, by omega, by omega, by omega⟩⟩⟩, ⟨?_⟩, ⟨hbel.out.trans (below_row (by have := hbel.out.size; simp at this; omega) hown.out hgrow2)⟩⟩
        rw [dl_succ, ← C.2.2.2, ← u8s_snoc _ _ rfl]; exact hown2
   ·have hjM : j = M := by have := hkk.out; omega
    have K := hkk.out
    have S := HS.out
    have hcnt2 : cnt = W + F := by
     have := HM.out
     rcases K.2.2.2 with ⟨_, k1, k2, k3⟩ | ⟨_, k1, k2, k3⟩
     ·by_cases hF : F = 0
      ·rw [if_pos hF] at this; omega
      ·rw [if_neg hF] at this; omega
     ·by_cases hF : F = 0
      ·rw [if_pos hF] at this; omega
      ·rw [if_neg hF] at this; omega
    have hpw : pw = -(F : Int) := by
     have := HM.out
     rcases K.2.2.2 with ⟨_, k1, k2, k3⟩ | ⟨_, k1, k2, k3⟩
     ·by_cases hF : F = 0
      ·omega
      ·rw [if_neg hF] at this; omega
     ·omega
    have hpp : p = 1 + M := by have := K.1; omega
    obtain ⟨gg, cap, hv, hgb, hgl⟩ := hown.out.form (by omega)
    subst hv
    have hcap : cnt ≤ cap := by
     rcases hown.out.2 with ⟨e, _⟩ | ⟨g', cap', cur, e, _, _, hc, _⟩
     ·cases e
     ·simp only [Value.slice.injEq] at e
      omega
    have hrd := reads_own hown.out (by omega)
    have hdk : ∀ k < cnt, 48 ≤ ndig s 1 W k ∧ ndig s 1 W k ≤ 57 := by
     intro k hk
     unfold ndig
     by_cases hkW : k < W
     ·rw [if_pos hkW]
      have := HH.out.kinds k hkW
      have e : ((if true = true then 1 else 0 : Nat)) = 1 := rfl
      rw [e] at this
      omega
     ·rw [if_neg hkW]
      have := (HH.out.frac (by omega)).2.2 (k - W) (by omega)
      have e : ((if true = true then 1 else 0 : Nat)) = 1 := rfl
      rw [e, show 1 + W + 1 + (k - W) = 1 + 1 + k by omega] at this
      omega
    have hgk : ∀ k < cnt, ((dl s 1 W cnt).map Int.ofNat).getD k 0 = ((ndig s 1 W k : Nat) : Int) := by
     intro k hk
     simp [List.getD, List.getElem?_map, dl_get hk]
    have hB2 : wr.heap[w.heap.size]? = some (.cells #[.bool false, .string ⟨#[]⟩, .int .i64 0] 51 (0, 0)) := (hbel.out.block _ (by have := HB2.out.2.2; omega)).trans ((heap_alloc_old _ _ (by have := HB2.out.2.2; omega)).trans HB2.out.1)
    have hB4 : wr.heap[w1.heap.size]? = some (.cells #[.bool true, .string ⟨#[]⟩, .int .i64 0] 51 (0, 0)) := (hbel.out.block _ (by omega)).trans (heap_alloc_new w1 _)
    have hne : w.heap.size ≠ w1.heap.size := by have := HB2.out.2.2; omega
    have hne2 : w1.heap.size ≠ w.heap.size := fun e => hne e.symm
    have hBW : Below w.heap.size w wr := HB2.out.2.1.trans (Below.trans ((Below.refl _ _).alloc (by have := HB2.out.2.2; omega) _) (hbel.out.mono (by have := HB2.out.2.2; omega)))
    have HBW := az3 hBW hB2 hB4
    have hle : w.heap.size ≤ w1.heap.size := by have := HB2.out.2.2; omega
    have HLE := az hle
    have c20 := blk_cell hB2 0
    have c21 := blk_cell hB2 1
    have c22 := blk_cell hB2 2
    have f20 := blk_frozen hB2 0
    have f21 := blk_frozen hB2 1
    have f22 := blk_frozen hB2 2
    have c40 := blk_cell hB4 0
    have c41 := blk_cell hB4 1
    have c42 := blk_cell hB4 2
    have f40 := blk_frozen hB4 0
    have f41 := blk_frozen hB4 1
    have f42 := blk_frozen hB4 2
    have CBARE : Aside0 (∀ (P : Int), -2000000000000000 ≤ P → P ≤ 2000000000000000 → Calls Tryz.prog 33 #[.slice (some ⟨gg, 0, none⟩) cnt cap, .int .i64 P] wr (BarePost wr ((FP.dnum 0 (ndig s 1 W) cnt : Rat) * FP.p10 P) P cnt)) := ⟨fun P h1 h2 => bare_calls wr _ cnt cap _ (ndig s 1 W) hrd hcap (by omega) hgk hdk P h1 h2⟩
    have FIN : Aside0 (∀ (ds : ByteArray) (P : Int) (g2 : Nat → Nat) (E : Int) (w' : World), DigsL s.size ds g2 → (ds.size ≠ 0 → 49 ≤ g2 0) → (FP.dnum 0 g2 ds.size : Rat) * FP.p10 P = (FP.dnum 0 (ndig s 1 W) cnt : Rat) * FP.p10 (pw + E) → (P = 0 ∨ (pw + E ≤ P ∧ P ≤ pw + E + cnt)) → E = esg * (FP.dnum 0 (nexp s x) N : Int) → (-1000000000000000 ≤ E ∧ E ≤ 1000000000000000) → Below w.heap.size w w' → R (.returned (.tuple #[.agg #[.bool true, .string ds, .int .i64 P], .bool true])) w') := ⟨by
     intro ds P g2 E w' a1 a2 a3 a4 a5 a6 a7
     rw [HR.out]
     refine ⟨a7, .inr ⟨ds, g2, P, rfl, a1, a2, by omega, ?_⟩⟩
     rw [a3]
     unfold NumX
     rw [hcnt2, hpw, a5]
     have e : (-(F : Int) + esg * (FP.dnum 0 (nexp s x) N : Int)) = esg * (FP.dnum 0 (nexp s x) N : Int) - F := by omega
     rw [e]
     rfl⟩
    have hpw800 : -65536 ≤ pw ∧ pw ≤ 0 := by omega
    have HCS : Aside0 (cnt ≤ s.size) := ⟨by have h1 := HS.out; have h2 := HM.out; (split at h2) <;> omega⟩
    have hcnt8 : (cnt : Int) ≤ 65536 := by omega
    obtain ⟨hpw0, hpw1⟩ := hpw800
    rcases HH.out.back with ⟨hN, hend⟩ | ⟨hN1, q, hq, hlet, hsgn, hfin, hek⟩
    ·have hps : p = s.size := by
      have e : ((if true = true then 1 else 0 : Nat)) = 1 := rfl
      rw [e] at hend
      have := HM.out
      omega
     have HN := az hN
     have CB := az (CBARE.out pw (by omega) (by omega))
     have t9 : decide ((p : Int) < (s.size : Int)) = false := dF
     have t9n : decide (p < s.size) = false := dF
     clear K S hjM hcnt2 hpw hpp hrd hdk hgk hB2 hB4 hBW hle hend hps hcap hgb hgl hN hlt
     go_wp2_with (go_at_call 33; (with_reducible refine CB.out.mono ?_); rintro e w5 ⟨rfl, ds, P, g2, rfl, hD, hlead, hval, hP⟩)
     have hF := blk_set (blk_set (blk_set (blk_far (blk_far HBW.out.2.1 (p := ⟨w1.heap.size, 1, none⟩) hne (.string ds)) (p := ⟨w1.heap.size, 2, none⟩) hne (.int .i64 P)) 0 (.bool true)) 1 (.string ds)) 2 (.int .i64 P)
     have d0 := blk_cell hF 0
     have d1 := blk_cell hF 1
     have d2 := blk_cell hF 2
     refine bodyPost_ret (v := .tuple #[.agg #[.bool true, .string ds, .int .i64 P], .bool true]) (by simp [results, Tryz.results18, go_sem, d0, d1, d2]) rfl ?_
     exact FIN.out ds P g2 0 _ (hD.mono (by have := HCS.out; omega)) hlead (by rw [Int.add_zero]; exact hval) (by rw [Int.add_zero]; exact hP) (by rw [HN.out]; show (0 : Int) = esg * ((0 : Nat) : Int); simp) (by omega) (((((HBW.out.1.setCell HLE.out _).setCell HLE.out _).setCell (Nat.le_refl _) _).setCell (Nat.le_refl _) _).setCell (Nat.le_refl _) _)
    ·have hpq : p = q := by
      have e : ((if true = true then 1 else 0 : Nat)) = 1 := rfl
      rw [e] at hq
      have := HM.out
      omega
     subst hpq
     have hps : p < s.size := by rcases hsgn with ⟨hx, _⟩ | ⟨hx, _⟩ | ⟨hx, _⟩ <;> omega
     have hek2 : ∀ k < N, 48 ≤ nexp s x k ∧ nexp s x k ≤ 57 := by
      intro k hk
      have := hek k hk
      unfold nexp
      omega
     have hbtx : ∀ k < N, ∀ i : Nat, x = (p : Int) + 1 + i → bt (s.extract (p + 1) s.size) ((i + k : Nat) : Int) = ((nexp s x k : Nat) : Int) := by
      intro k hk i hi'
      rw [bt_ext (by omega) (Nat.le_refl _)]
      have := hek k hk
      unfold nexp
      rw [show ((p + 1 + (i + k) : Nat) : Int) = x + k by omega]
      omega
     have hb1 : bt (s.extract (p + 1) s.size) ((0 : Nat) : Int) = bt s ((p : Int) + 1) := by
      have hz1 : p + 1 < s.size := by rcases hsgn with ⟨hx, _⟩ | ⟨hx, _⟩ | ⟨hx, _⟩ <;> omega
      rw [bt_ext (by omega) (Nat.le_refl _)]
      congr 1
     have CSG : Aside0 (Calls Tryz.prog 32 #[.string (s.extract (p + 1) s.size)] wr (SgPost wr esg (FP.dnum 0 (nexp s x) N))) := ⟨by
      rcases hsgn with ⟨hx, rfl⟩ | ⟨hx, hc, rfl⟩ | ⟨hx, hc, rfl⟩
      ·exact signed_none _ N (nexp s x) hN1 (by omega) (by rw [ext_size (by omega) (Nat.le_refl _)]; omega) (fun k hk => by have := hbtx k hk 0 (by omega); rwa [Nat.zero_add] at this) hek2 wr
      ·exact signed_plus _ N (nexp s x) hN1 (by omega) (by rw [ext_size (by omega) (Nat.le_refl _)]; omega) (by rw [hb1]; exact hc) (fun k hk => hbtx k hk 1 (by omega)) hek2 wr
      ·exact signed_minus _ N (nexp s x) hN1 (by omega) (by rw [ext_size (by omega) (Nat.le_refl _)]; omega) (by rw [hb1]; exact hc) (fun k hk => hbtx k hk 1 (by omega)) hek2 wr⟩
     obtain ⟨c, hc⟩ : ∃ c : Nat, (c : Int) = bt s (p : Int) := ⟨(bt s (p : Int)).toNat, by have := bt_range s (p : Int); omega⟩
     have hx5 : ∀ h : p < s.size, ((s[p]'h).toNat : Int) = (c : Int) := fun h => (bt_at s (p : Int) h).trans hc.symm
     rw [← hc] at hlet
     have hce : c = 69 ∨ c = 101 := by omega
     have hesg : esg = 1 ∨ esg = -1 := by rcases hsgn with ⟨_, h⟩ | ⟨_, _, h⟩ | ⟨_, _, h⟩ <;> omega
     have HE := az hesg
     have hp1 : ((p : Int) + 1 ≤ (s.size : Int)) = True := eT
     have hp1n : (p + 1 ≤ s.size) = True := eT
     clear K S hjM hcnt2 hpw hpp hrd hdk hgk hB2 hB4 hBW hle hcap hgb hgl hN1 hlt hq hlet hsgn hfin hek hek2 hbtx hb1 hc hesg
     rcases hce with rfl | rfl
     all_goals
      go_wp2_with fail
      refine CSG.out.mono ?_
      rintro e w5 ⟨rfl, E, ok, rfl, hok⟩
      cases ok with
      | false =>
       have hF := blk_set (blk_set (blk_set HBW.out.2.1 0 (.bool false)) 1 (.string ⟨#[]⟩)) 2 (.int .i64 0)
       have HF := az hF
       clear hF hok
       go_wp2_with fail
       have d0 := blk_cell HF.out 0
       have d1 := blk_cell HF.out 1
       have d2 := blk_cell HF.out 2
       refine bodyPost_ret (v := .tuple #[.agg #[.bool false, .string ⟨#[]⟩, .int .i64 0], .bool false]) (by simp [results, Tryz.results18, go_sem, d0, d1, d2]) rfl ?_
       rw [HR.out]
       exact ⟨(((HBW.out.1.setCell (Nat.le_refl _) _).setCell (Nat.le_refl _) _).setCell (Nat.le_refl _) _), .inl rfl⟩
      | true =>
       obtain ⟨hE, hE15⟩ := hok.1 rfl
       have hEb : -1000000000000000 ≤ E ∧ E ≤ 1000000000000000 := by
        have hD15 : ((FP.dnum 0 (nexp s x) N : Nat) : Int) < 1000000000000000 := by
         have h15 : (10 : Nat) ^ 15 = 1000000000000000 := by decide
         rw [h15] at hE15
         omega
        rcases HE.out with e | e <;> rw [e] at hE <;> omega
       have HEE := az2 hE hEb
       obtain ⟨hE0, hE1⟩ := hEb
       have CB := az (CBARE.out (pw + E) (by omega) (by omega))
       clear hok hE hE15
       go_wp2_with (go_at_call 33; (with_reducible refine CB.out.mono ?_); rintro e w6 ⟨rfl, ds, P, g2, rfl, hD, hlead, hval, hP⟩)
       have hF := blk_set (blk_set (blk_set (blk_far (blk_far HBW.out.2.1 (p := ⟨w1.heap.size, 1, none⟩) hne (.string ds)) (p := ⟨w1.heap.size, 2, none⟩) hne (.int .i64 P)) 0 (.bool true)) 1 (.string ds)) 2 (.int .i64 P)
       have d0 := blk_cell hF 0
       have d1 := blk_cell hF 1
       have d2 := blk_cell hF 2
       refine bodyPost_ret (v := .tuple #[.agg #[.bool true, .string ds, .int .i64 P], .bool true]) (by simp [results, Tryz.results18, go_sem, d0, d1, d2]) rfl ?_
       exact FIN.out ds P g2 E _ (hD.mono (by have := HCS.out; omega)) hlead hval hP HEE.out.1 HEE.out.2 (((((HBW.out.1.setCell HLE.out _).setCell HLE.out _).setCell (Nat.le_refl _) _).setCell (Nat.le_refl _) _).setCell (Nat.le_refl _) _)
theorem value_false {s : ByteArray} {W F : Nat} {x esg : Int} {N : Nat} (h : Num0 s false W F x esg N) (hs : s.size ≤ 65536) (w : World) : Calls Tryz.prog 18 #[.string s] w (ValPost w s.size false (NumX s false W F x esg N)) := by
 refine byR fun R hR => ?_
 have HR := az hR
 have hst : (if false = true then 1 else 0 : Nat) = 0 := rfl
 have hone := h.one
 have hfits : 0 + W ≤ s.size := h.fits
 have CI := az (fun w1 => isNumber_calls s (by omega) w1)
 obtain ⟨i0, hi, hz0, hz1, hz2⟩ := info_parts info_u8
 have p0 : (0 < s.size) = True := eT
 have hs8 : (s.size : Int) ≤ 65536 := by omega
 have hb0 : ¬ bt s ((0 : Nat) : Int) = 45 := by
  rcases h.sgn with ⟨e, _⟩ | ⟨_, e⟩
  ·cases e
  ·exact e
 obtain ⟨c0, hc0⟩ : ∃ c0 : Nat, (c0 : Int) = bt s ((0 : Nat) : Int) := ⟨(bt s ((0 : Nat) : Int)).toNat, by have := bt_range s ((0 : Nat) : Int); omega⟩
 have x0 : ∀ h : 0 < s.size, ((s[0]'h).toNat : Int) = (c0 : Int) := fun h => (bt_at s ((0 : Nat) : Int) h).trans hc0.symm
 rw [← hc0] at hb0
 have t45 : ((c0 : Int) == 45) = false := by rw [beq_eq_false_iff_ne]; exact hb0
 have t45n : (c0 == 45) = false := by rw [beq_eq_false_iff_ne]; intro e; exact hb0 (by rw [e]; rfl)
 clear hb0 hc0
 obtain ⟨M, hM⟩ : ∃ M, M = W + (if F = 0 then 0 else 1 + F) := ⟨_, rfl⟩
 have hkinds : ∀ j < M, (j ≠ W → 48 ≤ bt s ((0 + j : Nat) : Int) ∧ bt s ((0 + j : Nat) : Int) ≤ 57) ∧ (j = W → bt s ((0 + j : Nat) : Int) = 46) := by
  intro j hj
  refine ⟨fun hne => ?_, fun he => ?_⟩
  ·by_cases hjW : j < W
   ·exact h.kinds j hjW
   ·have hF : F ≠ 0 := by intro e; rw [e, if_pos rfl] at hM; omega
    rw [if_neg hF] at hM
    have := (h.frac hF).2.2 (j - W - 1) (by omega)
    rw [hst] at this
    rwa [show 0 + W + 1 + (j - W - 1) = 0 + j by omega] at this
  ·have hF : F ≠ 0 := by intro e; rw [e, if_pos rfl] at hM; omega
   have := (h.frac hF).1
   rw [hst] at this
   rw [he]; exact this
 have hMs : 0 + M ≤ s.size := by
  rcases h.back with ⟨_, e⟩ | ⟨h1, q, e, _, hx, hf, _⟩
  ·rw [hst] at e; omega
  ·rw [hst] at e; rcases hx with ⟨hx, _⟩ | ⟨hx, _⟩ | ⟨hx, _⟩ <;> omega
 have HH := az h
 have HM := az hM
 have HK := az hkinds
 have HS := az4 hone hfits hs hMs
 clear hR h hs hone hfits hkinds hM hMs hst
 go_enter Tryz.func18, Tryz.ntmps18
 go_wp2_with fail
 refine (CI.out _).mono ?_
 rintro e w1 ⟨b, rfl, hbel1, hnum⟩
 have hB2 : w1.heap[w.heap.size]? = some (.cells #[.bool false, .string ⟨#[]⟩, .int .i64 0] 51 (0, 0)) := (hbel1.block _ (by simp)).trans (heap_alloc_new w _)
 have hz := hbel1.size
 simp at hz
 have bw1 : Below w.heap.size w w1 := ((Below.refl _ _).alloc (Nat.le_refl _) _).trans (hbel1.mono (by simp))
 have HB2 := az3 hB2 bw1 hz
 clear hbel1 hnum bw1 hz
 cases b with
 | false =>
  have c20 := blk_cell hB2 0
  have c21 := blk_cell hB2 1
  have c22 := blk_cell hB2 2
  have f20 := blk_frozen hB2 0
  have f21 := blk_frozen hB2 1
  have f22 := blk_frozen hB2 2
  have hF := blk_set (blk_set (blk_set hB2 0 (.bool false)) 1 (.string ⟨#[]⟩)) 2 (.int .i64 0)
  have HF := az hF
  clear hB2 hF
  go_wp2_with fail
  have d0 := blk_cell HF.out 0
  have d1 := blk_cell HF.out 1
  have d2 := blk_cell HF.out 2
  refine bodyPost_ret (v := .tuple #[.agg #[.bool false, .string ⟨#[]⟩, .int .i64 0], .bool false]) (by simp [results, Tryz.results18, go_sem, d0, d1, d2]) rfl ?_
  rw [HR.out]
  exact ⟨(((HB2.out.2.1.setCell (Nat.le_refl _) _).setCell (Nat.le_refl _) _).setCell (Nat.le_refl _) _), .inl rfl⟩
 | true =>
  clear hB2
  go_wp2_with fail
  go_loopg [5, 6, 7, 8] M (fun q v5 v6 v7 v8 w' => ∃ (p j cnt : Nat) (pt : Bool) (pw : Int), v5 = .int .i64 (p : Int) ∧ v7 = .int .i64 pw ∧ v8 = .bool pt ∧ Aside0 (p = 0 + j ∧ q = M - j ∧ j ≤ M ∧ ((pt = false ∧ j ≤ W ∧ cnt = j ∧ pw = 0) ∨ (pt = true ∧ W < j ∧ cnt + 1 = j ∧ pw = (W : Int) - cnt))) ∧
   Aside0 (w'.ownsRow (w1.heap.size + 1) 5 1 v6 cnt (u8s (dl s 0 W cnt))) ∧ Aside0 (Below (w1.heap.size + 1) (w1.alloc (.cells #[.bool false, .string ⟨#[]⟩, .int .i64 0] 51)) w'))
  case atStart => exact ⟨0, 0, 0, false, 0, rfl, rfl, rfl, ⟨⟨rfl, rfl, Nat.zero_le _, .inl ⟨rfl, Nat.zero_le _, rfl, rfl⟩⟩⟩, ⟨World.ownsRow_nil _ _ _ _⟩, ⟨Below.refl _ _⟩⟩
  case round =>
   obtain ⟨p, j, cnt, pt, pw, rfl, rfl, rfl, hkk, hown, hbel⟩ := hrel
   have hcnt : cnt ≤ 65536 := by have := hkk.out; have := HS.out; omega
   by_cases hlt : j < M
   ·have hps : p < s.size := by have := hkk.out; have := HS.out; omega
    obtain ⟨c, hc⟩ : ∃ c : Nat, (c : Int) = bt s (p : Int) := ⟨(bt s (p : Int)).toNat, by have := bt_range s (p : Int); omega⟩
    have hx5 : ∀ h : p < s.size, ((s[p]'h).toNat : Int) = (c : Int) := fun h => (bt_at s (p : Int) h).trans hc.symm
    have hpj : p = 0 + j := hkk.out.1
    by_cases hjW : j = W
    ·have h46 := (HK.out j hlt).2 hjW
     rw [← hpj, ← hc] at h46
     obtain rfl : c = 46 := by omega
     have HC := az3 hpj hjW hlt
     clear hc h46 hpj hjW hlt
     go_wp2_with fail
     go_roundg (M - (j + 1))
     case measure => have := hkk.out; have := HC.out; omega
     case rel =>
      have K := hkk.out
      have C := HC.out
      rcases K.2.2.2 with ⟨rfl, k1, k2, k3⟩ | ⟨_, k1, _⟩
      ·exact ⟨p + 1, j + 1, cnt, true, pw, by go_num, rfl, rfl, ⟨⟨by omega, rfl, by omega, .inr ⟨rfl, by omega, by omega, by omega⟩⟩⟩, hown, hbel⟩
      ·omega
    ·have hd := (HK.out j hlt).1 hjW
     rw [← hpj, ← hc] at hd
     have t46 : ((c : Int) == 46) = false := bF
     have t46n : (c == 46) = false := bF
     have t101 : ((c : Int) != 101) = true := nT
     have t101n : (c != 101) = true := nT
     have t69 : ((c : Int) != 69) = true := nT
     have t69n : (c != 69) = true := nT
     have hdig : c = ndig s 0 W cnt := by
      unfold ndig
      have K := hkk.out.2.2.2
      have e : p = (if cnt < W then 0 + cnt else 0 + 1 + cnt) := by
       rcases K with ⟨_, k1, k2, _⟩ | ⟨_, k1, k2, _⟩
       ·rw [if_pos (by omega)]; omega
       ·rw [if_neg (by omega)]; omega
      rw [← e, ← hc]; rfl
     have HC := az4 hpj hjW hlt hdig
     clear hc hd hpj hjW hlt hdig
     have hpw : -70000 ≤ pw ∧ pw ≤ 70000 := by have := hkk.out; omega
     obtain ⟨hpw0, hpw1⟩ := hpw
     cases pt with
     | false =>
      go_wp2_with (at_builtin; refine wpList_append_own_at _ rfl _ _ 43 rfl (w1.heap.size + 1) 5 i0 (.int .u8 0) 1 1 Tryz.underlying43 hi hz0 hz1 hz2 rfl (by decide) _ cnt _ rfl (hown.out.alloc _) ⟨wr.heap.size, 0, none⟩ 1 1 [_] rfl rfl (cell_one_new _ _ _) (one_cell_u8 _) (by unfold maxLen; omega) (by omega) (by have := hbel.out.size; simp at this; simp; omega) ?_; intro v1 w2 hown2 hgrow2 hnil2 hat2; clear hnil2 hat2)
      go_roundg (M - (j + 1))
      case measure => have := hkk.out; have := HC.out; omega
      case rel =>
       have K := hkk.out
       have C := HC.out
       rcases K.2.2.2 with ⟨_, k1, k2, k3⟩ | ⟨k, _⟩
       ·refine ⟨p + 1, j + 1, cnt + 1, false, pw, by go_num, rfl, rfl, ⟨⟨by omega, rfl, by omega, .inl ⟨rfl, by omega, by omega, k3⟩⟩⟩, ⟨?_⟩, ⟨hbel.out.trans (below_row (by have := hbel.out.size; simp at this; omega) hown.out hgrow2)⟩⟩
        rw [dl_succ, ← C.2.2.2, ← u8s_snoc _ _ rfl]; exact hown2
       ·exact absurd k (by first | decide | simp)
     | true =>
      go_wp2_with (at_builtin; refine wpList_append_own_at _ rfl _ _ 43 rfl (w1.heap.size + 1) 5 i0 (.int .u8 0) 1 1 Tryz.underlying43 hi hz0 hz1 hz2 rfl (by decide) _ cnt _ rfl (hown.out.alloc _) ⟨wr.heap.size, 0, none⟩ 1 1 [_] rfl rfl (cell_one_new _ _ _) (one_cell_u8 _) (by unfold maxLen; omega) (by omega) (by have := hbel.out.size; simp at this; simp; omega) ?_; intro v1 w2 hown2 hgrow2 hnil2 hat2; clear hnil2 hat2)
      go_roundg (M - (j + 1))
      case measure => have := hkk.out; have := HC.out; omega
      case rel =>
       have K := hkk.out
       have C := HC.out
       rcases K.2.2.2 with ⟨k, _⟩ | ⟨_, k1, k2, k3⟩
       ·exact absurd k (by first | decide | simp)
       ·refine ⟨p + 1, j + 1, cnt + 1, true, pw - 1, by go_num, rfl, rfl, ⟨⟨by omega, rfl, by omega, .inr ⟨rfl, by omega, by omega, by omega⟩⟩⟩, ⟨?_⟩, ⟨hbel.out.trans (below_row (by have := hbel.out.size; simp at this; omega) hown.out hgrow2)⟩⟩
        rw [dl_succ, ← C.2.2.2, ← u8s_snoc _ _ rfl]; exact hown2
   ·have hjM : j = M := by have := hkk.out; omega
    have K := hkk.out
    have S := HS.out
    have hcnt2 : cnt = W + F := by
     have := HM.out
     rcases K.2.2.2 with ⟨_, k1, k2, k3⟩ | ⟨_, k1, k2, k3⟩
     ·by_cases hF : F = 0
      ·rw [if_pos hF] at this; omega
      ·rw [if_neg hF] at this; omega
     ·by_cases hF : F = 0
      ·rw [if_pos hF] at this; omega
      ·rw [if_neg hF] at this; omega
    have hpw : pw = -(F : Int) := by
     have := HM.out
     rcases K.2.2.2 with ⟨_, k1, k2, k3⟩ | ⟨_, k1, k2, k3⟩
     ·by_cases hF : F = 0
      ·omega
      ·rw [if_neg hF] at this; omega
     ·omega
    have hpp : p = 0 + M := by have := K.1; omega
    obtain ⟨gg, cap, hv, hgb, hgl⟩ := hown.out.form (by omega)
    subst hv
    have hcap : cnt ≤ cap := by
     rcases hown.out.2 with ⟨e, _⟩ | ⟨g', cap', cur, e, _, _, hc, _⟩
     ·cases e
     ·simp only [Value.slice.injEq] at e
      omega
    have hrd := reads_own hown.out (by omega)
    have hdk : ∀ k < cnt, 48 ≤ ndig s 0 W k ∧ ndig s 0 W k ≤ 57 := by
     intro k hk
     unfold ndig
     by_cases hkW : k < W
     ·rw [if_pos hkW]
      have := HH.out.kinds k hkW
      have e : ((if false = true then 1 else 0 : Nat)) = 0 := rfl
      rw [e] at this
      omega
     ·rw [if_neg hkW]
      have := (HH.out.frac (by omega)).2.2 (k - W) (by omega)
      have e : ((if false = true then 1 else 0 : Nat)) = 0 := rfl
      rw [e, show 0 + W + 1 + (k - W) = 0 + 1 + k by omega] at this
      omega
    have hgk : ∀ k < cnt, ((dl s 0 W cnt).map Int.ofNat).getD k 0 = ((ndig s 0 W k : Nat) : Int) := by
     intro k hk
     simp [List.getD, List.getElem?_map, dl_get hk]
    have hB2 : wr.heap[w.heap.size]? = some (.cells #[.bool false, .string ⟨#[]⟩, .int .i64 0] 51 (0, 0)) := (hbel.out.block _ (by have := HB2.out.2.2; omega)).trans ((heap_alloc_old _ _ (by have := HB2.out.2.2; omega)).trans HB2.out.1)
    have hB4 : wr.heap[w1.heap.size]? = some (.cells #[.bool false, .string ⟨#[]⟩, .int .i64 0] 51 (0, 0)) := (hbel.out.block _ (by omega)).trans (heap_alloc_new w1 _)
    have hne : w.heap.size ≠ w1.heap.size := by have := HB2.out.2.2; omega
    have hne2 : w1.heap.size ≠ w.heap.size := fun e => hne e.symm
    have hBW : Below w.heap.size w wr := HB2.out.2.1.trans (Below.trans ((Below.refl _ _).alloc (by have := HB2.out.2.2; omega) _) (hbel.out.mono (by have := HB2.out.2.2; omega)))
    have HBW := az3 hBW hB2 hB4
    have hle : w.heap.size ≤ w1.heap.size := by have := HB2.out.2.2; omega
    have HLE := az hle
    have c20 := blk_cell hB2 0
    have c21 := blk_cell hB2 1
    have c22 := blk_cell hB2 2
    have f20 := blk_frozen hB2 0
    have f21 := blk_frozen hB2 1
    have f22 := blk_frozen hB2 2
    have c40 := blk_cell hB4 0
    have c41 := blk_cell hB4 1
    have c42 := blk_cell hB4 2
    have f40 := blk_frozen hB4 0
    have f41 := blk_frozen hB4 1
    have f42 := blk_frozen hB4 2
    have CBARE : Aside0 (∀ (P : Int), -2000000000000000 ≤ P → P ≤ 2000000000000000 → Calls Tryz.prog 33 #[.slice (some ⟨gg, 0, none⟩) cnt cap, .int .i64 P] wr (BarePost wr ((FP.dnum 0 (ndig s 0 W) cnt : Rat) * FP.p10 P) P cnt)) := ⟨fun P h1 h2 => bare_calls wr _ cnt cap _ (ndig s 0 W) hrd hcap (by omega) hgk hdk P h1 h2⟩
    have FIN : Aside0 (∀ (ds : ByteArray) (P : Int) (g2 : Nat → Nat) (E : Int) (w' : World), DigsL s.size ds g2 → (ds.size ≠ 0 → 49 ≤ g2 0) → (FP.dnum 0 g2 ds.size : Rat) * FP.p10 P = (FP.dnum 0 (ndig s 0 W) cnt : Rat) * FP.p10 (pw + E) → (P = 0 ∨ (pw + E ≤ P ∧ P ≤ pw + E + cnt)) → E = esg * (FP.dnum 0 (nexp s x) N : Int) → (-1000000000000000 ≤ E ∧ E ≤ 1000000000000000) → Below w.heap.size w w' → R (.returned (.tuple #[.agg #[.bool false, .string ds, .int .i64 P], .bool true])) w') := ⟨by
     intro ds P g2 E w' a1 a2 a3 a4 a5 a6 a7
     rw [HR.out]
     refine ⟨a7, .inr ⟨ds, g2, P, rfl, a1, a2, by omega, ?_⟩⟩
     rw [a3]
     unfold NumX
     rw [hcnt2, hpw, a5]
     have e : (-(F : Int) + esg * (FP.dnum 0 (nexp s x) N : Int)) = esg * (FP.dnum 0 (nexp s x) N : Int) - F := by omega
     rw [e]
     rfl⟩
    have hpw800 : -65536 ≤ pw ∧ pw ≤ 0 := by omega
    have HCS : Aside0 (cnt ≤ s.size) := ⟨by have h1 := HS.out; have h2 := HM.out; (split at h2) <;> omega⟩
    have hcnt8 : (cnt : Int) ≤ 65536 := by omega
    obtain ⟨hpw0, hpw1⟩ := hpw800
    rcases HH.out.back with ⟨hN, hend⟩ | ⟨hN1, q, hq, hlet, hsgn, hfin, hek⟩
    ·have hps : p = s.size := by
      have e : ((if false = true then 1 else 0 : Nat)) = 0 := rfl
      rw [e] at hend
      have := HM.out
      omega
     have HN := az hN
     have CB := az (CBARE.out pw (by omega) (by omega))
     have t9 : decide ((p : Int) < (s.size : Int)) = false := dF
     have t9n : decide (p < s.size) = false := dF
     clear K S hjM hcnt2 hpw hpp hrd hdk hgk hB2 hB4 hBW hle hend hps hcap hgb hgl hN hlt
     go_wp2_with (go_at_call 33; (with_reducible refine CB.out.mono ?_); rintro e w5 ⟨rfl, ds, P, g2, rfl, hD, hlead, hval, hP⟩)
     have hF := blk_set (blk_set (blk_set (blk_far (blk_far HBW.out.2.1 (p := ⟨w1.heap.size, 1, none⟩) hne (.string ds)) (p := ⟨w1.heap.size, 2, none⟩) hne (.int .i64 P)) 0 (.bool false)) 1 (.string ds)) 2 (.int .i64 P)
     have d0 := blk_cell hF 0
     have d1 := blk_cell hF 1
     have d2 := blk_cell hF 2
     refine bodyPost_ret (v := .tuple #[.agg #[.bool false, .string ds, .int .i64 P], .bool true]) (by simp [results, Tryz.results18, go_sem, d0, d1, d2]) rfl ?_
     exact FIN.out ds P g2 0 _ (hD.mono (by have := HCS.out; omega)) hlead (by rw [Int.add_zero]; exact hval) (by rw [Int.add_zero]; exact hP) (by rw [HN.out]; show (0 : Int) = esg * ((0 : Nat) : Int); simp) (by omega) (((((HBW.out.1.setCell HLE.out _).setCell HLE.out _).setCell (Nat.le_refl _) _).setCell (Nat.le_refl _) _).setCell (Nat.le_refl _) _)
    ·have hpq : p = q := by
      have e : ((if false = true then 1 else 0 : Nat)) = 0 := rfl
      rw [e] at hq
      have := HM.out
      omega
     subst hpq
     have hps : p < s.size := by rcases hsgn with ⟨hx, _⟩ | ⟨hx, _⟩ | ⟨hx, _⟩ <;> omega
     have hek2 : ∀ k < N, 48 ≤ nexp s x k ∧ nexp s x k ≤ 57 := by
      intro k hk
      have := hek k hk
      unfold nexp
      omega
     have hbtx : ∀ k < N, ∀ i : Nat, x = (p : Int) + 1 + i → bt (s.extract (p + 1) s.size) ((i + k : Nat) : Int) = ((nexp s x k : Nat) : Int) := by
      intro k hk i hi'
      rw [bt_ext (by omega) (Nat.le_refl _)]
      have := hek k hk
      unfold nexp
      rw [show ((p + 1 + (i + k) : Nat) : Int) = x + k by omega]
      omega
     have hb1 : bt (s.extract (p + 1) s.size) ((0 : Nat) : Int) = bt s ((p : Int) + 1) := by
      have hz1 : p + 1 < s.size := by rcases hsgn with ⟨hx, _⟩ | ⟨hx, _⟩ | ⟨hx, _⟩ <;> omega
      rw [bt_ext (by omega) (Nat.le_refl _)]
      congr 1
     have CSG : Aside0 (Calls Tryz.prog 32 #[.string (s.extract (p + 1) s.size)] wr (SgPost wr esg (FP.dnum 0 (nexp s x) N))) := ⟨by
      rcases hsgn with ⟨hx, rfl⟩ | ⟨hx, hc, rfl⟩ | ⟨hx, hc, rfl⟩
      ·exact signed_none _ N (nexp s x) hN1 (by omega) (by rw [ext_size (by omega) (Nat.le_refl _)]; omega) (fun k hk => by have := hbtx k hk 0 (by omega); rwa [Nat.zero_add] at this) hek2 wr
      ·exact signed_plus _ N (nexp s x) hN1 (by omega) (by rw [ext_size (by omega) (Nat.le_refl _)]; omega) (by rw [hb1]; exact hc) (fun k hk => hbtx k hk 1 (by omega)) hek2 wr
      ·exact signed_minus _ N (nexp s x) hN1 (by omega) (by rw [ext_size (by omega) (Nat.le_refl _)]; omega) (by rw [hb1]; exact hc) (fun k hk => hbtx k hk 1 (by omega)) hek2 wr⟩
     obtain ⟨c, hc⟩ : ∃ c : Nat, (c : Int) = bt s (p : Int) := ⟨(bt s (p : Int)).toNat, by have := bt_range s (p : Int); omega⟩
     have hx5 : ∀ h : p < s.size, ((s[p]'h).toNat : Int) = (c : Int) := fun h => (bt_at s (p : Int) h).trans hc.symm
     rw [← hc] at hlet
     have hce : c = 69 ∨ c = 101 := by omega
     have hesg : esg = 1 ∨ esg = -1 := by rcases hsgn with ⟨_, h⟩ | ⟨_, _, h⟩ | ⟨_, _, h⟩ <;> omega
     have HE := az hesg
     have hp1 : ((p : Int) + 1 ≤ (s.size : Int)) = True := eT
     have hp1n : (p + 1 ≤ s.size) = True := eT
     clear K S hjM hcnt2 hpw hpp hrd hdk hgk hB2 hB4 hBW hle hcap hgb hgl hN1 hlt hq hlet hsgn hfin hek hek2 hbtx hb1 hc hesg
     rcases hce with rfl | rfl
     all_goals
      go_wp2_with fail
      refine CSG.out.mono ?_
      rintro e w5 ⟨rfl, E, ok, rfl, hok⟩
      cases ok with
      | false =>
       have hF := blk_set (blk_set (blk_set HBW.out.2.1 0 (.bool false)) 1 (.string ⟨#[]⟩)) 2 (.int .i64 0)
       have HF := az hF
       clear hF hok
       go_wp2_with fail
       have d0 := blk_cell HF.out 0
       have d1 := blk_cell HF.out 1
       have d2 := blk_cell HF.out 2
       refine bodyPost_ret (v := .tuple #[.agg #[.bool false, .string ⟨#[]⟩, .int .i64 0], .bool false]) (by simp [results, Tryz.results18, go_sem, d0, d1, d2]) rfl ?_
       rw [HR.out]
       exact ⟨(((HBW.out.1.setCell (Nat.le_refl _) _).setCell (Nat.le_refl _) _).setCell (Nat.le_refl _) _), .inl rfl⟩
      | true =>
       obtain ⟨hE, hE15⟩ := hok.1 rfl
       have hEb : -1000000000000000 ≤ E ∧ E ≤ 1000000000000000 := by
        have hD15 : ((FP.dnum 0 (nexp s x) N : Nat) : Int) < 1000000000000000 := by
         have h15 : (10 : Nat) ^ 15 = 1000000000000000 := by decide
         rw [h15] at hE15
         omega
        rcases HE.out with e | e <;> rw [e] at hE <;> omega
       have HEE := az2 hE hEb
       obtain ⟨hE0, hE1⟩ := hEb
       have CB := az (CBARE.out (pw + E) (by omega) (by omega))
       clear hok hE hE15
       go_wp2_with (go_at_call 33; (with_reducible refine CB.out.mono ?_); rintro e w6 ⟨rfl, ds, P, g2, rfl, hD, hlead, hval, hP⟩)
       have hF := blk_set (blk_set (blk_set (blk_far (blk_far HBW.out.2.1 (p := ⟨w1.heap.size, 1, none⟩) hne (.string ds)) (p := ⟨w1.heap.size, 2, none⟩) hne (.int .i64 P)) 0 (.bool false)) 1 (.string ds)) 2 (.int .i64 P)
       have d0 := blk_cell hF 0
       have d1 := blk_cell hF 1
       have d2 := blk_cell hF 2
       refine bodyPost_ret (v := .tuple #[.agg #[.bool false, .string ds, .int .i64 P], .bool true]) (by simp [results, Tryz.results18, go_sem, d0, d1, d2]) rfl ?_
       exact FIN.out ds P g2 E _ (hD.mono (by have := HCS.out; omega)) hlead hval hP HEE.out.1 HEE.out.2 (((((HBW.out.1.setCell HLE.out _).setCell HLE.out _).setCell (Nat.le_refl _) _).setCell (Nat.le_refl _) _).setCell (Nat.le_refl _) _)
theorem value_calls {s : ByteArray} {neg : Bool} {W F : Nat} {x esg : Int} {N : Nat} (h : Num0 s neg W F x esg N) (hs : s.size ≤ 65536) (w : World) : Calls Tryz.prog 18 #[.string s] w (ValPost w s.size neg (NumX s neg W F x esg N)) := by
 cases neg with
 | true => exact value_true h hs w
 | false => exact value_false h hs w
def OkPost (w : World) (neg : Bool) (X : Rat) (e : Ending) (w' : World) : Prop :=
 Below w.heap.size w w' ∧ ((∃ f, e = .returned (.tuple #[.float .f64 f, .bool false])) ∨ ∃ r, FP.Near X r ∧ e = .returned (.tuple #[.float .f64 (FP.wordOf neg r), .bool true]))
set_option maxRecDepth 100000 in
theorem nearestTo_calls {s : ByteArray} {neg : Bool} {W F : Nat} {x esg : Int} {N : Nat} (h : Num0 s neg W F x esg N) (hs : s.size ≤ 800) (w : World) : Calls Tryz.prog 12 #[.string s] w (OkPost w neg (NumX s neg W F x esg N)) := by
 obtain ⟨X, hX⟩ : ∃ X, X = NumX s neg W F x esg N := ⟨_, rfl⟩
 have CV := value_calls h (by omega) w
 rw [← hX] at CV ⊢
 have CV := az CV
 refine byR fun R hR => ?_
 have HR := az hR
 have HSZ := az hs
 have t8 : decide ((800 : Int) < (s.size : Int)) = false := dF
 have t8n : decide (800 < s.size) = false := dF
 clear hR h hs hX
 go_enter Tryz.func12, Tryz.ntmps12
 go_wp2_with fail
 refine CV.out.mono ?_
 rintro e w1 ⟨hbel, rfl | ⟨ds, g, p, rfl, hD, hlead, hp, hval⟩⟩
 ·go_wp2_with fail
  rw [HR.out]
  exact ⟨hbel.alloc hbel.size _, .inl ⟨_, rfl⟩⟩
 ·have CN := az (fun w2 => near_calls (⟨Nat.le_trans hD.sz HSZ.out, hD.bytes, hD.kinds⟩ : Digs ds g) hlead p hp neg w2)
  have HB := az2 hbel hval
  have hz := hbel.size
  clear hbel hval hD hlead hp
  go_wp2_with (go_at_call 19; refine (CN.out _).mono ?_; rintro e w3 ⟨r, hn, rfl, hbel3⟩)
  rw [HR.out]
  rw [HB.out.2] at hn
  have b3 := hbel3.mono (show w.heap.size ≤ _ by simp; omega)
  exact ⟨(HB.out.1.alloc hz _).trans b3, .inr ⟨r, hn, rfl⟩⟩
end Go.Proofs.YtbimfhaokgigkaaGreatDoor
