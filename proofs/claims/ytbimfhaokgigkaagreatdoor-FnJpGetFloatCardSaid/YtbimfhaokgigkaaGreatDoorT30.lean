/- Walks of functions of FnJpGetFloat (X11, X12); conditions stand ahead of each theorem. -/
import Derived.Test.YtbimfhaokgigkaaGreatDoorT29
set_option maxRecDepth 100000
set_option maxHeartbeats 4000000
namespace Go.Proofs.YtbimfhaokgigkaaGreatDoor
open Go.RowKit Go.Proofs.YtbimfhaokgigkaaGreatDoorW.PrintWords Go.Proofs.YtbimfhaokgigkaaGreatDoorW.PrintLast
namespace JS
def Lst (w : World) (A : Option Addr) (xs : List Nat) : Prop := xs.length ≤ 70000 ∧ (0 < xs.length → ∃ g o, A = some ⟨g, o, none⟩ ∧ g < w.heap.size ∧ ∀ k x : Nat, xs[k]? = some x → w.cell? ⟨g, o + k, none⟩ = some (Value.int .u8 (x : Int)))
theorem idx_zero (ad : Addr) (c : Nat) (w : World) : Calls Tryz.prog 78 #[.slice (some ad) 0 c, .int .u8 92] w (fun e w' => e = .returned (.int .i64 (-1)) ∧ w' = w) :=
 Tryz.bytes_IndexByte_at ad 0 c [] 92 w rfl (fun i hi => absurd hi (by omega))
def UnPost (w : World) (gb : Nat) (tb : TypeId) (xs : List Nat) (e : Ending) (w' : World) : Prop :=
 ∃ (A : Option Addr) (c : Nat), e = .returned (.tuple #[.slice A xs.length c, .nilIface]) ∧ xs.length ≤ c ∧ Lst w' A xs ∧ w.grownBy w' (some gb) ∧ BufAt w' gb tb 64 []
def UR (w0 w : World) (s : ByteArray) (lo z n gd od gb : Nat) (t : TypeId) (L : Nat) (W : World) (p ni cin : Nat) (A : Option Addr) (q nb cb : Nat) : Prop :=
 p + ni = n ∧ 0 < ni ∧ bn s (lo + p) = 92 ∧ Inner s (lo + p) z ∧ A = some ⟨gd, od + p, none⟩ ∧ ni ≤ cin ∧ nb ≤ cb ∧ q + nb = n ∧ ni ≤ nb ∧ w.grownBy W (some gb) ∧ Below w0.heap.size w0 W ∧ ∃ ws, q = ws.length ∧ ws ++ de s z (lo + p) = de s z lo ∧ BufAt W gb t L ws
theorem below_of_grown {w0 w1 w2 : World} {gb : Nat} (h : Below w0.heap.size w0 w1) (g : w1.grownBy w2 (some gb)) (hg : w0.heap.size ≤ gb) : Below w0.heap.size w0 w2 :=
 h.trans ⟨g.os, g.tape, g.output, g.size, fun k hk => g.block k (Nat.lt_of_lt_of_le hk h.size) (by intro e; cases e; omega)⟩
theorem EscTab.below {w w' : World} (h : EscTab w) (hb : Below w.heap.size w w') : EscTab w' := fun c hc => (hb.cell (World.block_lt_of_cell? _ _ (h c hc))).trans (h c hc)
theorem BufAt.nil {w : World} {gb L : Nat} {t : TypeId} {ws : List Nat} (h : BufAt w gb t L ws) : BufAt w gb t L [] := by
 obtain ⟨cs, h1, h2, h3, h4, h5⟩ := h
 exact ⟨cs, h1, h2, Nat.zero_le _, fun k x hk => by simp at hk, h5⟩
theorem de_front {s : ByteArray} {z : Nat} : ∀ (j a : Nat), a + j ≤ z → (∀ k, k < j → bn s (a + k) ≠ 92) → de s z a = raw s a j ++ de s z (a + j)
 | 0, a, _, _ => by simp [raw]
 | j + 1, a, h, hk => by
  rw [de_plain (by omega) (by have := hk 0 (by omega); simpa using this), de_front j (a + 1) (by omega) (fun k h1 => by rw [show a + 1 + k = a + (k + 1) by omega]; exact hk (k + 1) (by omega))]
  have e : raw s a (j + 1) = bn s a :: raw s (a + 1) j := by
   unfold raw
   rw [List.range_succ_eq_map, List.map_cons, List.map_map]
   congr 1
   apply List.map_congr_left
   intro i _
   show bn s (a + (i + 1)) = bn s (a + 1 + i)
   congr 1; omega
  rw [e, show a + 1 + j = a + (j + 1) by omega]; rfl
theorem Inner.front {s : ByteArray} {z : Nat} : ∀ (j a : Nat), Inner s a z → a + j ≤ z → (∀ k, k < j → bn s (a + k) ≠ 92) → Inner s (a + j) z
 | 0, a, h, _, _ => h
 | j + 1, a, h, hz, hk => by
  have h1 : Inner s (a + 1) z := by
   rcases Inner.unit h (by omega) with ⟨_, _, _, q⟩ | ⟨q, _⟩ | ⟨q, _⟩
   ·exact q
   ·exact absurd q (by have := hk 0 (by omega); simpa using this)
   ·exact absurd q (by have := hk 0 (by omega); simpa using this)
  have := Inner.front j (a + 1) h1 (by omega) (fun k h2 => by rw [show a + 1 + k = a + (k + 1) by omega]; exact hk (k + 1) (by omega))
  rwa [show a + 1 + j = a + (j + 1) by omega] at this
theorem Dat.lst {w : World} {s : ByteArray} {lo n : Nat} {A : Option Addr} (h : Dat w s lo n A) : Lst w A (raw s lo n) :=
 ⟨by rw [raw_len]; have := h.1; have := h.2.1; omega, fun hn => by
  rw [raw_len] at hn
  obtain ⟨g, o, e, hg, hc⟩ := h.2.2 hn
  refine ⟨g, o, e, hg, fun k x hk => ?_⟩
  have hkn : k < n := by rw [← raw_len s lo n]; exact (List.getElem?_eq_some_iff.1 hk).1
  rw [raw_at _ _ _ _ hkn] at hk
  rw [hc k hkn, Option.some.inj hk]⟩
theorem BufAt.lst {w : World} {gb L : Nat} {t : TypeId} {ws : List Nat} (h : BufAt w gb t L ws) (hL : L ≤ 70000) : Lst w (some ⟨gb, 0, none⟩) ws := by
 have hlt := h.lt
 obtain ⟨cs, h1, h2, h3, h4, h5⟩ := h
 exact ⟨by omega, fun _ => ⟨gb, 0, rfl, hlt, fun k x hk => by rw [Nat.zero_add]; exact (blk_cell h1 k).trans (h4 k x hk)⟩⟩
theorem unesc_calls {w0 w : World} {s : ByteArray} {lo n cp z gb : Nat} {tb : TypeId} {ad : Addr} (h : Dat w0 s lo n (some ad)) (hn : n ≤ cp) (hz : z = lo + n) (hi : Inner s lo z) (hT : EscTab w0) (hw : Below w0.heap.size w0 w) (hgb : w0.heap.size ≤ gb) (hB : BufAt w gb tb 64 []) :
  Calls Tryz.prog 65 #[.agg #[.bool false, .bool false, .int .i64 0], .slice (some ad) n cp, .slice (some ⟨gb, 0, none⟩) 64 64] w (UnPost w gb tb (de s z lo)) := by
 refine byR fun R hR => ?_
 have HR := az hR
 have hsz : (n : Int) ≤ 65536 := by have := h.1; have := h.2.1; omega
 have hD := (h.below hw).alloc (.cells #[.bool false, .bool false, .int .i64 0] 93)
 obtain ⟨r, CI, hr⟩ := idx_calls (c := cp) hD
 have CI := az CI
 rcases hr with ⟨rfl, hno⟩ | ⟨j, rfl, hj, hj92, hjn⟩
 ·have e : de s z lo = raw s lo n := by
   rw [de_front n lo (by omega) hno, de_end (by omega), List.append_nil]
  have HE := az4 e hD hn (BufAt.keep (w' := w.alloc (.cells #[.bool false, .bool false, .int .i64 0] 93)) hB (heap_alloc_old _ _ hB.lt))
  clear hR h hn hz hi hT hw hgb hB hD hno e
  go_enter Tryz.func65, Tryz.ntmps65
  go_wp2_with (go_at_call 78; (with_reducible refine CI.out.mono ?_); rintro e w1 ⟨rfl, rfl⟩)
  rw [HR.out, HE.out.1]
  exact ⟨some ad, cp, by rw [raw_len]; rfl, by rw [raw_len]; exact HE.out.2.2.1, HE.out.2.1.lst, below_grown ((Below.refl _ _).alloc (Nat.le_refl _) _) (grown_refl _ _), HE.out.2.2.2⟩
 ·obtain ⟨gd, od, e, _⟩ := hD.at_ hj
  obtain rfl := Option.some.inj e
  have t1 : ((j : Int) == -1) = false := beqF
  have HD := az8 h hn hz hi hT hw hgb hB
  have HJ := az4 hj hj92 hjn hD
  have hjn6 : (j : Int) < (n : Int) := by omega
  have hnc : (n : Int) ≤ (cp : Int) := by omega
  have hjc : ¬ cp = j := by omega
  have hmk := run_make_row' (P := Tryz.prog) 43 5 (.int .u8 0) 1 Tryz.underlying43 (by kernel_rfl) rfl .i64 .i64 n (by omega) (by omega)
  clear hR h hn hz hi hT hw hgb hB hD hj92 hjn hj e
  go_enter Tryz.func65, Tryz.ntmps65
  go_upto_if 22 with (go_at_call 78; (with_reducible refine CI.out.mono ?_); rintro e w1 ⟨rfl, rfl⟩)
  go_cut [2] (fun v2 w' => ∃ (gb' capo L : Nat) (tb' : TypeId), v2 = .slice (some ⟨gb', 0, none⟩) n capo ∧ Aside0 (n ≤ capo ∧ n ≤ L ∧ L ≤ 70000 ∧ BufAt w' gb' tb' L [] ∧ Below (w.heap.size + 1) (w.alloc (.cells #[.bool false, .bool false, .int .i64 0] 93)) w' ∧ ((gb' = gb ∧ tb' = tb ∧ L = 64) ∨ gb' = w.heap.size + 1)))
  case first =>
   by_cases h64 : 64 < n
   ·have h64i : (64 : Int) < (n : Int) := by omega
    clear h64
    go_wp2_with fail
    go_meet
    exact ⟨_, _, n, _, rfl, ⟨Nat.le_refl _, Nat.le_refl _, by omega, ⟨_, by rw [show w.heap.size + 1 = (w.alloc (.cells #[.bool false, .bool false, .int .i64 0] 93)).heap.size by simp]; exact heap_alloc_new _ _, size_madeCells _ _, Nat.zero_le _, fun k x hk => by simp at hk, fun k hk => ⟨0, by simp [madeCells, hk, Nat.mod_one]⟩⟩, (Below.refl _ _).alloc (by simp) _, .inr rfl⟩⟩
   ·have h64i : (n : Int) ≤ 64 := by omega
    clear h64
    go_wp2_with fail
    go_meet
    refine ⟨gb, 64, 64, tb, rfl, ⟨by omega, by omega, by omega, HD.out.2.2.2.2.2.2.2.keep (heap_alloc_old _ _ HD.out.2.2.2.2.2.2.2.lt), Below.refl _ _, .inl ⟨rfl, rfl, rfl⟩⟩⟩
  case rest =>
   obtain ⟨gb', capo, L, tb', rfl, hc⟩ := hcut
   obtain ⟨q1, q2, q3, q4, q5, q6⟩ := hc.out
   have hw1 : Below w0.heap.size w0 wc := HD.out.2.2.2.2.2.1.trans ((below1 _ q5).mono HD.out.2.2.2.2.2.1.size)
   have hD0 : Dat wc s lo n (some ⟨gd, od, none⟩) := HJ.out.2.2.2.below (q5.mono (by simp))
   have hbx := box_at q5
   have hne : gb' ≠ w.heap.size := by
    rcases q6 with ⟨e, _⟩ | e
    ·have := HD.out.2.2.2.2.2.2.2.lt; omega
    ·omega
   have hgw : w0.heap.size ≤ gb' := by
    rcases q6 with ⟨e, _⟩ | e
    ·rw [e]; exact HD.out.2.2.2.2.2.2.1
    ·have := HD.out.2.2.2.2.2.1.size; omega
   have HG : Aside0 (∀ W D c, wc.grownBy W (some gb') → BufAt W gb' tb' L D → c ≤ capo → c = D.length → D = de s z lo → UnPost w gb tb (de s z lo) (.returned (.tuple #[.slice (some ⟨gb', 0, none⟩) c capo, .nilIface])) W) := ⟨fun W D c hg hB hcap hc hD => by
    subst hc hD
    have hbl := hB.lst q3
    refine ⟨_, _, rfl, hcap, hbl, ?_⟩
    have h1 := below1 _ q5
    rcases q6 with ⟨e1, e2, e3⟩ | e
    ·subst e1 e2 e3
     exact ⟨below_grown h1 hg, hB.nil⟩
    ·have hlt := HD.out.2.2.2.2.2.2.2.lt
     exact ⟨⟨hg.os.trans h1.os, hg.tape.trans h1.tape, hg.output.trans h1.output, Nat.le_trans h1.size hg.size, fun k hk hne => (hg.block k (Nat.lt_of_lt_of_le hk h1.size) (by intro x; cases x; omega)).trans (h1.block k hk)⟩,
      HD.out.2.2.2.2.2.2.2.keep ((hg.block gb (Nat.lt_of_lt_of_le hlt h1.size) (by intro x; cases x; omega)).trans (h1.block gb hlt))⟩⟩
   have HX := az7 q1 q2 q3 hw1 hbx hne hgw
   have HB0 := az2 hD0 q4
   have hjo : (j : Int) ≤ (capo : Int) := by omega
   have hno : (n : Int) ≤ (capo : Int) := by omega
   have hjo2 : ¬ capo = j := by omega
   clear q1 q2 q3 q4 q5 q6 hw1 hD0 hbx hne hgw hmk
   go_wp2_with ((with_reducible refine wpList_copy_buf (o := ⟨some 34, _, _, _, _, _⟩) (dp := some ⟨gb', 0, none⟩) (dLen := n) (dCap := capo) (sCap := cp) ?_ (.tmp 30) (.tmp 33) ?_ ?_ ?_ HB0.out.2 (q := 0) ?_ ?_ ?_ ?_ (HB0.out.1.front (m := j) (Nat.le_of_lt HJ.out.1)) ?_); rfl; rfl; rfl; rfl; rfl; exact fun _ => rfl; exact Nat.le_trans (Nat.le_of_lt HJ.out.1) (Nat.le_refl _); (have := HX.out.2.1; have := HJ.out.1; omega); intro w2 hB2 hg2)
   have hU : UR w0 wc s lo z n gd od gb' tb' L w2 j (n - j) (cp - j) (some ⟨gd, od + j, none⟩) j (n - j) (capo - j) := by
    have hbz := HD.out
    have e1 : de s z lo = raw s lo j ++ de s z (lo + j) := de_front j lo (by have := HJ.out.1; omega) HJ.out.2.2.1
    have hb2 := below_of_grown HX.out.2.2.2.1 hg2.out HX.out.2.2.2.2.2.2
    exact ⟨by have := HJ.out.1; omega, by have := HJ.out.1; omega, HJ.out.2.1, hbz.2.2.2.1.front j lo (by have := HJ.out.1; omega) HJ.out.2.2.1, rfl, by omega, by omega, by have := HJ.out.1; omega, Nat.le_refl _, hg2.out, hb2, raw s lo j, (raw_len _ _ _).symm, e1.symm, by simpa using hB2.out⟩
   have HU := az hU
   clear hU
   go_loopg [1, 9] n (fun q v1 v9 w' => ∃ (p ni cin : Nat) (A1 : Option Addr) (qq nb cb : Nat), v1 = .slice A1 ni cin ∧ v9 = .slice (some ⟨gb', qq, none⟩) nb cb ∧ Aside0 (ni ≤ q ∧ UR w0 wc s lo z n gd od gb' tb' L w' p ni cin A1 qq nb cb))
   case atStart => exact ⟨_, _, _, _, _, _, _, rfl, rfl, ⟨by omega, HU.out⟩⟩
   case round =>
    obtain ⟨p, ni, cin, A1, qq, nb, cb, rfl, rfl, hu⟩ := hrel
    obtain ⟨q0, u1, u2, u3, u4, rfl, u6, u7, u8, u9, u10, u11, ws, u12, u13, u14⟩ := hu.out
    have u5 := (HD.out.1.below u11).cutS (k := p) (by omega)
    rw [show n - p = ni by omega] at u5
    have hbx : wr.heap[w.heap.size]? = some (.cells #[.bool false, .bool false, .int .i64 0] 93 (0, 0)) := (u10.block _ (blk_lt HX.out.2.2.2.2.1) (by have := HX.out.2.2.2.2.2.1; intro e; cases e; exact this rfl)).trans HX.out.2.2.2.2.1
    have hb0 := (blk_cell hbx 0).trans rfl
    have hb1 := (blk_cell hbx 1).trans rfl
    have hb2 := (blk_cell hbx 2).trans rfl
    have CO := one_calls (cb := cb) u5 (by have := HD.out.2.2.1; omega) u6 u4 (by have := HD.out.2.2.1; omega) u3 (HD.out.2.2.2.2.1.below u11) u14 (by rw [← u12, u8]; exact HX.out.2.1) u9 HX.out.2.2.1
    rw [← u12] at CO
    have CO := az CO
    have HS := az (And.intro q0 (And.intro u1 (And.intro u2 (And.intro u6 (And.intro u7 (And.intro u8 (And.intro u9 (And.intro u10 (And.intro u11 (And.intro u12 u13))))))))))
    have c6 : (cin : Int) ≥ (ni : Int) := by omega
    have n6 : (ni : Int) ≤ 65536 := by omega
    clear q0 u1 u2 u3 u4 u5 u6 u7 u8 u9 u10 u11 u12 u13 u14 hbx
    go_wp2_with fail
    refine CO.out.mono ?_
    rintro e w3 ⟨i, ds, rfl, p1, p2, p3, p4, p5, p6, p7⟩
    obtain ⟨k, hk⟩ : ∃ k, k = ds.length := ⟨_, rfl⟩
    rw [← hk]
    have ti : ((i : Int) == -1) = false := beqF
    obtain ⟨q0, u1, u2, u6, u7, u8, u9, u10, u11, u12, u13⟩ := HS.out
    have hb3 := below_of_grown u11 p7 HX.out.2.2.2.2.2.2
    have hg3 := u10.trans p7
    obtain ⟨m, rfl⟩ : ∃ m, ni = i + m := ⟨ni - i, by have := HD.out.2.2.1; omega⟩
    obtain ⟨bb, rfl⟩ : ∃ bb, nb = k + (m + bb) := ⟨nb - k - m, by omega⟩
    obtain ⟨ci, rfl⟩ : ∃ ci, cin = i + ci := ⟨cin - i, by omega⟩
    obtain ⟨cc, rfl⟩ : ∃ cc, cb = k + cc := ⟨cb - k, by omega⟩
    have hlen : (ws ++ ds).length = qq + k := by rw [List.length_append, ← u12, ← hk]
    have htot : ws ++ ds ++ de s z (lo + p + i) = de s z lo := by rw [List.append_assoc, ← p5]; exact u13
    have HT := az (And.intro q0 (And.intro u1 (And.intro hlen (And.intro htot (And.intro p6 (And.intro p4 (And.intro hb3 (And.intro hg3 (And.intro u8 p1)))))))))
    have i6 : (i : Int) ≤ 65536 := by omega
    have k6 : (k : Int) ≤ 65536 := by omega
    have m6 : (m : Int) ≤ 65536 := by omega
    have bb6 : (bb : Int) ≤ 65536 := by omega
    have ci6 : (m : Int) ≤ (ci : Int) := by omega
    have cc6 : (m : Int) + (bb : Int) ≤ (cc : Int) := by omega
    have nbb : (bb : Int) ≤ (n : Int) := by omega
    clear p1 p2 p3 p4 p5 p6 p7 q0 u1 u2 u6 u7 u8 u9 u10 u11 u12 u13 hb3 hg3 hlen htot hk HS CO hb0 hb1 hb2
    by_cases hm : m = 0
    ·subst hm
     have hz1 : Aside0 ((Tryz.prog.info? 5).map (·.size) = some 1) := ⟨by kernel_rfl⟩
     have hz0 := az (fun ad c w => idx_zero ad c w)
     have hcs : (ci = 0 ∨ ¬ ci = 0) ∧ (cc = 0 ∨ ¬ cc = 0) := ⟨Decidable.em _, Decidable.em _⟩
     rcases hcs with ⟨rfl | x1, rfl | x2⟩
     all_goals
      go_wp2_with (first
       | (go_at_call 78; (with_reducible refine (hz0.out _ _ _).mono ?_); rintro e w4 ⟨rfl, rfl⟩)
       | ((with_reducible refine wpList_copy_nothing (o := ⟨some 63, _, _, _, _, _⟩) ?_ (.tmp 61) (.tmp 62) 43 43 ?_ 5 Tryz.underlying43 hz1.out (some ⟨gb', qq, none⟩) (some ⟨gd, od + p, none⟩) bb 0 0 0 ?_ ?_ ?_ ?_); rfl; rfl; rfl; rfl; exact Nat.zero_min _)
       | ((with_reducible refine wpList_copy_nothing (o := ⟨some 63, _, _, _, _, _⟩) ?_ (.tmp 61) (.tmp 62) 43 43 ?_ 5 Tryz.underlying43 hz1.out (some ⟨gb', qq, none⟩) (some ⟨gd, od + p + i, none⟩) bb 0 0 ci ?_ ?_ ?_ ?_); rfl; rfl; rfl; rfl; exact Nat.zero_min _)
       | ((with_reducible refine wpList_copy_nothing (o := ⟨some 63, _, _, _, _, _⟩) ?_ (.tmp 61) (.tmp 62) 43 43 ?_ 5 Tryz.underlying43 hz1.out (some ⟨gb', qq + k, none⟩) (some ⟨gd, od + p, none⟩) bb cc 0 0 ?_ ?_ ?_ ?_); rfl; rfl; rfl; rfl; exact Nat.zero_min _)
       | ((with_reducible refine wpList_copy_nothing (o := ⟨some 63, _, _, _, _, _⟩) ?_ (.tmp 61) (.tmp 62) 43 43 ?_ 5 Tryz.underlying43 hz1.out (some ⟨gb', qq + k, none⟩) (some ⟨gd, od + p + i, none⟩) bb cc 0 ci ?_ ?_ ?_ ?_); rfl; rfl; rfl; rfl; exact Nat.zero_min _))
      rw [HR.out]
      obtain ⟨w1, w2, w3, w4, w5', w6, w7, w8, w9, w10⟩ := HT.out
      exact HG.out _ _ _ w8 w5' (by have := HX.out.1; omega) (by rw [w3]; omega) (by have := HD.out.2.2.1; rw [← w4, de_end (by omega), List.append_nil])
    ·have hD3 : Dat w3 s (lo + p + i) m (some ⟨gd, od + p + i, none⟩) := by
      have h1 := (HD.out.1.below HT.out.2.2.2.2.2.2.1).cutS (k := p + i) (by have := HT.out.2.1; omega)
      rw [show n - (p + i) = m by have := HT.out.2.1; omega, ← Nat.add_assoc, ← Nat.add_assoc] at h1
      exact h1
     obtain ⟨r, CI2, hr⟩ := idx_calls (c := ci) hD3
     have CI2 := az CI2
     have x1 : ¬ ci = 0 := by omega
     have x2 : ¬ cc = 0 := by omega
     rcases hr with ⟨rfl, hno⟩ | ⟨j2, rfl, hj2, hj92, hjn2⟩
     ·have HN := az2 hno hD3
      clear hno hD3
      all_goals
       go_wp2_with (first
        | (go_at_call 78; (with_reducible refine CI2.out.mono ?_); rintro e w4 ⟨rfl, rfl⟩)
        | ((with_reducible refine wpList_copy_buf (o := ⟨some 63, _, _, _, _, _⟩) (dp := some ⟨gb', qq + k, none⟩) (dLen := m + bb) (dCap := cc) (sCap := ci) ?_ (.tmp 61) (.tmp 62) ?_ ?_ ?_ HT.out.2.2.2.2.1 (q := qq + k) ?_ ?_ ?_ ?_ HN.out.2 ?_); rfl; rfl; rfl; rfl; exact HT.out.2.2.1.symm; exact fun _ => rfl; exact Nat.le_add_right _ _; (have := HT.out.2.2.2.2.2.2.2.2.1; have := HX.out.2.1; omega); intro w5 hB5 hg5))
      all_goals
       rw [HR.out]
       obtain ⟨w1, w2, w3, w4, w5', w6, w7, w8, w9, w10⟩ := HT.out
       exact HG.out _ _ _ (w8.trans hg5.out) hB5.out (by have := HX.out.1; omega) (by rw [List.length_append, w3, raw_len]; omega) (by have := HD.out.2.2.1; rw [← w4, de_front m (lo + p + i) (by omega) HN.out.1, de_end (by omega), List.append_nil])
     ·have x3 : ¬ ci = j2 := by omega
      have x4 : ¬ cc = j2 := by omega
      have j6 : (j2 : Int) < (m : Int) := by omega
      have tj : ((j2 : Int) == -1) = false := beqF
      have HN := az4 hj2 hj92 hjn2 hD3
      clear hj2 hj92 hjn2 hD3
      go_wp2_with (first
       | (go_at_call 78; (with_reducible refine CI2.out.mono ?_); rintro e w4 ⟨rfl, rfl⟩)
       | ((with_reducible refine wpList_copy_buf (o := ⟨some 72, _, _, _, _, _⟩) (dp := some ⟨gb', qq + k, none⟩) (dLen := m + bb) (dCap := cc) (sCap := ci) ?_ (.tmp 68) (.tmp 71) ?_ ?_ ?_ HT.out.2.2.2.2.1 (q := qq + k) ?_ ?_ ?_ ?_ (HN.out.2.2.2.front (Nat.le_of_lt HN.out.1)) ?_); rfl; rfl; rfl; rfl; exact HT.out.2.2.1.symm; exact fun _ => rfl; exact Nat.le_trans (Nat.le_of_lt HN.out.1) (Nat.le_add_right _ _); (have := HT.out.2.2.2.2.2.2.2.2.1; have := HX.out.2.1; have := HN.out.1; omega); intro w5 hB5 hg5))
      obtain ⟨w1, w2, w3, w4, w5', w6, w7, w8, w9, w10⟩ := HT.out
      obtain ⟨n1, n2, n3, n4⟩ := HN.out
      have hz := HD.out.2.2.1
      have hb5 := below_of_grown w7 hg5.out HX.out.2.2.2.2.2.2
      go_roundg (m - j2)
      case measure => omega
      case rel => exact ⟨p + i + j2, m - j2, ci - j2, _, qq + k + j2, m + bb - j2, cc - j2, rfl, rfl, ⟨Nat.le_refl _, by omega, by omega, by rw [← n2]; congr 1; omega, by have := w6.front j2 (lo + p + i) (by omega) n3; rwa [show lo + p + i + j2 = lo + (p + i + j2) by omega] at this, by congr 2; omega, by omega, by omega, by omega, by omega, w8.trans hg5.out, hb5, _, by rw [List.length_append, w3, raw_len], by rw [← w4, de_front j2 (lo + p + i) (by omega) n3, List.append_assoc, show lo + p + i + j2 = lo + (p + i + j2) by omega], hB5.out⟩⟩
structure Fr (B : Nat) (w w' : World) : Prop where
 os : w'.os = w.os
 tape : w'.tape = w.tape
 output : w'.output = w.output
 size : w.heap.size ≤ w'.heap.size
 block : ∀ k, k < w.heap.size → k ≠ B + 1 → k ≠ B + 2 → k ≠ B + 3 → w'.heap[k]? = w.heap[k]?
theorem Fr.refl (B : Nat) (w : World) : Fr B w w := ⟨rfl, rfl, rfl, Nat.le_refl _, fun _ _ _ _ _ => rfl⟩
theorem Fr.trans {B : Nat} {a b c : World} (h : Fr B a b) (k : Fr B b c) : Fr B a c :=
 ⟨k.os.trans h.os, k.tape.trans h.tape, k.output.trans h.output, Nat.le_trans h.size k.size, fun i hi h1 h2 h3 => (k.block i (Nat.lt_of_lt_of_le hi h.size) h1 h2 h3).trans (h.block i hi h1 h2 h3)⟩
theorem Fr.of {B : Nat} {w w' : World} (h : Below w.heap.size w w') : Fr B w w' := ⟨h.os, h.tape, h.output, h.size, fun k hk _ _ _ => h.block k hk⟩
theorem Fr.set {B : Nat} {w w' : World} (h : Fr B w w') {g i : Nat} {v : Value} (hg : g = B + 1 ∨ g = B + 2 ∨ g = B + 3) : Fr B w (w'.setCell ⟨g, i, none⟩ v) :=
 ⟨h.os, h.tape, h.output, by simpa [World.setCell] using h.size, fun k hk h1 h2 h3 => (Below.heap_setCell w' ⟨g, i, none⟩ v k (fun e => by have : k = g := e; omega)).trans (h.block k hk h1 h2 h3)⟩
theorem blk_one {w : World} {g : Nat} {t : TypeId} {u : Value} (h : w.heap[g]? = some (.cells #[u] t (0, 0))) (v : Value) : (w.setCell ⟨g, 0, none⟩ v).heap[g]? = some (.cells #[v] t (0, 0)) := blk_set h 0 v
structure CV (w : World) (B D : Nat) (idx c : Int) (vf : Value) (vo ci : Int) (dv : Value) : Prop where
 idx : w.heap[B]? = some (.cells #[.int .i64 idx] 3 (0, 0))
 cur : w.heap[B + 1]? = some (.cells #[.int .i64 c] 3 (0, 0))
 vf : w.heap[B + 2]? = some (.cells #[vf] 43 (0, 0))
 vo : w.heap[B + 3]? = some (.cells #[.int .i64 vo] 3 (0, 0))
 ci : w.heap[B + 4]? = some (.cells #[.int .i64 ci] 3 (0, 0))
 dat : w.heap[D]? = some (.cells #[dv] 43 (0, 0))
 far : D < B
theorem CV.below {w w' : World} {B D : Nat} {idx c : Int} {vf : Value} {vo ci : Int} {dv : Value} (h : CV w B D idx c vf vo ci dv) (hb : Below w.heap.size w w') : CV w' B D idx c vf vo ci dv :=
 ⟨blk_below h.idx hb, blk_below h.cur hb, blk_below h.vf hb, blk_below h.vo hb, blk_below h.ci hb, blk_below h.dat hb, h.far⟩
def ClPost (w : World) (B D : Nat) (idx c : Int) (vf : Value) (vo ci : Int) (dv : Value) (e : Ending) (w' : World) : Prop :=
 e = .returned (.tuple #[]) ∧ CV w' B D idx c vf vo ci dv ∧ Fr B w w'
theorem closure_no {w : World} {B D : Nat} {idx c : Nat} {vf v : Value} {vo ci off ty : Int} {dv : Value} (h : CV w B D idx c vf vo ci dv) (hne : c ≠ idx) (hc : (c : Int) ≤ 65536) :
  Calls Tryz.prog 70 #[v, .int .i64 ty, .int .i64 off, .nilIface, .pointer (some ⟨B + 1, 0, none⟩), .pointer (some ⟨B, 0, none⟩), .pointer (some ⟨B + 2, 0, none⟩), .pointer (some ⟨B + 3, 0, none⟩), .pointer (some ⟨D, 0, none⟩), .pointer (some ⟨B + 4, 0, none⟩)] w
   (ClPost w B D idx ((c : Int) + 1) vf vo ci dv) := by
 refine byR fun R hR => ?_
 have HR := az hR
 have HV := az h
 have t1 : ((c : Int) == (idx : Int)) = false := beqF
 have t1n : (c == idx) = false := beqFn hne
 have c0 := (blk_cell h.idx 0).trans rfl
 have c1 := (blk_cell h.cur 0).trans rfl
 have f1 := blk_frozen h.cur 0
 clear hR h hne
 go_enter Tryz.func70, Tryz.ntmps70
 go_wp2_with fail
 go_end0
 rw [HR.out]
 obtain ⟨v1, v2, v3, v4, v5, v6, v7⟩ := HV.out
 exact ⟨rfl, ⟨blk_far v1 (show B ≠ B + 1 by omega) _, blk_one v2 _, blk_far v3 (show B + 2 ≠ B + 1 by omega) _, blk_far v4 (show B + 3 ≠ B + 1 by omega) _, blk_far v5 (show B + 4 ≠ B + 1 by omega) _, blk_far v6 (show D ≠ B + 1 by omega) _, v7⟩, (Fr.refl _ _).set (.inl rfl)⟩
theorem closure_yes {w : World} {B D : Nat} {c m cv : Nat} {vf : Value} {V : Option Addr} {vo ci ty off : Int} {dv : Value} (h : CV w B D c c vf vo ci dv) (ht : ty ≠ 1) (hc : (c : Int) ≤ 65536) :
  Calls Tryz.prog 70 #[.slice V m cv, .int .i64 ty, .int .i64 off, .nilIface, .pointer (some ⟨B + 1, 0, none⟩), .pointer (some ⟨B, 0, none⟩), .pointer (some ⟨B + 2, 0, none⟩), .pointer (some ⟨B + 3, 0, none⟩), .pointer (some ⟨D, 0, none⟩), .pointer (some ⟨B + 4, 0, none⟩)] w
   (ClPost w B D c ((c : Int) + 1) (.slice V m cv) off ci dv) := by
 refine byR fun R hR => ?_
 have HR := az hR
 have HV := az h
 have t2 : (ty == 1) = false := beqF ht
 have c0 := (blk_cell h.idx 0).trans rfl
 have c1 := (blk_cell h.cur 0).trans rfl
 have c2 := (blk_cell h.vf 0).trans rfl
 have c3 := (blk_cell h.vo 0).trans rfl
 have f1 := blk_frozen h.cur 0
 have f2 := blk_frozen h.vf 0
 have f3 := blk_frozen h.vo 0
 clear hR h ht
 go_enter Tryz.func70, Tryz.ntmps70
 go_wp2_with fail
 go_end0
 rw [HR.out]
 obtain ⟨v1, v2, v3, v4, v5, v6, v7⟩ := HV.out
 exact ⟨rfl, ⟨blk_far (blk_far (blk_far v1 (show B ≠ B + 2 by omega) _) (show B ≠ B + 3 by omega) _) (show B ≠ B + 1 by omega) _, blk_one (blk_far (blk_far v2 (show B + 1 ≠ B + 2 by omega) _) (show B + 1 ≠ B + 3 by omega) _) _,
  blk_far (blk_far (blk_one v3 _) (show B + 2 ≠ B + 3 by omega) _) (show B + 2 ≠ B + 1 by omega) _, blk_far (blk_one (blk_far v4 (show B + 3 ≠ B + 2 by omega) _) _) (show B + 3 ≠ B + 1 by omega) _,
  blk_far (blk_far (blk_far v5 (show B + 4 ≠ B + 2 by omega) _) (show B + 4 ≠ B + 3 by omega) _) (show B + 4 ≠ B + 1 by omega) _, blk_far (blk_far (blk_far v6 (show D ≠ B + 2 by omega) _) (show D ≠ B + 3 by omega) _) (show D ≠ B + 1 by omega) _, v7⟩,
  (((Fr.refl _ _).set (.inr (.inl rfl))).set (.inr (.inr rfl))).set (.inl rfl)⟩
theorem closure_str {w : World} {B D : Nat} {c m cv i p g o n cp : Nat} {vf : Value} {V : Option Addr} {vo off : Int} (h : CV w B D c c vf vo i (.slice (some ⟨g, o, none⟩) n cp)) (hoff : off = (p : Int) + 2) (hc : (c : Int) ≤ 65536) (hn : n ≤ cp) (hn6 : n ≤ 65536) (hf : i + p + m + 2 ≤ n) :
  Calls Tryz.prog 70 #[.slice V m cv, .int .i64 1, .int .i64 off, .nilIface, .pointer (some ⟨B + 1, 0, none⟩), .pointer (some ⟨B, 0, none⟩), .pointer (some ⟨B + 2, 0, none⟩), .pointer (some ⟨B + 3, 0, none⟩), .pointer (some ⟨D, 0, none⟩), .pointer (some ⟨B + 4, 0, none⟩)] w
   (ClPost w B D c ((c : Int) + 1) (.slice (some ⟨g, o + (i + p), none⟩) (m + 2) (cp - (i + p))) p i (.slice (some ⟨g, o, none⟩) n cp)) := by
 obtain ⟨R, hR⟩ : ∃ R : Ending → World → Prop, R = ClPost w B D c ((c : Int) + 1) (.slice (some ⟨g, o + (i + p), none⟩) (m + 2) (cp - (i + p))) p i (.slice (some ⟨g, o, none⟩) n cp) := ⟨_, rfl⟩
 subst hoff
 rw [← hR]
 have HR := az hR
 have HV := az h
 have c0 := (blk_cell h.idx 0).trans rfl
 have c1 := (blk_cell h.cur 0).trans rfl
 have c2 := (blk_cell h.vf 0).trans rfl
 have c3 := (blk_cell h.vo 0).trans rfl
 have c4 := (blk_cell h.ci 0).trans rfl
 have c5 := (blk_cell h.dat 0).trans rfl
 have f1 := blk_frozen h.cur 0
 have f2 := blk_frozen h.vf 0
 have f3 := blk_frozen h.vo 0
 have hD := h.far
 have d1 : D ≠ B + 1 := by omega
 have d2 : D ≠ B + 2 := by omega
 have d3 : D ≠ B + 3 := by omega
 have b1 : (i : Int) ≤ 65536 := by omega
 have b2 : (p : Int) ≤ 65536 := by omega
 have b3 : (m : Int) ≤ 65536 := by omega
 have b4 : (i : Int) + (p : Int) + (m : Int) + 2 ≤ (cp : Int) := by omega
 have b5 : ¬ cp = i + p := by omega
 clear hR h hn hn6 hf hD
 go_enter Tryz.func70, Tryz.ntmps70
 go_upto_region 4 with fail
 go_cut [0] (fun v0 w' => v0 = .slice V m cv ∧ Aside0 (CV w' B D c c (.slice V m cv) p i (.slice (some ⟨g, o, none⟩) n cp) ∧ Fr B w w'))
 case first =>
  go_wp2_with fail
  go_meet
  obtain ⟨v1, v2, v3, v4, v5, v6, v7⟩ := HV.out
  exact ⟨rfl, ⟨⟨blk_far (blk_far (blk_far v1 (show B ≠ B + 2 by omega) _) (show B ≠ B + 3 by omega) _) (show B ≠ B + 3 by omega) _, blk_far (blk_far (blk_far v2 (show B + 1 ≠ B + 2 by omega) _) (show B + 1 ≠ B + 3 by omega) _) (show B + 1 ≠ B + 3 by omega) _,
   blk_far (blk_far (blk_one v3 _) (show B + 2 ≠ B + 3 by omega) _) (show B + 2 ≠ B + 3 by omega) _, blk_one (blk_one (blk_far v4 (show B + 3 ≠ B + 2 by omega) _) _) _,
   blk_far (blk_far (blk_far v5 (show B + 4 ≠ B + 2 by omega) _) (show B + 4 ≠ B + 3 by omega) _) (show B + 4 ≠ B + 3 by omega) _, blk_far (blk_far (blk_far v6 d2 _) d3 _) d3 _, v7⟩, (((Fr.refl _ _).set (.inr (.inl rfl))).set (.inr (.inr rfl))).set (.inr (.inr rfl))⟩⟩
 case rest =>
  obtain ⟨rfl, hv⟩ := hcut
  obtain ⟨h, hf⟩ := hv.out
  clear c0 c1 c2 c3 c4 c5 f1 f2 f3 HV
  have c1 := (blk_cell h.cur 0).trans rfl
  have c2 := (blk_cell h.vf 0).trans rfl
  have c3 := (blk_cell h.vo 0).trans rfl
  have c4 := (blk_cell h.ci 0).trans rfl
  have c5 := (blk_cell h.dat 0).trans rfl
  have f1 := blk_frozen h.cur 0
  have f2 := blk_frozen h.vf 0
  clear h hf
  go_wp2_with fail
  go_end0
  rw [HR.out, show i + p + m + 2 - (i + p) = m + 2 by omega]
  obtain ⟨⟨v1, v2, v3, v4, v5, v6, v7⟩, hf⟩ := hv.out
  exact ⟨rfl, ⟨blk_far (blk_far v1 (show B ≠ B + 2 by omega) _) (show B ≠ B + 1 by omega) _, blk_one (blk_far v2 (show B + 1 ≠ B + 2 by omega) _) _, blk_far (blk_one v3 _) (show B + 2 ≠ B + 1 by omega) _,
   blk_far (blk_far v4 (show B + 3 ≠ B + 2 by omega) _) (show B + 3 ≠ B + 1 by omega) _, blk_far (blk_far v5 (show B + 4 ≠ B + 2 by omega) _) (show B + 4 ≠ B + 1 by omega) _, blk_far (blk_far v6 d2 _) d1 _, v7⟩, (hf.set (.inr (.inl rfl))).set (.inl rfl)⟩
end JS
end Go.Proofs.YtbimfhaokgigkaaGreatDoor
