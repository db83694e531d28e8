/- Walks of functions of FnJpGetFloat (X9, X10); conditions stand ahead of each theorem. -/
import Derived.Test.YtbimfhaokgigkaaGreatDoorT28
import Derived.Lib.IndexLaws
import Derived.Laws.CopyOwn
set_option maxRecDepth 100000
set_option maxHeartbeats 4000000
namespace Go.Proofs.YtbimfhaokgigkaaGreatDoor
open Go.RowKit Go.Proofs.YtbimfhaokgigkaaGreatDoorW.PrintWords Go.Proofs.YtbimfhaokgigkaaGreatDoorW.PrintLast
namespace JS
def EscTab (w : World) : Prop := ∀ c, short c → w.cell? ⟨14, c, none⟩ = some (.int .u8 (shortv c : Int))
def OnePost (w : World) (s : ByteArray) (a z gb : Nat) (t : TypeId) (L : Nat) (ws : List Nat) (e : Ending) (w' : World) : Prop :=
 ∃ (i : Nat) (ds : List Nat), e = .returned (.tuple #[.int .i64 (i : Int), .int .i64 (ds.length : Int)]) ∧ 2 ≤ i ∧ a + i ≤ z ∧ ds.length ≤ i ∧ Inner s (a + i) z ∧ de s z a = ds ++ de s z (a + i) ∧ BufAt w' gb t L (ws ++ ds) ∧ w.grownBy w' (some gb)
theorem utf8_rune {s : ByteArray} {a z : Nat} (h : unitAt s a z) : utf8 (rune s a z) = (if pairAt s a z then utf8 (65536 + (code s a - 55296) * 1024 + (code s (a + 6) - 56320)) else utf8 (code s a)) ∧ rune s a z < 1114112 ∧ ¬ (high (rune s a z) ∨ low (rune s a z)) := by
 have hc := code_lt h
 unfold rune
 by_cases hp : pairAt s a z
 ·rw [if_pos hp, if_pos hp]
  have h1 := hp.2.1
  have h2 := hp.2.2
  unfold high low at *
  exact ⟨rfl, by omega, by omega⟩
 ·rw [if_neg hp, if_neg hp]
  by_cases hs : high (code s a) ∨ low (code s a)
  ·rw [if_pos hs]
   refine ⟨?_, by omega, by unfold high low; omega⟩
   have : utf8 (code s a) = [239, 191, 189] := by
    unfold utf8
    have := hs
    unfold high low at this
    rw [if_neg (by omega), if_neg (by omega), if_pos hs]
   rw [this]; decide
  ·rw [if_neg hs]
   exact ⟨rfl, by omega, hs⟩
theorem one_calls {w : World} {s : ByteArray} {a z n cp gb L nb cb : Nat} {t : TypeId} {ws : List Nat} {A : Option Addr} (h : Dat w s a n A) (hz : a + n = z) (hn : n ≤ cp) (hi : Inner s a z) (haz : a < z) (h92 : bn s a = 92) (hT : EscTab w) (hB : BufAt w gb t L ws) (hL : ws.length + nb ≤ L) (hnb : n ≤ nb) (hL6 : L ≤ 70000) :
  Calls Tryz.prog 79 #[.agg #[.bool false, .bool false, .int .i64 0], .slice A n cp, .slice (some ⟨gb, ws.length, none⟩) nb cb] w (OnePost w s a z gb t L ws) := by
 refine byR fun R hR => ?_
 have HR := az hR
 have hsz : (n : Int) ≤ 65536 := by have := h.1; have := h.2.1; omega
 have hD := h.alloc (.cells #[.bool false, .bool false, .int .i64 0] 93)
 have hB1 : BufAt (w.alloc (.cells #[.bool false, .bool false, .int .i64 0] 93)) gb t L ws := hB.keep (heap_alloc_old _ _ hB.lt)
 obtain ⟨q, hq⟩ : ∃ q, q = ws.length := ⟨_, rfl⟩
 rw [← hq]
 have n2 : 2 ≤ n := by
  rcases Inner.de hi haz with ⟨x, _⟩ | ⟨_, _, _, x, _⟩ | ⟨x, _⟩ | ⟨x, _⟩
  ·exact absurd h92 x
  ·omega
  ·have := x.1; omega
  ·have := x.1; omega
 have m2 : decide ((n : Int) < 2) = false := dF
 have m2n : decide (n < 2) = false := dF
 have m0 : (0 : Int) < (n : Int) := by omega
 have m0n : 0 < n := by omega
 have m1 : (1 : Int) < (n : Int) := by omega
 have m1n : 1 < n := by omega
 obtain ⟨g, o, rfl, hg, hc⟩ := hD.2.2 m0n
 have c0 := hc 0 m0n
 have c1 := hc 1 m1n
 rw [Nat.add_zero, Nat.add_zero, h92] at c0
 obtain ⟨x1, hx1⟩ : ∃ x1, x1 = bn s (a + 1) := ⟨_, rfl⟩
 rw [← hx1] at c1
 have HD := az hD
 have HB := az hB1
 have HQ := az5 hq hL hnb hn hz
 have hI := hi
 have split : (bn s (a + 1) ≠ 117 ∧ short (bn s (a + 1)) ∧ a + 2 ≤ z ∧ Inner s (a + 2) z ∧ de s z a = shortv (bn s (a + 1)) :: de s z (a + 2)) ∨
   (bn s (a + 1) = 117 ∧ unitAt s a z ∧ Inner s (a + 6) z ∧ ∃ i, i = (if pairAt s a z then 12 else 6) ∧ a + i ≤ z ∧ Inner s (a + i) z ∧ de s z a = utf8 (rune s a z) ++ de s z (a + i) ∧ (utf8 (rune s a z)).length ≤ i) := by
  have h6 : unitAt s a z → Inner s (a + 6) z := fun hu => by
   rcases Inner.unit hi haz with ⟨q, _⟩ | ⟨_, q, _⟩ | ⟨_, _, _, q⟩
   ·exact absurd hu.2.1 q
   ·exact absurd hu.2.2.1 q
   ·exact q
  rcases Inner.de hi haz with ⟨x, _⟩ | ⟨_, u1, u2, u3, u4, u5, u6⟩ | ⟨hu, hp, h1, h2⟩ | ⟨hu, hp, h1, h2⟩
  ·exact absurd h92 x
  ·exact .inl ⟨u1, u2, u3, u5, u6⟩
  ·have e := (utf8_rune hu).1
   rw [if_pos hp] at e
   exact .inr ⟨hu.2.2.1, hu, h6 hu, 12, by rw [if_pos hp], h1.le.1, h1, by rw [e]; exact h2, by have := (utf8_len (rune s a z)).2.1; omega⟩
  ·have e := (utf8_rune hu).1
   rw [if_neg hp] at e
   exact .inr ⟨hu.2.2.1, hu, h6 hu, 6, by rw [if_neg hp], h1.le.1, h1, by rw [e]; exact h2, by have := (utf8_len (rune s a z)).2.1; omega⟩
 rcases split with ⟨u1, u2, u3, u5, u6⟩ | ⟨v1, hu, v2, i, hi2, v3, v4, v5, v6⟩
 ·rw [← hx1] at u1 u2 u6
  obtain ⟨⟨y0, hy0⟩, hf0⟩ := hB1.cell (k := q) (by omega)
  have ht := (World.cell?_alloc_lt w (.cells #[.bool false, .bool false, .int .i64 0] 93) ⟨14, x1, none⟩ (World.block_lt_of_cell? _ _ (hT x1 u2))).trans (hT x1 u2)
  have HU := az3 u3 u5 u6
  have k0 : (0 : Int) < (nb : Int) := by omega
  have k0n : 0 < nb := by omega
  clear hR h hz hn hi haz h92 hT hB hL hnb hD hB1 hq hg hc hx1 u1 u3 u5 u6 hI
  rcases u2 with rfl | rfl | rfl | rfl | rfl | rfl | rfl | rfl
  all_goals
   go_enter Tryz.func79, Tryz.ntmps79
   go_wp2_with fail
   rw [HR.out]
   obtain ⟨p1, p2, p3⟩ := HU.out
   obtain ⟨q1, q2, q3, q4, q5⟩ := HQ.out
   refine ⟨2, [_], rfl, Nat.le_refl _, p1, by simp, p2, p3, HB.out.push2 q1 (by omega) rfl, below_grown ((Below.refl _ _).alloc (Nat.le_refl _) _) (grown_set (grown_refl _ _) _ _)⟩
 ·rw [← hx1] at v1
  subst v1
  have hr := utf8_rune hu
  subst hz
  have CU := az (decU_calls (cp := cp) hD hn hu v2)
  rw [← hi2] at CU
  obtain ⟨r, hrr⟩ : ∃ r, r = rune s a (a + n) := ⟨_, rfl⟩
  rw [← hrr] at CU hr v5 v6
  have CE : Aside0 (∀ W : World, Below (w.alloc (.cells #[.bool false, .bool false, .int .i64 0] 93)).heap.size (w.alloc (.cells #[.bool false, .bool false, .int .i64 0] 93)) W → Calls Tryz.prog 88 #[.slice (some ⟨gb, q, none⟩) nb cb, .int .i32 (r : Int)] W (EncPost W gb t L ws r)) := ⟨fun W hW => by
   rw [hq]
   exact encode_calls (HB.out.keep (hW.block _ HB.out.lt)) hr.2.1 hr.2.2 (by omega) hL hL6⟩
  have HU := az4 v3 v4 v5 v6
  have ti : ((i : Int) == -1) = false := beqF
  have hi26 : 2 ≤ i := by by_cases hp : pairAt s a (a + n)
                          ·rw [if_pos hp] at hi2; omega
                          ·rw [if_neg hp] at hi2; omega
  have HI := az hi26
  clear hR h hn hi haz h92 hT hB hL hnb hD hB1 hq hg hc hx1 hI hr hrr hi2 v2 v3 v4 v5 v6 hu hi26
  go_enter Tryz.func79, Tryz.ntmps79
  go_wp2_with (first
   | (go_at_call 87; (with_reducible refine CU.out.mono ?_); rintro e w1 ⟨rfl, hbl⟩; have HB1 := az hbl; have CE1 := az (CE.out _ hbl); clear hbl)
   | (go_at_call 88; (with_reducible refine CE1.out.mono ?_); rintro e w2 ⟨rfl, hp⟩; have HP := az hp; clear hp))
  rw [HR.out]
  obtain ⟨p1, p2, p3, p4⟩ := HU.out
  exact ⟨i, _, rfl, HI.out, p1, p4, p2, p3, HP.out.1, below_grown (below1 _ (HB1.out.mono (by simp))) HP.out.2⟩
theorem Dat.addr {w : World} {s : ByteArray} {lo n : Nat} {ad : Addr} (h : Dat w s lo n (some ad)) {k : Nat} (hk : k < n) : w.cell? (ad.add k) = some (.int .u8 (bn s (lo + k) : Int)) := by
 obtain ⟨g, o, e, _, hc⟩ := h.2.2 (by omega)
 cases e
 rw [← hc k hk]
 congr 1
 unfold Addr.add
 by_cases h0 : k = 0
 ·rw [if_pos h0, h0]; rfl
 ·rw [if_neg h0]
theorem idx_calls {w : World} {s : ByteArray} {lo n c : Nat} {ad : Addr} (h : Dat w s lo n (some ad)) :
  ∃ r : Int, Calls Tryz.prog 78 #[.slice (some ad) n c, .int .u8 92] w (fun e w' => e = .returned (.int .i64 r) ∧ w' = w) ∧
   ((r = -1 ∧ ∀ k, k < n → bn s (lo + k) ≠ 92) ∨ ∃ j : Nat, r = (j : Int) ∧ j < n ∧ bn s (lo + j) = 92 ∧ ∀ k, k < j → bn s (lo + k) ≠ 92) := by
 obtain ⟨xs, hxs⟩ : ∃ xs : List Int, xs = (List.range n).map fun k => (bn s (lo + k) : Int) := ⟨_, rfl⟩
 have hl : xs.length = n := by rw [hxs]; simp
 have hg : ∀ k, k < n → xs.getD k 0 = (bn s (lo + k) : Int) := fun k hk => by
  rw [hxs, List.getD, List.getElem?_map, List.getElem?_range hk]; rfl
 have hc := Tryz.bytes_IndexByte_at ad n c xs 92 w hl (fun i hi => by rw [hg i hi]; exact h.addr hi)
 have hb : ∀ k, k < n → (Lib.bytesOf xs)[k]? = some (UInt8.ofNat (bn s (lo + k))) := fun k hk => by
  unfold Lib.bytesOf
  rw [List.getElem?_map]
  have := hg k hk
  rw [List.getD, List.getElem?_eq_getElem (by omega)] at this
  rw [List.getElem?_eq_getElem (by omega)]
  simp only [Option.getD_some] at this
  rw [Option.map_some, this]; rfl
 have hlen : (Lib.bytesOf xs).length = n := by unfold Lib.bytesOf; rw [List.length_map, hl]
 have e92 : ∀ x, x < 256 → (UInt8.ofNat x = (92 : Int).toNat.toUInt8 ↔ x = 92) := fun x hx => by
  constructor
  ·intro e
   have := congrArg UInt8.toNat e
   rw [UInt8.toNat_ofNat_of_lt' (by simpa using hx)] at this
   exact this
  ·intro e; subst e; rfl
 obtain ⟨r, hr⟩ : ∃ r, r = Lib.indexByte (Lib.bytesOf xs) (92 : Int).toNat.toUInt8 := ⟨_, rfl⟩
 rw [← hr] at hc
 refine ⟨r, hc, ?_⟩
 by_cases h1 : r = -1
 ·refine .inl ⟨h1, fun k hk e => ?_⟩
  have := Lib.indexByte_none (hr.symm.trans h1) k
  rw [hb k hk, (e92 _ (bn_lt _ _)).2 e] at this
  exact this rfl
 ·have hge := Lib.indexByte_ge (Lib.bytesOf xs) (92 : Int).toNat.toUInt8
  rw [← hr] at hge
  obtain ⟨j, rfl⟩ : ∃ j : Nat, r = (j : Int) := ⟨r.toNat, by omega⟩
  obtain ⟨h2, h3⟩ := Lib.indexByte_some hr.symm
  have hj : j < n := by rw [← hlen]; exact (List.getElem?_eq_some_iff.1 h2).1
  refine .inr ⟨j, rfl, hj, ?_, fun k hk e => ?_⟩
  ·rw [hb j hj] at h2
   exact (e92 _ (bn_lt _ _)).1 (Option.some.inj h2)
  ·have := h3 k hk
   rw [hb k (by omega), (e92 _ (bn_lt _ _)).2 e] at this
   exact this rfl
def raw (s : ByteArray) (lo n : Nat) : List Nat := (List.range n).map fun k => bn s (lo + k)
theorem raw_len (s : ByteArray) (lo n : Nat) : (raw s lo n).length = n := by simp [raw]
theorem raw_at (s : ByteArray) (lo n k : Nat) (h : k < n) : (raw s lo n)[k]? = some (bn s (lo + k)) := by
 unfold raw; rw [List.getElem?_map, List.getElem?_range h]; rfl
theorem wpList_copy_buf {w : World} {ops : Array Oper} {rest : List Oper} {o : Oper} {a : Act} {Q : Exit → Act → World → Prop} (hgd : o.guard = none) (d s : Operand)
  (ho : o.op = .call { callee := .builtin .copy, args := #[d, s], argTypes := #[43, 43] }) {dp : Option Addr} {sp : Option Addr} {dLen dCap sLen sCap gb q L : Nat} {t : TypeId} {ws : List Nat} {S : ByteArray} {lo : Nat}
  (hd : a.eval d = .slice dp dLen dCap) (hs : a.eval s = .slice sp sLen sCap) (hB : BufAt w gb t L ws) (hq : q = ws.length) (hdp : 0 < sLen → dp = some ⟨gb, q, none⟩) (hle : sLen ≤ dLen) (hfit : q + sLen ≤ L) (hD : Dat w S lo sLen sp)
  (h : ∀ w', Aside0 (BufAt w' gb t L (ws ++ raw S lo sLen)) → Aside0 (w.grownBy w' (some gb)) → wpList Tryz.prog ops Q rest (a.put o.dst (goInt sLen)) w') : wpList Tryz.prog ops Q (o :: rest) a w := by
 have hsz : (Tryz.prog.info? 5).map (·.size) = some 1 := by kernel_rfl
 by_cases h0 : sLen = 0
 ·subst h0
  refine wpList_copy_nothing hgd d s 43 43 ho 5 Tryz.underlying43 hsz dp sp dLen dCap 0 sCap hd hs (by simp) ?_
  exact h w ⟨by simpa [raw] using hB⟩ ⟨grown_refl _ _⟩
 ·obtain rfl := hdp (by omega)
  obtain ⟨g, o', rfl, hg, hc⟩ := hD.2.2 (by omega)
  obtain ⟨cs, b1, b2, b3, b4, b5⟩ := hB
  obtain ⟨vs, hvs⟩ : ∃ vs : List Value, vs = (raw S lo sLen).map (fun x : Nat => Value.int .u8 (x : Int)) := ⟨_, rfl⟩
  have hvl : vs.length = sLen := by rw [hvs, List.length_map, raw_len]
  have hva : ∀ j, j < sLen → vs[j]? = some (.int .u8 (bn S (lo + j) : Int)) := fun j hj => by rw [hvs, List.getElem?_map, raw_at _ _ _ _ hj]; rfl
  refine wpList_copy_own hgd d s 43 43 ho 5 Tryz.underlying43 hsz gb q dLen dCap ⟨g, o', none⟩ sLen sCap hd hs cs t b1 vs (by rw [hvl]; exact (Nat.min_eq_left hle).symm) (fun j v hj => ?_) (by rw [hvl, b2]; exact hfit) (fun v hv => ?_) ?_
  ·have hjl : j < sLen := by rw [← hvl]; exact (List.getElem?_eq_some_iff.1 hj).1
   rw [hva j hjl] at hj
   rw [← Option.some.inj hj]
   exact (Dat.addr ⟨hD.1, hD.2.1, hD.2.2⟩ hjl)
  ·rw [hvs] at hv
   obtain ⟨x, _, rfl⟩ := List.mem_map.1 hv
   rfl
  ·rw [hvl]
   refine h _ ⟨⟨_, setRow_heap w gb _ _ t _ b1, ?_, ?_, ?_, ?_⟩⟩ ⟨⟨rfl, rfl, rfl, by simp [World.setRow], fun k hk hne => setRow_other w gb k _ (fun e => hne (by rw [e]))⟩⟩
   ·simp [hvl]; omega
   ·rw [List.length_append, raw_len]; omega
   ·intro k x hk
    rw [List.getElem?_toArray]
    by_cases hk1 : k < ws.length
    ·rw [List.getElem?_append_left hk1] at hk
     rw [List.getElem?_append_left (by simp; omega), List.getElem?_take_of_lt (by omega), Array.getElem?_toList]
     exact b4 k x hk
    ·rw [List.getElem?_append_right (by omega)] at hk
     have hk2 : k - ws.length < sLen := by rw [← raw_len S lo sLen]; exact (List.getElem?_eq_some_iff.1 hk).1
     rw [raw_at _ _ _ _ hk2] at hk
     have hlq : (List.take q cs.toList).length = q := by simp; omega
     rw [List.getElem?_append_right (by rw [hlq]; omega), hlq, List.getElem?_append_left (by rw [hvl]; omega), hq, hva _ hk2, Option.some.inj hk]
   ·intro k hk
    rw [List.getElem?_toArray]
    have hlq : (List.take q cs.toList).length = q := by simp; omega
    by_cases hk1 : k < q
    ·rw [List.getElem?_append_left (by rw [hlq]; exact hk1), List.getElem?_take_of_lt hk1, Array.getElem?_toList]
     exact b5 k hk
    ·rw [List.getElem?_append_right (by rw [hlq]; omega), hlq]
     by_cases hk2 : k - q < sLen
     ·rw [List.getElem?_append_left (by rw [hvl]; exact hk2), hva _ hk2]; exact ⟨_, rfl⟩
     ·rw [List.getElem?_append_right (by rw [hvl]; omega), hvl, List.getElem?_drop, Array.getElem?_toList, show q + sLen + (k - q - sLen) = k by omega]
      exact b5 k hk
end JS
end Go.Proofs.YtbimfhaokgigkaaGreatDoor
