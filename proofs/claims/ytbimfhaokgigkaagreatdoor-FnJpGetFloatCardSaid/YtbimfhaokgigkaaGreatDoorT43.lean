/- Walks of functions of FnJpGetFloat (Y14, Y15, Y16); conditions stand ahead of each theorem. -/
import Derived.Test.YtbimfhaokgigkaaGreatDoorT42
import Derived.Test.YtbimfhaokgigkaaGreatDoorT36
set_option maxRecDepth 1000000
set_option maxHeartbeats 8000000
namespace Go.Proofs.YtbimfhaokgigkaaGreatDoor
open Go.RowKit Go.Proofs.YtbimfhaokgigkaaGreatDoorW.PrintWords Go.Proofs.YtbimfhaokgigkaaGreatDoorW.PrintLast
namespace JS
theorem flat5 : ∀ {vals : List Value} {i : Nat} {u : Value}, (∀ x ∈ vals, (cls x).length = 5) → vals[i]? = some u → ∀ m, m < 5 → (vals.flatMap cls)[i * 5 + m]? = (cls u)[m]?
 | y :: r, 0, u, h5, h, m, hm => by
  simp at h
  subst h
  rw [List.flatMap_cons, List.getElem?_append_left (by rw [h5 y (by simp)]; omega), Nat.zero_mul, Nat.zero_add]
 | y :: r, i + 1, u, h5, h, m, hm => by
  have e := h5 y (by simp)
  rw [List.flatMap_cons, List.getElem?_append_right (by rw [e]; omega), e, show (i + 1) * 5 + m - 5 = i * 5 + m by omega]
  exact flat5 (fun x hx => h5 x (by simp [hx])) (by simpa using h) m hm
theorem Mems.len {s : ByteArray} {a e : Nat} {ns : List (Nat × Nat)} {kids : List JT} : Mems s a e ns kids → kids.length + a ≤ e
 | .last b e c t d h1 h2 h3 h4 h5 h6 h7 h8 h9 => by
  have k1 := h1.2.1
  have k2 := h2.1
  have k5 := h5.1
  have k6 := V.le h6
  have k7 := h7.1
  show 1 + b ≤ d + 1
  omega
 | .more b e c t d a z ns r h1 h2 h3 h4 h5 h6 h7 h8 h9 h10 h11 => by
  have k1 := h1.2.1
  have k2 := h2.1
  have k5 := h5.1
  have k6 := V.le h6
  have k7 := h7.1
  have k10 := h10.1
  have := Mems.len h11
  show (r.length + 1) + b ≤ z
  omega
theorem Mems.strs {s : ByteArray} {a e : Nat} {ns : List (Nat × Nat)} {kids : List JT} {i : Nat} {x : Nat × Nat} : Mems s a e ns kids → ns[i]? = some x → Str s x.1 x.2
 | .last b e c t d h1 h2 h3 h4 h5 h6 h7 h8 h9, h => by
  match i, h with
  | 0, h => simp at h; subst h; exact h1
 | .more b e c t d a z ns r h1 h2 h3 h4 h5 h6 h7 h8 h9 h10 h11, h => by
  match i, h with
  | 0, h => simp at h; subst h; exact h1
  | i + 1, h => exact Mems.strs h11 (by simpa using h)
theorem V.rows {s : ByteArray} {t : JT} (h : V s t) (hs : s.size ≤ 65536) : Strs s t ∧ t.kids.length ≤ 65536 ∧ (t.kind = 6 → t.names.length = t.kids.length) := by
 have hle := V.le h
 have nil : ∀ {k b e : Nat}, Strs s (.mk k b e [] []) := ⟨Nat.zero_le _, fun i x h => by simp [JT.names] at h⟩
 cases h with
 | word k b e h => exact ⟨nil, Nat.zero_le _, fun _ => rfl⟩
 | num b e h => exact ⟨nil, Nat.zero_le _, fun _ => rfl⟩
 | str b e h => exact ⟨nil, Nat.zero_le _, fun _ => rfl⟩
 | arr0 b c h1 h2 h3 h4 => exact ⟨nil, Nat.zero_le _, fun _ => rfl⟩
 | arr b a e kids h1 h2 h3 =>
  have hl : kids.length ≤ 65536 := by
   have := V.kidsLen (V.arr b a e kids h1 h2 h3) rfl
   have h4 : kids.length ≤ s.size := by
    have h5 : (JT.mk 5 b e [] kids).e = e := rfl
    have h6 : (JT.mk 5 b e [] kids).kids = kids := rfl
    rw [h6] at this
    omega
   omega
  exact ⟨⟨Nat.zero_le _, fun i x h => by simp [JT.names] at h⟩, hl, fun h => by cases h⟩
 | obj0 b c h1 h2 h3 h4 => exact ⟨nil, Nat.zero_le _, fun _ => rfl⟩
 | obj b a e ns kids h1 h2 h3 =>
  have hl := Mems.len h3
  have hm := Mems.le h3
  have hn := Mems.lens h3
  have he : e ≤ s.size := hle.2
  exact ⟨⟨show ns.length ≤ 65536 by omega, fun i x h => Mems.strs h3 h⟩, show kids.length ≤ 65536 by omega, fun _ => hn⟩
def Stp (s : ByteArray) (t kid : JT) (key : ByteArray) : Prop := ∃ j, t.kids[j]? = some kid ∧ ((t.kind = 6 ∧ Fst s t key j) ∨ (t.kind = 5 ∧ Brk key j))
def StepPost (w : World) (B : Nat → Prop) (s : ByteArray) (t : JT) (key : ByteArray) (x : Ending) (w' : World) : Prop :=
 ∃ (v : Value) (b : Bool), x = .returned (.tuple #[v, .bool b]) ∧ Below w.heap.size w w' ∧ Five v ∧ (b = true → ∃ kid, Stp s t kid key ∧ PL w' B v kid)
theorem step_calls {w : World} {B : Nat → Prop} {s key : ByteArray} {v : Value} {t : JT} (hp : PL w B v t) (hs : s.size ≤ 65536) (hv : V s t) (hk : key.size ≤ 2147483647) :
  Calls Tryz.prog 11 #[.string s, v, .string key] w (StepPost w B s t key) := by
 refine byR fun R hR => ?_
 have HR := az hR
 obtain ⟨A1, A2, c1, c2, vals, rfl, hN, hK, hl, hpl⟩ := hp.inv
 obtain ⟨hst, hkl, hnk⟩ := hv.rows hs
 have hkl6 : (t.kids.length : Int) ≤ 65536 := by omega
 obtain ⟨wx, hwx⟩ : ∃ wx, wx = (w.alloc (.cells #[.int .i64 (t.kind : Int), .int .i64 (t.b : Int), .int .i64 (t.e : Int), .slice A1 t.names.length c1, .slice A2 t.kids.length c2] 27)).alloc (.cells #[.int .i64 0, .int .i64 0, .int .i64 0, .slice none 0 0, .slice none 0 0] 27) := ⟨_, rfl⟩
 have H0 : Aside0 (Below w.heap.size w wx ∧ wx.heap[w.heap.size]? = some (.cells #[.int .i64 (t.kind : Int), .int .i64 (t.b : Int), .int .i64 (t.e : Int), .slice A1 t.names.length c1, .slice A2 t.kids.length c2] 27 (0, 0)) ∧ wx.heap[w.heap.size + 1]? = some (.cells #[.int .i64 0, .int .i64 0, .int .i64 0, .slice none 0 0, .slice none 0 0] 27 (0, 0))) := ⟨by
  obtain ⟨wa, hwa⟩ : ∃ wa, wa = w.alloc (.cells #[.int .i64 (t.kind : Int), .int .i64 (t.b : Int), .int .i64 (t.e : Int), .slice A1 t.names.length c1, .slice A2 t.kids.length c2] 27) := ⟨_, rfl⟩
  have ea : wa.heap.size = w.heap.size + 1 := by rw [hwa]; simp
  have h1 := heap_alloc_new w (.cells #[.int .i64 (t.kind : Int), .int .i64 (t.b : Int), .int .i64 (t.e : Int), .slice A1 t.names.length c1, .slice A2 t.kids.length c2] 27)
  rw [← hwa] at h1 hwx
  have h2 := heap_alloc_new wa (.cells #[.int .i64 0, .int .i64 0, .int .i64 0, .slice none 0 0, .slice none 0 0] 27)
  rw [← hwx, ea] at h2
  have h1' := (heap_alloc_old wa (.cells #[.int .i64 0, .int .i64 0, .int .i64 0, .slice none 0 0, .slice none 0 0] 27) (show w.heap.size < wa.heap.size by omega)).trans h1
  rw [← hwx] at h1'
  exact ⟨by rw [hwx, hwa]; exact ((Below.refl _ _).alloc (Nat.le_refl _) _).alloc (by simp) _, h1', h2⟩⟩
 have HX := az5 hK hl hpl hnk hp
 have HS := az3 hs hst hk
 have CN := az (fun (W : World) (h : Below w.heap.size w W) => named_calls (key := key) (hp.keep (w' := W) (B' := B) fun k hk hlt => ⟨h.block k hlt, hk⟩) hs hst)
 clear hp hR hN hK hl hpl hs hv hst hkl hnk hk
 go_enter Tryz.func11, Tryz.ntmps11
 go_upto_region 1 with fail
 rw [← hwx]
 clear hwx
 have e0 := (blk_cell H0.out.2.1 0).trans rfl
 go_upto_block 0 with fail
 go_cut [8] (fun v8 w' => ∃ r : Int, v8 = .int .i64 r ∧ Aside0 (Below w.heap.size w w' ∧ w'.heap[w.heap.size]? = some (.cells #[.int .i64 (t.kind : Int), .int .i64 (t.b : Int), .int .i64 (t.e : Int), .slice A1 t.names.length c1, .slice A2 t.kids.length c2] 27 (0, 0)) ∧ w'.heap[w.heap.size + 1]? = some (.cells #[.int .i64 0, .int .i64 0, .int .i64 0, .slice none 0 0, .slice none 0 0] 27 (0, 0))) ∧ Aside0 (r = -1 ∨ ∃ j : Nat, r = (j : Int) ∧ j < t.kids.length ∧ ((t.kind = 6 ∧ Fst s t key j) ∨ (t.kind = 5 ∧ Brk key j))))
 case first =>
  have g0 := (blk_cell H0.out.2.1 0).trans rfl
  have g1 := (blk_cell H0.out.2.1 1).trans rfl
  have g2 := (blk_cell H0.out.2.1 2).trans rfl
  have g3 := (blk_cell H0.out.2.1 3).trans rfl
  have g4 := (blk_cell H0.out.2.1 4).trans rfl
  by_cases h6 : t.kind = 6
  ·have t6 : ((t.kind : Int) == 6) = true := by rw [h6]; rfl
   have HK := az h6
   clear h6
   go_wp2_with (go_at_call 16; refine (CN.out _ H0.out.1).mono ?_; rintro e w1 ⟨r, rfl, hbl, hr⟩; dsimp only; have H1 := az2 hbl hr; clear hbl hr)
   go_meet
   refine ⟨r, rfl, ⟨H0.out.1.trans (H1.out.1.mono H0.out.1.size), blk_below H0.out.2.1 H1.out.1, blk_below H0.out.2.2 H1.out.1⟩, ⟨?_⟩⟩
   rcases H1.out.2 with h | ⟨j, h1, h2⟩
   ·exact .inl h
   ·refine .inr ⟨j, h1, ?_, .inl ⟨HK.out, h2⟩⟩
    obtain ⟨x, hx, _⟩ := h2.2
    have := (List.getElem?_eq_some_iff.1 hx).1
    rw [HX.out.2.2.2.1 HK.out] at this
    exact this
  ·have t6 : ((t.kind : Int) == 6) = false := beqF
   clear h6
   by_cases h5 : t.kind = 5
   ·have t5 : ((t.kind : Int) == 5) = true := by rw [h5]; rfl
    have HK := az h5
    have CB := az (bracket_calls (w := wx) HS.out.2.2)
    clear h5
    go_upto_region 7 with (go_at_call 17; refine CB.out.mono ?_; rintro e w1 ⟨c, b, rfl, hw1, hb⟩; subst w1; dsimp only; have H1 := az hb; clear hb)
    cases b with
    | false =>
     go_wp2_with fail
     go_meet
     exact ⟨-1, rfl, H0, ⟨.inl rfl⟩⟩
    | true =>
     by_cases hc : c < (t.kids.length : Int)
     ·have tc : decide (c < (t.kids.length : Int)) = true := decide_eq_true hc
      have HC := az hc
      clear hc
      go_wp2_with fail
      go_meet
      have h1 := H1.out (by trivial)
      have hc := HC.out
      have hj := h1.2 (by omega)
      exact ⟨c, rfl, H0, ⟨.inr ⟨c.toNat, by omega, by omega, .inr ⟨HK.out, hj⟩⟩⟩⟩
     ·have tc : decide (c < (t.kids.length : Int)) = false := decide_eq_false hc
      clear hc
      go_wp2_with fail
      go_meet
      exact ⟨-1, rfl, H0, ⟨.inl rfl⟩⟩
   ·have t5 : ((t.kind : Int) == 5) = false := beqF
    clear h5
    go_wp2_with fail
    go_meet
    exact ⟨-1, rfl, H0, ⟨.inl rfl⟩⟩
 case rest =>
 obtain ⟨r, rfl, hw, hr⟩ := hcut
 clear e0
 have r0 := (blk_cell hw.out.2.2 0).trans rfl
 have r1 := (blk_cell hw.out.2.2 1).trans rfl
 have r2 := (blk_cell hw.out.2.2 2).trans rfl
 have r3 := (blk_cell hw.out.2.2 3).trans rfl
 have r4 := (blk_cell hw.out.2.2 4).trans rfl
 have fr0 := blk_frozen hw.out.2.2 0
 have fr1 := blk_frozen hw.out.2.2 1
 have fr2 := blk_frozen hw.out.2.2 2
 have fr3 := blk_frozen hw.out.2.2 3
 have fr4 := blk_frozen hw.out.2.2 4
 rcases hr.out with h | ⟨j, h, hj, hjs⟩
 ·subst h
  go_wp2_with fail
  obtain ⟨hr5, hfar⟩ := put5 hw.out.2.2 (.int .i64 0) (.int .i64 0) (.int .i64 0) (.slice none 0 0) (.slice none 0 0)
  refine bodyPost_ret (results_ct rfl _ _ (w.heap.size + 1) 27 _ (0, 0) _ rfl hr5 Tryz.underlying27 rfl (by kernel_rfl)) rfl ?_
  rw [HR.out]
  exact ⟨_, false, rfl, below_of_row (grown_put5 (grown_of_below hw.out.1 none) (by omega) _ _ _ _ _) (fun k e => by cases e), five_zero, fun h => by cases h⟩
 ·subst h
  obtain ⟨kid, hkid⟩ : ∃ kid, t.kids[j]? = some kid := ⟨_, List.getElem?_eq_getElem hj⟩
  obtain ⟨u, hu⟩ : ∃ u, vals[j]? = some u := ⟨_, List.getElem?_eq_getElem (by have := HX.out.2.1; omega)⟩
  have hpk := HX.out.2.2.1 j u kid hu hkid
  obtain ⟨k5, b5, e5, B1, B2, n1, d1, n2, d2, rfl⟩ := hpk.five
  have h5 : ∀ x ∈ vals, (cls x).length = 5 := fun x hx => by
   obtain ⟨m, hm, e⟩ := List.mem_iff_getElem.1 hx
   have := (HX.out.2.2.1 m x _ (by rw [List.getElem?_eq_getElem hm, e]) (List.getElem?_eq_getElem (by have := HX.out.2.1; omega))).five
   obtain ⟨_, _, _, _, _, _, _, _, _, e⟩ := this
   rw [e]; rfl
  obtain ⟨g, hA, hB, hg, _⟩ := HX.out.1.cell (j := j * 5) (by omega)
  subst hA
  have hcell : ∀ m, m < 5 → wc.cell? ⟨g, j * 5 + m, none⟩ = (cls (.agg #[.int .i64 k5, .int .i64 b5, .int .i64 e5, .slice B1 n1 d1, .slice B2 n2 d2]))[m]? := fun m hm => by
   obtain ⟨g', hA', _, _, k1⟩ := HX.out.1.cell (j := j * 5 + m) (by omega)
   cases hA'
   rw [World.cell?_of_block (a := ⟨g, j * 5 + m, none⟩) (hw.out.1.block g hg), k1]
   exact flat5 h5 hu m hm
  have q0 : wc.cell? ⟨g, j * 5, none⟩ = some (.int .i64 k5) := hcell 0 (by omega)
  have q1 : wc.cell? ⟨g, j * 5 + 1, none⟩ = some (.int .i64 b5) := hcell 1 (by omega)
  have q2 : wc.cell? ⟨g, j * 5 + 2, none⟩ = some (.int .i64 e5) := hcell 2 (by omega)
  have q3 : wc.cell? ⟨g, j * 5 + 3, none⟩ = some (.slice B1 n1 d1) := hcell 3 (by omega)
  have q4 : wc.cell? ⟨g, j * 5 + 4, none⟩ = some (.slice B2 n2 d2) := hcell 4 (by omega)
  have e4 := (blk_cell hw.out.2.1 4).trans rfl
  have hj6 : (j : Int) < (t.kids.length : Int) := by omega
  have hj0 : decide ((j : Int) < 0) = false := dF
  have HJ := az3 hkid hjs hpk
  clear hcell hj hjs hkid hu hpk h5 hB hg
  go_wp2_with fail
  obtain ⟨hr5, hfar⟩ := put5 hw.out.2.2 (.int .i64 k5) (.int .i64 b5) (.int .i64 e5) (.slice B1 n1 d1) (.slice B2 n2 d2)
  refine bodyPost_ret (results_ct rfl _ _ (w.heap.size + 1) 27 _ (0, 0) _ rfl hr5 Tryz.underlying27 rfl (by kernel_rfl)) rfl ?_
  rw [HR.out]
  refine ⟨_, true, rfl, below_of_row (grown_put5 (grown_of_below hw.out.1 none) (by omega) _ _ _ _ _) (fun k e => by cases e), ⟨_, _, _, _, _, _, _, _, _, rfl⟩, fun _ => ⟨kid, ⟨j, HJ.out.1, HJ.out.2.1⟩, ?_⟩⟩
  exact HJ.out.2.2.keep fun k hk hlt => ⟨(hfar k (by omega)).trans (hw.out.1.block k hlt), hk⟩
def KeysG (w : World) (K : Option Addr) (ks : List ByteArray) : Prop := ks.length ≤ 2147483647 ∧ (∀ k ∈ ks, k.size ≤ 2147483647) ∧ (0 < ks.length → ∃ g o, K = some ⟨g, o, none⟩ ∧ g < w.heap.size ∧ ∀ (i : Nat) (k : ByteArray), ks[i]? = some k → w.cell? ⟨g, o + i, none⟩ = some (Value.string k))
theorem KeysG.at_ {w w' : World} {K : Option Addr} {ks : List ByteArray} (h : KeysG w K ks) (hb : Below w.heap.size w w') {i : Nat} {k : ByteArray} (hk : ks[i]? = some k) : ∃ g o, K = some ⟨g, o, none⟩ ∧ w'.cell? ⟨g, o + i, none⟩ = some (Value.string k) := by
 obtain ⟨g, o, e, hg, hc⟩ := h.2.2 (by have := (List.getElem?_eq_some_iff.1 hk).1; omega)
 exact ⟨g, o, e, (World.cell?_of_block (a := ⟨g, o + i, none⟩) (hb.block g hg)).trans (hc i k hk)⟩
set_option maxRecDepth 100000 in
theorem jpIndex_calls {w : World} {k : ByteArray} : Calls Tryz.prog 10 #[.string k] w (fun e w' => ∃ b, e = .returned (.bool b) ∧ w' = w) := by
 refine byR fun R hR => ?_
 have HR := az hR
 clear hR
 by_cases h0 : k.size = 0
 ·have e : k = ByteArray.mk #[] := by
   cases k with
   | mk d => congr 1; exact Array.eq_empty_of_size_eq_zero h0
  subst e
  go_enter Tryz.func10, Tryz.ntmps10
  go_wp2_with fail
  rw [HR.out]
  exact ⟨_, rfl, rfl⟩
 ·have tN : ¬ k.toList = [] := by
   intro e
   rw [ByteArray.toList_eq] at e
   have := congrArg List.length e
   exact h0 (by simpa using this)
  have tE : k.toList.isEmpty = false := by
   rw [List.isEmpty_eq_false_iff]; exact tN
  have i0 : 0 < k.size := by omega
  have i06 : (0 : Int) < (k.size : Int) := by omega
  clear h0
  go_enter Tryz.func10, Tryz.ntmps10
  go_wp2_with fail
  rw [HR.out]
  exact ⟨_, rfl, rfl⟩
structure At (w : World) (s : ByteArray) (N : Nat) (w' : World) (v : Value) (t : JT) : Prop where
 below : Below w.heap.size w w'
 box : w'.heap[N]? = some (.cells (cls v).toArray 27 (0, 0))
 val : V s t
 pl : PL w' (fun k => k < w.heap.size) v t
theorem At.next {w w1 w2 : World} {s : ByteArray} {N : Nat} {v : Value} {t : JT} (h : At w s N w1 v t) (hb : Below w1.heap.size w1 w2) : At w s N w2 v t :=
 ⟨h.below.trans (hb.mono h.below.size), blk_below h.box hb, h.val, h.pl.keep fun k hk hlt => ⟨hb.block k hlt, hk⟩⟩
theorem once_calls {w : World} {s : ByteArray} {v : Value} {t : JT} {K : Option Addr} {ks : List ByteArray} {n ck : Nat} (hp : PL w (fun k => k < w.heap.size) v t) (hs : s.size ≤ 65536) (hv : V s t) (hk : KeysG w K ks) (hn : n = ks.length) :
  Calls Tryz.prog 9 #[.string s, v, .slice K n ck] w (fun e w' => ∃ b, e = .returned (.bool b) ∧ Below w.heap.size w w') := by
 refine byR fun R hR => ?_
 have RET : Aside0 (∀ b w', Below w.heap.size w w' → R (.returned (.bool b)) w') := ⟨fun b w' h => by rw [hR]; exact ⟨b, rfl, h⟩⟩
 obtain ⟨A1, A2, c1, c2, vals, rfl, hN, hK, hl, hpl⟩ := hp.inv
 have HP := az3 hk hs hn
 have H0 : Aside0 (At w s w.heap.size (w.alloc (.cells #[.int .i64 (t.kind : Int), .int .i64 (t.b : Int), .int .i64 (t.e : Int), .slice A1 t.names.length c1, .slice A2 t.kids.length c2] 27)) (.agg #[.int .i64 (t.kind : Int), .int .i64 (t.b : Int), .int .i64 (t.e : Int), .slice A1 t.names.length c1, .slice A2 t.kids.length c2]) t) := ⟨by
  have hB : Below w.heap.size w (w.alloc (.cells #[.int .i64 (t.kind : Int), .int .i64 (t.b : Int), .int .i64 (t.e : Int), .slice A1 t.names.length c1, .slice A2 t.kids.length c2] 27)) := (Below.refl _ _).alloc (Nat.le_refl _) _
  exact ⟨hB, heap_alloc_new _ _, hv, hp.keep fun k hk hlt => ⟨hB.block k hlt, hk⟩⟩⟩
 clear hR hp hs hv hk hn hN hK hl hpl
 go_enter Tryz.func9, Tryz.ntmps9
 go_wp2_with fail
 go_loopg [15] n (fun q v15 w' => ∃ (i : Nat) (u : Value) (t : JT), v15 = .int .i64 (i : Int) ∧ Aside0 (q = n - i ∧ i ≤ n) ∧ Aside0 (At w s w.heap.size w' u t))
 case atStart => exact ⟨0, _, t, rfl, ⟨by omega, Nat.zero_le _⟩, H0⟩
 case round =>
  obtain ⟨i, u, t, rfl, hi, hA⟩ := hrel
  by_cases hin : i < n
  ·have hi6 : (i : Int) < (n : Int) := by omega
   obtain ⟨key, hkey⟩ : ∃ k, ks[i]? = some k := ⟨_, List.getElem?_eq_getElem (by have := HP.out.2.2; omega)⟩
   obtain ⟨gK, oK, rfl, hkc⟩ := HP.out.1.at_ hA.out.below hkey
   have hks := HP.out.1.2.1 key (List.mem_of_getElem? hkey)
   have wi : IntKind.i64.wrap ((i : Int) + 1) = (i : Int) + 1 := by rw [IntKind.wrap_i64]; have := HP.out.1.1; have := HP.out.2.2; omega
   obtain ⟨B1, B2, d1, d2, vals, hu, hN, hK, hl, hpl⟩ := hA.out.pl.inv
   subst hu
   have HPI := az2 hN hks
   have hrw := hA.out.val.rows HP.out.2.1
   have HV := az hrw
   have BX : Aside0 (∀ W, At w s w.heap.size W (.agg #[.int .i64 (t.kind : Int), .int .i64 (t.b : Int), .int .i64 (t.e : Int), .slice B1 t.names.length d1, .slice B2 t.kids.length d2]) t → W.heap[w.heap.size]? = some (.cells #[.int .i64 (t.kind : Int), .int .i64 (t.b : Int), .int .i64 (t.e : Int), .slice B1 t.names.length d1, .slice B2 t.kids.length d2] 27 (0, 0))) := ⟨fun W h => h.box⟩
   have g0 := (blk_cell (BX.out _ hA.out) 0).trans rfl
   have hnl : (t.names.length : Int) ≤ 65536 := by have := hrw.1.1; omega
   clear hN hK hl hpl hks hkey hin hrw
   go_upto_if 21 with fail
   go_cut [21] (fun v21 w' => Aside0 (At w s w.heap.size w' (.agg #[.int .i64 (t.kind : Int), .int .i64 (t.b : Int), .int .i64 (t.e : Int), .slice B1 t.names.length d1, .slice B2 t.kids.length d2]) t))
   case first =>
    by_cases h6 : t.kind = 6
    ·have t6 : ((t.kind : Int) == 6) = true := by rw [h6]; rfl
     rw [t6]
     clear h6 t6
     go_wp2_with fail
     go_loopg [9, 10] t.names.length (fun q v9 v10 w' => ∃ f k : Nat, v9 = .int .i64 (f : Int) ∧ v10 = .int .i64 (k : Int) ∧ Aside0 (q = t.names.length - k ∧ f ≤ k ∧ k ≤ t.names.length) ∧ Aside0 (At w s w.heap.size w' (.agg #[.int .i64 (t.kind : Int), .int .i64 (t.b : Int), .int .i64 (t.e : Int), .slice B1 t.names.length d1, .slice B2 t.kids.length d2]) t))
     case atStart => exact ⟨0, 0, rfl, rfl, ⟨by omega, Nat.le_refl _, Nat.zero_le _⟩, hA⟩
     case round =>
      clear g0
      obtain ⟨f, k, rfl, rfl, hf, hA2⟩ := hrel
      have e3 := (blk_cell (BX.out _ hA2.out) 3).trans rfl
      by_cases hkn : k < t.names.length
      ·have hk6 : (k : Int) < (t.names.length : Int) := by omega
       obtain ⟨x, hx⟩ : ∃ x, t.names[k]? = some x := ⟨_, List.getElem?_eq_getElem hkn⟩
       have hst := HV.out.1.2 k x hx
       obtain ⟨f1, f2⟩ := flat2 hx
       have hO : Own wr (fun k => k < w.heap.size) 46 2 (.slice B1 t.names.length d1) t.names.length ((t.names.map nmv).flatMap cls) := by
        obtain ⟨_, _, _, _, _, e, h1, _⟩ := hA2.out.pl.inv
        cases e
        exact h1
       obtain ⟨g, hA', hB, hg, k1⟩ := hO.cell (j := k * 2) (by omega)
       obtain ⟨g', hA'', _, _, k2⟩ := hO.cell (j := k * 2 + 1) (by omega)
       subst hA'
       cases hA''
       have y1 := k1.trans f1
       have y2 := k2.trans f2
       obtain ⟨x1, x2⟩ := x
       have CU := az (fun W => name_calls (w := W) HP.out.2.1 hst)
       have hle : (x1 : Int) ≤ (x2 : Int) := by have := hst.2.1; omega
       have hle2 : (x2 : Int) ≤ (s.size : Int) := by have := hst.2.2.1; omega
       have hx1 : (0 : Int) ≤ (x1 : Int) := by omega
       have hf6 : (f : Int) ≤ 65536 := by have := hf.out; omega
       clear hst f1 f2 k1 k2 hB hg hkn hx hO
       go_upto_region 9 with fail
       go_cut [45] (fun v45 w' => ∃ c, v45 = .bool c ∧ Aside0 (Below wr.heap.size wr w'))
       case first =>
        go_region_with (go_at_call 15; refine Calls.mono (CU.out _) ?_; rintro e w1 ⟨k, rfl, hk, hbl⟩; dsimp only; have HB1 := az (undrew hbl); clear hk hbl)
        all_goals
         go_wp2_with fail
         go_meet
         exact ⟨_, rfl, HB1⟩
       case rest =>
       obtain ⟨c, rfl, hbc⟩ := hcut
       cases c with
       | true =>
        go_wp2_with fail
        go_roundg (t.names.length - (k + 1))
        case measure => have := hf.out.1; omega
        case rel => exact ⟨f + 1, k + 1, by go_num, by go_num, ⟨rfl, by have := hf.out; omega, by omega⟩, ⟨hA2.out.next hbc.out⟩⟩
       | false =>
        go_wp2_with fail
        go_roundg (t.names.length - (k + 1))
        case measure => have := hf.out.1; omega
        case rel => exact ⟨f, k + 1, rfl, by go_num, ⟨rfl, by have := hf.out; omega, by omega⟩, ⟨hA2.out.next hbc.out⟩⟩
      ·have t1 : decide ((k : Int) < (t.names.length : Int)) = false := dF
       have t1n : decide (k < t.names.length) = false := decide_eq_false hkn
       by_cases hf1 : 1 < f
       ·have t2 : decide ((1 : Int) < (f : Int)) = true := dT
        have t2n : decide (1 < f) = true := decide_eq_true hf1
        clear hkn hf1
        go_wp2_with fail
        exact RET.out _ _ hA2.out.below
       ·have t2 : decide ((1 : Int) < (f : Int)) = false := dF
        have t2n : decide (1 < f) = false := decide_eq_false hf1
        clear hkn hf1
        go_wp2_with fail
        go_meet
        exact hA2
    ·have t6 : ((t.kind : Int) == 6) = false := beqF
     clear h6
     go_wp2_with fail
     go_meet
     exact hA
   case rest =>
   have hB := hcut
   clear g0 hkc hcut
   have CS := az (step_calls (key := key) hB.out.pl HP.out.2.1 hB.out.val HPI.out.2)
   have e0 := (blk_cell (BX.out _ hB.out) 0).trans rfl
   have e1 := (blk_cell (BX.out _ hB.out) 1).trans rfl
   have e2 := (blk_cell (BX.out _ hB.out) 2).trans rfl
   have e3 := (blk_cell (BX.out _ hB.out) 3).trans rfl
   have e4 := (blk_cell (BX.out _ hB.out) 4).trans rfl
   go_upto_if 58 with (go_at_call 11; refine CS.out.mono ?_; rintro e w2 ⟨v2, b, rfl, hbl, ⟨k5, b5, e5, E1, E2, n1, f1, n2, f2, rfl⟩, hb⟩; dsimp only; have H2 := az2 hbl hb; clear hbl hb)
   obtain ⟨wy, hwy⟩ : ∃ wy, wy = w2.alloc (.cells #[.int .i64 k5, .int .i64 b5, .int .i64 e5, .slice E1 n1 f1, .slice E2 n2 f2] 27) := ⟨_, rfl⟩
   rw [← hwy]
   have HY : Aside0 (Below w2.heap.size w2 wy ∧ wy.heap[w2.heap.size]? = some (.cells #[.int .i64 k5, .int .i64 b5, .int .i64 e5, .slice E1 n1 f1, .slice E2 n2 f2] 27 (0, 0)) ∧ wy.heap[w.heap.size]? = some (.cells #[.int .i64 (t.kind : Int), .int .i64 (t.b : Int), .int .i64 (t.e : Int), .slice B1 t.names.length d1, .slice B2 t.kids.length d2] 27 (0, 0)) ∧ Below w.heap.size w wy) := ⟨by
    have hW : Below w2.heap.size w2 wy := by rw [hwy]; exact (Below.refl _ _).alloc (Nat.le_refl _) _
    have hb2 := H2.out.1
    exact ⟨hW, by rw [hwy]; exact heap_alloc_new _ _, blk_below (blk_below (BX.out _ hB.out) hb2) hW, (hB.out.below.trans (hb2.mono hB.out.below.size)).trans (hW.mono (Nat.le_trans hB.out.below.size hb2.size))⟩⟩
   clear hwy e0 e1 e2 e3 e4
   cases b with
   | false =>
    go_wp2_with fail
    exact RET.out _ _ HY.out.2.2.2
   | true =>
    have q0 := (blk_cell HY.out.2.1 0).trans rfl
    have q1 := (blk_cell HY.out.2.1 1).trans rfl
    have q2 := (blk_cell HY.out.2.1 2).trans rfl
    have q3 := (blk_cell HY.out.2.1 3).trans rfl
    have q4 := (blk_cell HY.out.2.1 4).trans rfl
    have r0 := (blk_cell HY.out.2.2.1 0).trans rfl
    have z0 := blk_frozen HY.out.2.2.1 0
    have r1 := (blk_cell HY.out.2.2.1 1).trans rfl
    have z1 := blk_frozen HY.out.2.2.1 1
    have r2 := (blk_cell HY.out.2.2.1 2).trans rfl
    have z2 := blk_frozen HY.out.2.2.1 2
    have r3 := (blk_cell HY.out.2.2.1 3).trans rfl
    have z3 := blk_frozen HY.out.2.2.1 3
    have r4 := (blk_cell HY.out.2.2.1 4).trans rfl
    have z4 := blk_frozen HY.out.2.2.1 4
    have hne : w.heap.size ≠ w2.heap.size := by have h2 := H2.out.1.size; have h3 := blk_lt hB.out.box; omega
    go_wp2_with fail
    obtain ⟨kid, hst, hpk⟩ := H2.out.2 (by trivial)
    obtain ⟨hbx, hfar⟩ := put5 HY.out.2.2.1 (.int .i64 k5) (.int .i64 b5) (.int .i64 e5) (.slice E1 n1 f1) (.slice E2 n2 f2)
    go_roundg (n - (i + 1))
    case measure => have := hi.out.1; omega
    case rel =>
     refine ⟨i + 1, .agg #[.int .i64 k5, .int .i64 b5, .int .i64 e5, .slice E1 n1 f1, .slice E2 n2 f2], kid, by go_num, ⟨rfl, by omega⟩, ⟨?_, hbx, ?_, ?_⟩⟩
     ·exact below_of_row (grown_put5 (grown_of_below HY.out.2.2.2 none) (Nat.le_refl _) _ _ _ _ _) (fun k e => by cases e)
     ·obtain ⟨j, h1, _⟩ := hst
      exact (V.kid hB.out.val h1).1
     ·exact hpk.keep fun k hk hlt => ⟨(hfar k (by omega)).trans (HY.out.1.block k hlt), hk⟩
  ·have t1 : decide ((i : Int) < (n : Int)) = false := dF
   have t1n : decide (i < n) = false := decide_eq_false hin
   clear hin
   go_wp2_with fail
   exact RET.out _ _ hA.out.below
theorem Stp.path {s : ByteArray} {t kid tgt : JT} {key : ByteArray} {ks : List ByteArray} (h : Stp s t kid key) (hp : Path s ks kid tgt) : Path s (key :: ks) t tgt := by
 obtain ⟨j, h1, ⟨h2, h3⟩ | ⟨h2, h3⟩⟩ := h
 ·exact .mem key ks t kid tgt j h2 h3.1 h3.2 h1 hp
 ·exact .el key ks t kid tgt j h2 h3 h1 hp
def FoundPost (w : World) (s : ByteArray) (ks : List ByteArray) (x : Ending) (w' : World) : Prop :=
 ∃ (v : Value) (b : Bool), x = .returned (.tuple #[v, .bool b]) ∧ Below w.heap.size w w' ∧ Five v ∧
  (b = true → s.size ≤ 65536 ∧ ∃ t tgt, V s t ∧ Blanks s 0 t.b ∧ Blanks s t.e s.size ∧ Path s ks t tgt ∧ ∃ (nv kv : Value), v = .agg #[.int .i64 (tgt.kind : Int), .int .i64 (tgt.b : Int), .int .i64 (tgt.e : Int), nv, kv])
theorem jpFound_calls {w : World} {s : ByteArray} {K : Option Addr} {ks : List ByteArray} {n ck : Nat} (hs : s.size ≤ 2147483647) (hk : KeysG w K ks) (hn : n = ks.length) :
  Calls Tryz.prog 5 #[.string s, .slice K n ck] w (FoundPost w s ks) := by
 refine byR fun R hR => ?_
 have HR := az hR
 have hnew := heap_alloc_new w (.cells #[.int .i64 0, .int .i64 0, .int .i64 0, .slice none 0 0, .slice none 0 0] 27)
 have hB : Below w.heap.size w (w.alloc (.cells #[.int .i64 0, .int .i64 0, .int .i64 0, .slice none 0 0, .slice none 0 0] 27)) := (Below.refl _ _).alloc (Nat.le_refl _) _
 have hsz : (w.alloc (.cells #[.int .i64 0, .int .i64 0, .int .i64 0, .slice none 0 0, .slice none 0 0] 27)).heap.size = w.heap.size + 1 := by simp
 obtain ⟨wx, hwx⟩ : ∃ wx, wx = w.alloc (.cells #[.int .i64 0, .int .i64 0, .int .i64 0, .slice none 0 0, .slice none 0 0] 27) := ⟨_, rfl⟩
 rw [← hwx] at hnew hB hsz
 have H0 := az3 hnew hB hsz
 have HP := az2 hk hn
 have CP := az (jpPlaces_calls (w := wx) hs)
 have FAIL : Aside0 (∀ (W : World), Below w.heap.size w W → W.heap[w.heap.size]? = some (.cells #[.int .i64 0, .int .i64 0, .int .i64 0, .slice none 0 0, .slice none 0 0] 27 (0, 0)) → ∀ V, V = (((((W.setCell ⟨w.heap.size, 0, none⟩ (.int .i64 0)).setCell ⟨w.heap.size, 1, none⟩ (.int .i64 0)).setCell ⟨w.heap.size, 2, none⟩ (.int .i64 0)).setCell ⟨w.heap.size, 3, none⟩ (.slice none 0 0)).setCell ⟨w.heap.size, 4, none⟩ (.slice none 0 0)) →
   V.heap[w.heap.size]? = some (.cells #[.int .i64 0, .int .i64 0, .int .i64 0, .slice none 0 0, .slice none 0 0] 27 (0, 0)) ∧ R (.returned (.tuple #[.agg #[.int .i64 0, .int .i64 0, .int .i64 0, .slice none 0 0, .slice none 0 0], .bool false])) V) := ⟨fun W h1 h2 V hV => by
  subst hV
  refine ⟨(put5 h2 _ _ _ _ _).1, ?_⟩
  rw [hR]
  exact ⟨_, false, rfl, below_of_row (grown_put5 (grown_of_below h1 none) (Nat.le_refl _) _ _ _ _ _) (fun k e => by cases e), five_zero, fun h => by cases h⟩⟩
 clear hR hs hk hn hnew hB hsz
 go_enter Tryz.func5, Tryz.ntmps5
 go_upto_region 1 with fail
 rw [← hwx]
 clear hwx
 go_upto_region 2 with (go_at_call 8; refine CP.out.mono ?_; rintro e w2 ⟨v, b, rfl, hbl, ⟨k5, b5, e5, E1, E2, n1, f1, n2, f2, rfl⟩, hb⟩; dsimp only; have H2 := az2 hbl hb; clear hbl hb)
 have hnew2 := heap_alloc_new w2 (.cells #[.int .i64 k5, .int .i64 b5, .int .i64 e5, .slice E1 n1 f1, .slice E2 n2 f2] 27)
 have hB2 : Below w2.heap.size w2 (w2.alloc (.cells #[.int .i64 k5, .int .i64 b5, .int .i64 e5, .slice E1 n1 f1, .slice E2 n2 f2] 27)) := (Below.refl _ _).alloc (Nat.le_refl _) _
 obtain ⟨wz, hwz⟩ : ∃ wz, wz = w2.alloc (.cells #[.int .i64 k5, .int .i64 b5, .int .i64 e5, .slice E1 n1 f1, .slice E2 n2 f2] 27) := ⟨_, rfl⟩
 rw [← hwz] at hnew2 hB2 ⊢
 have HZ : Aside0 (Below w.heap.size w w2 ∧ w2.heap[w.heap.size]? = some (.cells #[.int .i64 0, .int .i64 0, .int .i64 0, .slice none 0 0, .slice none 0 0] 27 (0, 0)) ∧ wz.heap[w2.heap.size]? = some (.cells #[.int .i64 k5, .int .i64 b5, .int .i64 e5, .slice E1 n1 f1, .slice E2 n2 f2] 27 (0, 0)) ∧ Below w2.heap.size w2 wz) :=
  ⟨H0.out.2.1.trans (H2.out.1.mono H0.out.2.1.size), blk_below H0.out.1 H2.out.1, hnew2, hB2⟩
 clear hwz hnew2 hB2
 have OLD : Aside0 (∀ W, Below w2.heap.size w2 W → Below w.heap.size w W ∧ W.heap[w.heap.size]? = some (.cells #[.int .i64 0, .int .i64 0, .int .i64 0, .slice none 0 0, .slice none 0 0] 27 (0, 0))) := ⟨fun W h => ⟨HZ.out.1.trans (h.mono HZ.out.1.size), blk_below HZ.out.2.1 h⟩⟩
 cases b with
 | false =>
  have hbz := (OLD.out _ HZ.out.2.2.2).1
  have hrz := (OLD.out _ HZ.out.2.2.2).2
  have HBZ := az hbz
  have HRZ := az hrz
  clear hbz hrz
  have a0 := (blk_cell HRZ.out 0).trans rfl
  have a1 := (blk_cell HRZ.out 1).trans rfl
  have a2 := (blk_cell HRZ.out 2).trans rfl
  have a3 := (blk_cell HRZ.out 3).trans rfl
  have a4 := (blk_cell HRZ.out 4).trans rfl
  have za0 := blk_frozen HRZ.out 0
  have za1 := blk_frozen HRZ.out 1
  have za2 := blk_frozen HRZ.out 2
  have za3 := blk_frozen HRZ.out 3
  have za4 := blk_frozen HRZ.out 4
  go_wp2_with fail
  obtain ⟨hr, hF⟩ := FAIL.out wz HBZ.out HRZ.out _ rfl
  refine bodyPost_ret (results_ct rfl _ _ w.heap.size 27 _ (0, 0) _ rfl hr Tryz.underlying27 rfl (by kernel_rfl)) rfl ?_
  exact hF
 | true =>
  obtain ⟨hs6, t, hv, hbl0, hble, hpl⟩ := H2.out.2 (by trivial)
  have hlt2 : ∀ k, k < w2.heap.size → wz.heap[k]? = w2.heap[k]? := HZ.out.2.2.2.block
  have hA0 : At w2 s w2.heap.size wz (.agg #[.int .i64 k5, .int .i64 b5, .int .i64 e5, .slice E1 n1 f1, .slice E2 n2 f2]) t := ⟨HZ.out.2.2.2, HZ.out.2.2.1, hv, hpl.keep fun k _ hlt => ⟨hlt2 k hlt, hlt⟩⟩
  have CO := az (once_calls (w := wz) (n := n) (ck := ck) (hpl.keep (w' := wz) (B' := fun k => k < wz.heap.size) fun k _ hlt => ⟨hlt2 k hlt, Nat.lt_of_lt_of_le hlt HZ.out.2.2.2.size⟩) hs6 hv
   (show KeysG wz K ks from ⟨HP.out.1.1, HP.out.1.2.1, fun h0 => by
    obtain ⟨g, o, e, hg, hc⟩ := HP.out.1.2.2 h0
    have hb := (OLD.out _ HZ.out.2.2.2).1
    exact ⟨g, o, e, Nat.lt_of_lt_of_le hg hb.size, fun i k hk => (World.cell?_of_block (a := ⟨g, o + i, none⟩) (hb.block g hg)).trans (hc i k hk)⟩⟩) HP.out.2)
  have HT := az4 hs6 hv hbl0 hble
  have HA0 := az hA0
  clear hs6 hv hbl0 hble hpl hlt2 hA0
  have p0 := (blk_cell HZ.out.2.2.1 0).trans rfl
  have p1 := (blk_cell HZ.out.2.2.1 1).trans rfl
  have p2 := (blk_cell HZ.out.2.2.1 2).trans rfl
  have p3 := (blk_cell HZ.out.2.2.1 3).trans rfl
  have p4 := (blk_cell HZ.out.2.2.1 4).trans rfl
  go_upto_if 23 with (go_at_call 9; refine CO.out.mono ?_; rintro e w3 ⟨c, rfl, hbl⟩; dsimp only; have H3 := az (HA0.out.next hbl); clear hbl)
  clear p0 p1 p2 p3 p4
  cases c with
  | false =>
   have HO3 := az (OLD.out _ H3.out.below)
   have a0 := (blk_cell HO3.out.2 0).trans rfl
   have a1 := (blk_cell HO3.out.2 1).trans rfl
   have a2 := (blk_cell HO3.out.2 2).trans rfl
   have a3 := (blk_cell HO3.out.2 3).trans rfl
   have a4 := (blk_cell HO3.out.2 4).trans rfl
   have za0 := blk_frozen HO3.out.2 0
   have za1 := blk_frozen HO3.out.2 1
   have za2 := blk_frozen HO3.out.2 2
   have za3 := blk_frozen HO3.out.2 3
   have za4 := blk_frozen HO3.out.2 4
   go_wp2_with fail
   obtain ⟨hr, hF⟩ := FAIL.out w3 HO3.out.1 HO3.out.2 _ rfl
   refine bodyPost_ret (results_ct rfl _ _ w.heap.size 27 _ (0, 0) _ rfl hr Tryz.underlying27 rfl (by kernel_rfl)) rfl ?_
   exact hF
  | true =>
   go_wp2_with fail
   go_loopg [27] n (fun q v27 w' => ∃ (i : Nat) (u : Value) (t1 : JT), v27 = .int .i64 (i : Int) ∧ Aside0 (q = n - i ∧ i ≤ n ∧ ∀ tgt, Path s (ks.drop i) t1 tgt → Path s ks t tgt) ∧ Aside0 (At w2 s w2.heap.size w' u t1))
   case atStart => exact ⟨0, _, t, rfl, ⟨by omega, Nat.zero_le _, fun tgt h => h⟩, H3⟩
   case round =>
    obtain ⟨i, u, t1, rfl, hi, hA⟩ := hrel
    have HO := az (OLD.out _ hA.out.below)
    obtain ⟨B1, B2, d1, d2, vals, hu, _⟩ := hA.out.pl.inv
    subst hu
    have BX : Aside0 (∀ W, At w2 s w2.heap.size W (.agg #[.int .i64 (t1.kind : Int), .int .i64 (t1.b : Int), .int .i64 (t1.e : Int), .slice B1 t1.names.length d1, .slice B2 t1.kids.length d2]) t1 → W.heap[w2.heap.size]? = some (.cells #[.int .i64 (t1.kind : Int), .int .i64 (t1.b : Int), .int .i64 (t1.e : Int), .slice B1 t1.names.length d1, .slice B2 t1.kids.length d2] 27 (0, 0))) := ⟨fun W h => h.box⟩
    have hne : w.heap.size ≠ w2.heap.size := by have := blk_lt HZ.out.2.1; omega
    have g0 := (blk_cell (BX.out _ hA.out) 0).trans rfl
    have g1 := (blk_cell (BX.out _ hA.out) 1).trans rfl
    have g2 := (blk_cell (BX.out _ hA.out) 2).trans rfl
    have g3 := (blk_cell (BX.out _ hA.out) 3).trans rfl
    have g4 := (blk_cell (BX.out _ hA.out) 4).trans rfl
    by_cases hin : i < n
    ·have hi6 : (i : Int) < (n : Int) := by omega
     obtain ⟨key, hkey⟩ : ∃ k, ks[i]? = some k := ⟨_, List.getElem?_eq_getElem (by have := HP.out.2; omega)⟩
     obtain ⟨gK, oK, rfl, hkc⟩ := HP.out.1.at_ HO.out.1 hkey
     have hks := HP.out.1.2.1 key (List.mem_of_getElem? hkey)
     have wi : IntKind.i64.wrap ((i : Int) + 1) = (i : Int) + 1 := by rw [IntKind.wrap_i64]; have := HP.out.1.1; have := HP.out.2; omega
     have CS := az (step_calls (key := key) hA.out.pl HT.out.1 hA.out.val hks)
     have hdrop : ks.drop i = key :: ks.drop (i + 1) := by
      rw [List.drop_eq_getElem_cons (by have := (List.getElem?_eq_some_iff.1 hkey).1; exact this)]
      congr 1
      exact (List.getElem?_eq_some_iff.1 hkey).2
     have HD := az hdrop
     clear hks hkey hin hdrop
     go_upto_region 7 with fail
     clear hkc
     go_cut [37] (fun v37 w' => ∃ c, v37 = .bool c ∧ Aside0 (w' = wr))
     case first =>
      by_cases h6 : t1.kind = 6
      ·have t6 : ((t1.kind : Int) == 6) = true := by rw [h6]; rfl
       have CJ := az (jpIndex_calls (w := wr) (k := key))
       clear h6
       go_wp2_with (go_at_call 10; refine CJ.out.mono ?_; rintro e w5 ⟨c, rfl, hw5⟩; subst w5; dsimp only)
       go_meet
       exact ⟨c, rfl, ⟨rfl⟩⟩
      ·have t6 : ((t1.kind : Int) == 6) = false := beqF
       clear h6
       go_wp2_with fail
       go_meet
       exact ⟨false, rfl, ⟨rfl⟩⟩
     case rest =>
     obtain ⟨c, rfl, hwc⟩ := hcut
     have ew := hwc.out
     subst ew
     cases c with
     | true =>
      clear g0 g1 g2 g3 g4
      have a0 := (blk_cell HO.out.2 0).trans rfl
      have a1 := (blk_cell HO.out.2 1).trans rfl
      have a2 := (blk_cell HO.out.2 2).trans rfl
      have a3 := (blk_cell HO.out.2 3).trans rfl
      have a4 := (blk_cell HO.out.2 4).trans rfl
      have za0 := blk_frozen HO.out.2 0
      have za1 := blk_frozen HO.out.2 1
      have za2 := blk_frozen HO.out.2 2
      have za3 := blk_frozen HO.out.2 3
      have za4 := blk_frozen HO.out.2 4
      go_wp2_with fail
      obtain ⟨hr, hF⟩ := FAIL.out wc HO.out.1 HO.out.2 _ rfl
      refine bodyPost_ret (results_ct rfl _ _ w.heap.size 27 _ (0, 0) _ rfl hr Tryz.underlying27 rfl (by kernel_rfl)) rfl ?_
      exact hF
     | false =>
      go_upto_region 10 with (go_at_call 11; refine CS.out.mono ?_; rintro e w4 ⟨v4, b, rfl, hbl, ⟨m5, y5, x5, G1, G2, l1, h1, l2, h2, rfl⟩, hb⟩; dsimp only; have H4 := az2 hbl hb; have HBX4 := az (blk_below (BX.out _ hA.out) hbl); have r0 := (blk_cell HBX4.out 0).trans rfl; have zr0 := blk_frozen HBX4.out 0; have r1 := (blk_cell HBX4.out 1).trans rfl; have zr1 := blk_frozen HBX4.out 1; have r2 := (blk_cell HBX4.out 2).trans rfl; have zr2 := blk_frozen HBX4.out 2; have r3 := (blk_cell HBX4.out 3).trans rfl; have zr3 := blk_frozen HBX4.out 3; have r4 := (blk_cell HBX4.out 4).trans rfl; have zr4 := blk_frozen HBX4.out 4; clear hbl hb)
      clear g0 g1 g2 g3 g4 r0 r1 r2 r3 r4 zr0 zr1 zr2 zr3 zr4
      obtain ⟨hbx, hfar⟩ := put5 HBX4.out (.int .i64 m5) (.int .i64 y5) (.int .i64 x5) (.slice G1 l1 h1) (.slice G2 l2 h2)
      have hAb : Below w2.heap.size w2 w4 := hA.out.below.trans (H4.out.1.mono hA.out.below.size)
      have hBW : Below w2.heap.size w2 (((((w4.setCell ⟨w2.heap.size, 0, none⟩ (.int .i64 m5)).setCell ⟨w2.heap.size, 1, none⟩ (.int .i64 y5)).setCell ⟨w2.heap.size, 2, none⟩ (.int .i64 x5)).setCell ⟨w2.heap.size, 3, none⟩ (.slice G1 l1 h1)).setCell ⟨w2.heap.size, 4, none⟩ (.slice G2 l2 h2)) := below_of_row (grown_put5 (grown_of_below hAb none) (Nat.le_refl _) _ _ _ _ _) (fun k e => by cases e)
      obtain ⟨wy, hwy⟩ : ∃ wy, wy = (((((w4.setCell ⟨w2.heap.size, 0, none⟩ (.int .i64 m5)).setCell ⟨w2.heap.size, 1, none⟩ (.int .i64 y5)).setCell ⟨w2.heap.size, 2, none⟩ (.int .i64 x5)).setCell ⟨w2.heap.size, 3, none⟩ (.slice G1 l1 h1)).setCell ⟨w2.heap.size, 4, none⟩ (.slice G2 l2 h2)) := ⟨_, rfl⟩
      rw [← hwy] at hbx hfar hBW ⊢
      have HW := az3 hBW hbx hfar
      clear hwy hbx hfar hBW hAb
      cases b with
      | false =>
       have HOy := az (OLD.out _ HW.out.1)
       have a0 := (blk_cell HOy.out.2 0).trans rfl
       have a1 := (blk_cell HOy.out.2 1).trans rfl
       have a2 := (blk_cell HOy.out.2 2).trans rfl
       have a3 := (blk_cell HOy.out.2 3).trans rfl
       have a4 := (blk_cell HOy.out.2 4).trans rfl
       have za0 := blk_frozen HOy.out.2 0
       have za1 := blk_frozen HOy.out.2 1
       have za2 := blk_frozen HOy.out.2 2
       have za3 := blk_frozen HOy.out.2 3
       have za4 := blk_frozen HOy.out.2 4
       go_wp2_with fail
       obtain ⟨hr, hF⟩ := FAIL.out wy HOy.out.1 HOy.out.2 _ rfl
       refine bodyPost_ret (results_ct rfl _ _ w.heap.size 27 _ (0, 0) _ rfl hr Tryz.underlying27 rfl (by kernel_rfl)) rfl ?_
       exact hF
      | true =>
       go_wp2_with fail
       obtain ⟨kid, hst, hpk⟩ := H4.out.2 (by trivial)
       go_roundg (n - (i + 1))
       case measure => have := hi.out.1; omega
       case rel =>
        refine ⟨i + 1, .agg #[.int .i64 m5, .int .i64 y5, .int .i64 x5, .slice G1 l1 h1, .slice G2 l2 h2], kid, by go_num, ⟨rfl, by omega, fun tgt h => ?_⟩, ⟨HW.out.1, HW.out.2.1, ?_, ?_⟩⟩
        ·refine hi.out.2.2 tgt ?_
         rw [HD.out]
         exact hst.path h
        ·obtain ⟨j, h1, _⟩ := hst
         exact (V.kid hA.out.val h1).1
        ·exact hpk.keep fun k hk hlt => ⟨HW.out.2.2 k (by omega), hk⟩
    ·obtain rfl : i = n := by have := hi.out.2.1; omega
     have t0 : decide ((i : Int) < (i : Int)) = false := dF
     clear hin
     have a0 := (blk_cell HO.out.2 0).trans rfl
     have a1 := (blk_cell HO.out.2 1).trans rfl
     have a2 := (blk_cell HO.out.2 2).trans rfl
     have a3 := (blk_cell HO.out.2 3).trans rfl
     have a4 := (blk_cell HO.out.2 4).trans rfl
     have za0 := blk_frozen HO.out.2 0
     have za1 := blk_frozen HO.out.2 1
     have za2 := blk_frozen HO.out.2 2
     have za3 := blk_frozen HO.out.2 3
     have za4 := blk_frozen HO.out.2 4
     go_wp2_with fail
     obtain ⟨hr5, hfar⟩ := put5 HO.out.2 (.int .i64 (t1.kind : Int)) (.int .i64 (t1.b : Int)) (.int .i64 (t1.e : Int)) (.slice B1 t1.names.length d1) (.slice B2 t1.kids.length d2)
     refine bodyPost_ret (results_ct rfl _ _ w.heap.size 27 _ (0, 0) _ rfl hr5 Tryz.underlying27 rfl (by kernel_rfl)) rfl ?_
     rw [HR.out]
     refine ⟨_, true, rfl, below_of_row (grown_put5 (grown_of_below HO.out.1 none) (Nat.le_refl _) _ _ _ _ _) (fun k e => by cases e), ⟨_, _, _, _, _, _, _, _, _, rfl⟩, fun _ => ⟨HT.out.1, t, t1, HT.out.2.1, HT.out.2.2.1, HT.out.2.2.2, hi.out.2.2 t1 ?_, _, _, rfl⟩⟩
     rw [List.drop_eq_nil_of_le (by have := HP.out.2; omega)]
     exact .nil t1
end JS
end Go.Proofs.YtbimfhaokgigkaaGreatDoor
