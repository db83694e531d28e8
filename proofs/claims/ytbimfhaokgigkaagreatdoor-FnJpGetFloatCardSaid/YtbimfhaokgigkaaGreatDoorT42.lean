/- Walks of functions of FnJpGetFloat (Y11, Y12, Y13); conditions stand ahead of each theorem. -/
import Derived.Test.YtbimfhaokgigkaaGreatDoorT41
set_option maxRecDepth 1000000
set_option maxHeartbeats 8000000
namespace Go.Proofs.YtbimfhaokgigkaaGreatDoor
open Go.RowKit Go.Proofs.YtbimfhaokgigkaaGreatDoorW.PrintWords Go.Proofs.YtbimfhaokgigkaaGreatDoorW.PrintLast
namespace JS
theorem own_lst {w : World} {B : Nat} {A : Option Addr} {c : Nat} {ws : List Nat} (h : w.ownsRow B 5 1 (.slice A ws.length c) ws.length (bts ws)) (hl : ws.length ≤ 70000) : Lst w A ws := by
 refine ⟨hl, fun hn => ?_⟩
 rcases h.2 with ⟨e, h0⟩ | ⟨g, cap, cur, e, hB, hg, _⟩
 ·omega
 ·have e1 : A = some ⟨g, 0, none⟩ := by injection e
  subst e1
  refine ⟨g, 0, rfl, blk_lt hg, fun k x hk => ?_⟩
  have hk1 : k < ws.length := (List.getElem?_eq_some_iff.1 hk).1
  rw [Nat.zero_add, h.cellAt k (by omega)]
  unfold bts
  rw [List.getElem?_map, hk]; rfl
theorem own_slice {w : World} {B : Nat} {v : Value} {ws : List Nat} (h : w.ownsRow B 5 1 v ws.length (bts ws)) : ∃ A c, v = .slice A ws.length c := by
 rcases h.2 with ⟨e, h0⟩ | ⟨g, cap, cur, e, _⟩
 ·exact ⟨none, 0, by rw [e, h0]⟩
 ·exact ⟨_, _, e⟩
theorem de_lt {s : ByteArray} {z a : Nat} : ∀ x ∈ de s z a, x < 256 := fun x hx => dec_lt s z _ a x hx
def UnqPost (w : World) (xs : List Nat) (e : Ending) (w' : World) : Prop := ∃ k, e = .returned (.string k) ∧ kb k = xs ∧ Below w.heap.size w w'
theorem unquote_calls {w : World} {q I : ByteArray} (hq : q.size ≤ 65536) (h2 : 2 ≤ q.size) (hI : I = q.extract 1 (q.size - 1)) (hin : Inner I 0 I.size) :
  Calls Tryz.prog 15 #[.string q] w (UnqPost w (de I I.size 0)) := by
 refine byR fun R hR => ?_
 have HR := az hR
 have hz6 : I.size ≤ 65536 := by rw [hI]; simp; omega
 have hzi : (I.size : Int) ≤ 65536 := by omega
 have hq6 : (q.size : Int) ≤ 65536 := by omega
 have hq2 : (2 : Int) ≤ (q.size : Int) := by omega
 have e1 : ((q.size : Int) - 1).toNat = q.size - 1 := by omega
 obtain ⟨i0, hi, hz0, hz1, hz2⟩ := info_parts info_byte
 have HIN := az hin
 clear hR hq h2 hin
 go_enter Tryz.func15, Tryz.ntmps15
 go_upto_region 3 with fail
 rw [← hI]
 clear hI e1 hq2 hq6
 go_wp2_with fail
 go_loopg [3, 5] I.size (fun m v3 v5 w' => ∃ (a : Nat) (ws : List Nat), v5 = .int .i64 (a : Int) ∧ Aside0 (m = I.size - a ∧ a ≤ I.size ∧ Inner I a I.size ∧ de I I.size 0 = ws ++ de I I.size a ∧ ws.length ≤ a) ∧ Aside0 (w'.ownsRow w.heap.size 5 1 v3 ws.length (bts ws)) ∧ Aside0 (Below w.heap.size w w'))
 case atStart => exact ⟨0, [], rfl, ⟨by omega, Nat.zero_le _, HIN.out, rfl, Nat.le_refl _⟩, ⟨World.ownsRow_nil _ _ _ _⟩, ⟨Below.refl _ _⟩⟩
 case round =>
  obtain ⟨a, ws, rfl, hk, ho, hb⟩ := hrel
  have hw6 : ws.length ≤ 65536 := by have := hk.out; omega
  by_cases haz : a < I.size
  ·have ha6 : (a : Int) < (I.size : Int) := by omega
   have hx := bn_idx haz
   rcases Inner.de hk.out.2.2.1 haz with ⟨h1, h2, h3⟩ | ⟨h1, h2, h3, h4, h5, h6, h7⟩ | ⟨h1, h2, h3, h4⟩ | ⟨h1, h2, h3, h4⟩
   ·have HN := az3 (show a + 1 ≤ I.size from haz) h2 h3
    have HL : Aside0 ([bn I a].length ≤ 1) := ⟨Nat.le_refl _⟩
    obtain ⟨c, hc⟩ : ∃ c, c = bn I a := ⟨_, rfl⟩
    rw [← hc] at hx h1
    have n1 : ((c : Int) != 92) = true := bneT
    have n2 : (c != 92) = true := bneTn h1
    have HC := az hc
    clear h1 h2 h3 hc
    go_wp2_with (at_builtin; refine wpList_append_own_at _ rfl _ _ 43 rfl w.heap.size 5 i0 (.int .u8 0) 1 1 Tryz.underlying43 hi hz0 hz1 hz2 rfl (by decide) _ ws.length _ rfl (ho.out.alloc _) _ 1 1 [_] rfl rfl (new_cells _ _ rfl _ _) (bytes_one ⟨[_], rfl⟩) (by unfold maxLen; omega) (by omega) (by have := hb.out.size; simp; omega) ?_; intro v1 w2 hown2 hgrow2 hnil2 hat2; clear hnil2 hat2; have H2 := az2 hown2 (below_row hb.out.size ho.out hgrow2); clear hown2 hgrow2)
    go_roundg (I.size - (a + 1))
    case measure => have := hk.out.1; omega
    case rel =>
     refine ⟨a + 1, ws ++ [bn I a], by go_num, ⟨rfl, HN.out.1, HN.out.2.1, ?_, ?_⟩, ⟨?_⟩, ⟨hb.out.trans H2.out.2⟩⟩
     ·(rw [List.append_assoc, hk.out.2.2.2.1, HN.out.2.2]) <;> rfl
     ·rw [List.length_append]
      have := hk.out.2.2.2.2
      have := HL.out
      omega
     ·rw [List.length_append, bts_add, ← HC.out]
      exact H2.out.1
   ·have HN := az3 h4 h6 h7
    have i1 : a + 1 < I.size := by omega
    have x1 := bn_idx i1
    have e1 : ((a : Int) + 1).toNat = a + 1 := by omega
    have HL : Aside0 ([shortv (bn I (a + 1))].length ≤ 2) := ⟨by show 1 ≤ 2; omega⟩
    have CU0 := az (fun W => unit_calls (w := W) hz6 (Nat.le_of_lt haz))
    rw [if_neg h5, decide_eq_false h5] at CU0
    have CS := az (fun W => short_calls (w := W) (bn_lt I (a + 1)))
    rw [h1] at hx
    clear h1 h2 h3 h4 h5 h6 h7
    go_wp2_with (first | (go_at_call 25; (with_reducible refine (CU0.out _).mono ?_); rintro e w2 ⟨rfl, hw2⟩; subst w2; dsimp only) | (go_at_call 26; refine (CS.out _).mono ?_; rintro e w2 ⟨rfl, hw2⟩; subst w2; dsimp only) | (at_builtin; refine wpList_append_own_at _ rfl _ _ 43 rfl w.heap.size 5 i0 (.int .u8 0) 1 1 Tryz.underlying43 hi hz0 hz1 hz2 rfl (by decide) _ ws.length _ rfl (ho.out.alloc _) _ 1 1 [_] rfl rfl (new_cells _ _ rfl _ _) (bytes_one ⟨[_], rfl⟩) (by unfold maxLen; omega) (by omega) (by have := hb.out.size; simp; omega) ?_; intro v1 w2 hown2 hgrow2 hnil2 hat2; clear hnil2 hat2; have H2 := az2 hown2 (below_row hb.out.size ho.out hgrow2); clear hown2 hgrow2))
    go_roundg (I.size - (a + 2))
    case measure => have := hk.out.1; omega
    case rel =>
     refine ⟨a + 2, ws ++ [shortv (bn I (a + 1))], by go_num, ⟨rfl, HN.out.1, HN.out.2.1, ?_, ?_⟩, ⟨?_⟩, ⟨hb.out.trans H2.out.2⟩⟩
     ·(rw [List.append_assoc, hk.out.2.2.2.1, HN.out.2.2]) <;> rfl
     ·rw [List.length_append]
      have := hk.out.2.2.2.2
      have := HL.out
      omega
     ·rw [List.length_append, bts_add]
      exact H2.out.1
   ·have hul := h2.1
    have HN := az3 (show a + 12 ≤ I.size by have := hul.1; omega) h3 h4
    have HL := az (show (utf8 (65536 + (code I a - 55296) * 1024 + (code I (a + 6) - 56320))).length ≤ 12 by have := utf8_len (65536 + (code I a - 55296) * 1024 + (code I (a + 6) - 56320)); omega)
    have CU0 := az (fun W => unit_calls (w := W) hz6 (Nat.le_of_lt haz))
    rw [if_pos h1, decide_eq_true h1] at CU0
    have CU1 := az (fun W => unit_calls (w := W) hz6 (show a + 6 ≤ I.size from h1.1))
    rw [if_pos hul, decide_eq_true hul, show ((a + 6 : Nat) : Int) = (a : Int) + 6 by omega] at CU1
    have CH := az (fun W => high_calls (w := W) (n := code I a))
    rw [decide_eq_true h2.2.1] at CH
    have CL := az (fun W => low_calls (w := W) (n := code I (a + 6)))
    rw [decide_eq_true h2.2.2] at CL
    have hhi := h2.2.1
    have hlo := h2.2.2
    unfold high at hhi
    unfold low at hlo
    have CA := az (appendUTF8_calls (n := 65536 + (code I a - 55296) * 1024 + (code I (a + 6) - 56320)) ho.out hb.out.size hw6 (by omega))
    rw [show ((65536 + (code I a - 55296) * 1024 + (code I (a + 6) - 56320) : Nat) : Int) = 65536 + ((code I a : Int) - 55296) * 1024 + ((code I (a + 6) : Int) - 56320) by omega] at CA
    rw [h1.2.1] at hx
    have g1 : (code I a : Int) ≤ 65536 := by omega
    have g2 : (55296 : Int) ≤ (code I a : Int) := by omega
    have g3 : (code I (a + 6) : Int) ≤ 65536 := by omega
    have g4 : (56320 : Int) ≤ (code I (a + 6) : Int) := by omega
    clear h1 h2 h3 h4 hul hhi hlo
    go_wp2_with (first | (go_at_call 25; (with_reducible refine (CU0.out _).mono ?_); rintro e w2 ⟨rfl, hw2⟩; subst w2; dsimp only) | (go_at_call 25; (with_reducible refine (CU1.out _).mono ?_); rintro e w2 ⟨rfl, hw2⟩; subst w2; dsimp only) | (go_at_call 27; refine (CH.out _).mono ?_; rintro e w2 ⟨rfl, hw2⟩; subst w2; dsimp only) | (go_at_call 28; refine (CL.out _).mono ?_; rintro e w2 ⟨rfl, hw2⟩; subst w2; dsimp only) | (go_at_call 29; refine CA.out.mono ?_; rintro e w2 ⟨v1, rfl, hown2, hbel2⟩; dsimp only; have H2 := az2 hown2 hbel2; clear hown2 hbel2))
    go_roundg (I.size - (a + 12))
    case measure => have := hk.out.1; omega
    case rel =>
     refine ⟨a + 12, ws ++ utf8 (65536 + (code I a - 55296) * 1024 + (code I (a + 6) - 56320)), by go_num, ⟨rfl, HN.out.1, HN.out.2.1, ?_, ?_⟩, ⟨?_⟩, ⟨hb.out.trans H2.out.2⟩⟩
     ·(rw [List.append_assoc, hk.out.2.2.2.1, HN.out.2.2]) <;> rfl
     ·rw [List.length_append]
      have := hk.out.2.2.2.2
      have := HL.out
      omega
     ·exact H2.out.1
   ·have hcl := code_lt h1
    have HN := az3 h1.1 h3 h4
    have HL := az (show (utf8 (code I a)).length ≤ 6 by have := utf8_len (code I a); omega)
    have CU0 := az (fun W => unit_calls (w := W) hz6 (Nat.le_of_lt haz))
    rw [if_pos h1, decide_eq_true h1] at CU0
    have CU1 := az (fun W => unit_calls (w := W) hz6 (show a + 6 ≤ I.size from h1.1))
    rw [show ((a + 6 : Nat) : Int) = (a : Int) + 6 by omega] at CU1
    have CH := az (fun W => high_calls (w := W) (n := code I a))
    have CL := az (fun W => low_calls (w := W) (n := code I (a + 6)))
    have CA := az (appendUTF8_calls (n := code I a) ho.out hb.out.size hw6 (by omega))
    rw [h1.2.1] at hx
    by_cases k1 : unitAt I (a + 6) I.size
    ·rw [if_pos k1, decide_eq_true k1] at CU1
     by_cases k2 : high (code I a)
     ·have k3 : ¬ low (code I (a + 6)) := fun h => h2 ⟨k1, k2, h⟩
      rw [decide_eq_true k2] at CH
      rw [decide_eq_false k3] at CL
      clear h1 h2 h3 h4 hcl k1 k2 k3
      go_wp2_with (first | (go_at_call 25; (with_reducible refine (CU0.out _).mono ?_); rintro e w2 ⟨rfl, hw2⟩; subst w2; dsimp only) | (go_at_call 25; (with_reducible refine (CU1.out _).mono ?_); rintro e w2 ⟨rfl, hw2⟩; subst w2; dsimp only) | (go_at_call 27; refine (CH.out _).mono ?_; rintro e w2 ⟨rfl, hw2⟩; subst w2; dsimp only) | (go_at_call 28; refine (CL.out _).mono ?_; rintro e w2 ⟨rfl, hw2⟩; subst w2; dsimp only) | (go_at_call 29; refine CA.out.mono ?_; rintro e w2 ⟨v1, rfl, hown2, hbel2⟩; dsimp only; have H2 := az2 hown2 hbel2; clear hown2 hbel2))
      go_roundg (I.size - (a + 6))
      case measure => have := hk.out.1; omega
      case rel =>
       refine ⟨a + 6, ws ++ utf8 (code I a), by go_num, ⟨rfl, HN.out.1, HN.out.2.1, ?_, ?_⟩, ⟨?_⟩, ⟨hb.out.trans H2.out.2⟩⟩
       ·(rw [List.append_assoc, hk.out.2.2.2.1, HN.out.2.2]) <;> rfl
       ·rw [List.length_append]
        have := hk.out.2.2.2.2
        have := HL.out
        omega
       ·exact H2.out.1
     ·rw [decide_eq_false k2] at CH
      clear h1 h2 h3 h4 hcl k1 k2
      go_wp2_with (first | (go_at_call 25; (with_reducible refine (CU0.out _).mono ?_); rintro e w2 ⟨rfl, hw2⟩; subst w2; dsimp only) | (go_at_call 25; (with_reducible refine (CU1.out _).mono ?_); rintro e w2 ⟨rfl, hw2⟩; subst w2; dsimp only) | (go_at_call 27; refine (CH.out _).mono ?_; rintro e w2 ⟨rfl, hw2⟩; subst w2; dsimp only) | (go_at_call 29; refine CA.out.mono ?_; rintro e w2 ⟨v1, rfl, hown2, hbel2⟩; dsimp only; have H2 := az2 hown2 hbel2; clear hown2 hbel2))
      go_roundg (I.size - (a + 6))
      case measure => have := hk.out.1; omega
      case rel =>
       refine ⟨a + 6, ws ++ utf8 (code I a), by go_num, ⟨rfl, HN.out.1, HN.out.2.1, ?_, ?_⟩, ⟨?_⟩, ⟨hb.out.trans H2.out.2⟩⟩
       ·(rw [List.append_assoc, hk.out.2.2.2.1, HN.out.2.2]) <;> rfl
       ·rw [List.length_append]
        have := hk.out.2.2.2.2
        have := HL.out
        omega
       ·exact H2.out.1
    ·rw [if_neg k1, decide_eq_false k1] at CU1
     clear h1 h2 h3 h4 hcl k1
     go_wp2_with (first | (go_at_call 25; (with_reducible refine (CU0.out _).mono ?_); rintro e w2 ⟨rfl, hw2⟩; subst w2; dsimp only) | (go_at_call 25; (with_reducible refine (CU1.out _).mono ?_); rintro e w2 ⟨rfl, hw2⟩; subst w2; dsimp only) | (go_at_call 29; refine CA.out.mono ?_; rintro e w2 ⟨v1, rfl, hown2, hbel2⟩; dsimp only; have H2 := az2 hown2 hbel2; clear hown2 hbel2))
     go_roundg (I.size - (a + 6))
     case measure => have := hk.out.1; omega
     case rel =>
      refine ⟨a + 6, ws ++ utf8 (code I a), by go_num, ⟨rfl, HN.out.1, HN.out.2.1, ?_, ?_⟩, ⟨?_⟩, ⟨hb.out.trans H2.out.2⟩⟩
      ·(rw [List.append_assoc, hk.out.2.2.2.1, HN.out.2.2]) <;> rfl
      ·rw [List.length_append]
       have := hk.out.2.2.2.2
       have := HL.out
       omega
      ·exact H2.out.1
  ·obtain rfl : a = I.size := by have := hk.out.2.1; omega
   have HE := az (show de I I.size 0 = ws by rw [hk.out.2.2.2.1, de_end (Nat.le_refl _), List.append_nil])
   obtain ⟨A, c, hv⟩ := own_slice ho.out
   subst hv
   have hcv := (own_lst ho.out (by omega)).conv (c := c)
   clear haz
   go_wp2_with fail
   rw [HR.out]
   exact ⟨strOf ws, rfl, by rw [kb_strOf (fun x hx => de_lt (s := I) (z := I.size) (a := 0) x (by rw [HE.out]; exact hx)), HE.out], hb.out⟩
theorem Own.cell {w : World} {B : Nat → Prop} {e : TypeId} {size n c : Nat} {A : Option Addr} {xs : List Value} (h : Own w B e size (.slice A n c) n xs) {j : Nat} (hj : j < n * size) : ∃ g, A = some ⟨g, 0, none⟩ ∧ B g ∧ g < w.heap.size ∧ w.cell? ⟨g, j, none⟩ = xs[j]? := by
 rcases h.2 with ⟨e, h0⟩ | ⟨g, cap, cur, e, hB, hg, _, hx⟩
 ·subst h0; omega
 ·have e1 : A = some ⟨g, 0, none⟩ := by injection e
  refine ⟨g, e1, hB, blk_lt hg, ?_⟩
  rw [← hx, List.getElem?_take_of_lt hj, Array.getElem?_toList]
  exact blk_cell hg j
theorem flat2 : ∀ {names : List (Nat × Nat)} {i : Nat} {x : Nat × Nat}, names[i]? = some x → ((names.map nmv).flatMap cls)[i * 2]? = some (.int .i64 (x.1 : Int)) ∧ ((names.map nmv).flatMap cls)[i * 2 + 1]? = some (.int .i64 (x.2 : Int))
 | y :: r, 0, x, h => by simp at h; subst h; exact ⟨rfl, rfl⟩
 | y :: r, i + 1, x, h => by
  have := flat2 (names := r) (i := i) (by simpa using h)
  rw [show (i + 1) * 2 = i * 2 + 1 + 1 by omega]
  exact this
theorem PL.inv {w : World} {B : Nat → Prop} {v : Value} {t : JT} (h : PL w B v t) : ∃ (A1 A2 : Option Addr) (c1 c2 : Nat) (vals : List Value), v = .agg #[.int .i64 (t.kind : Int), .int .i64 (t.b : Int), .int .i64 (t.e : Int), .slice A1 t.names.length c1, .slice A2 t.kids.length c2] ∧
  Own w B 46 2 (.slice A1 t.names.length c1) t.names.length ((t.names.map nmv).flatMap cls) ∧ Own w B 27 5 (.slice A2 t.kids.length c2) t.kids.length (vals.flatMap cls) ∧ vals.length = t.kids.length ∧ ∀ (i : Nat) (u : Value) (k : JT), vals[i]? = some u → t.kids[i]? = some k → PL w B u k := by
 cases h with
 | mk k b e names kids nv kv vals h1 h2 h3 h4 =>
  obtain ⟨A1, c1, e1⟩ := h1.slice
  obtain ⟨A2, c2, e2⟩ := h2.slice
  subst e1
  subst e2
  exact ⟨A1, A2, c1, c2, vals, rfl, h1, h2, h3, h4⟩
def Fst (s : ByteArray) (t : JT) (key : ByteArray) (j : Nat) : Prop := (∀ i, i < j → ∀ x, t.names[i]? = some x → nm s x.1 x.2 ≠ kb key) ∧ ∃ x, t.names[j]? = some x ∧ nm s x.1 x.2 = kb key
def NamedPost (w : World) (s : ByteArray) (t : JT) (key : ByteArray) (e : Ending) (w' : World) : Prop := ∃ r : Int, e = .returned (.int .i64 r) ∧ Below w.heap.size w w' ∧ (r = -1 ∨ ∃ j : Nat, r = (j : Int) ∧ Fst s t key j)
def Strs (s : ByteArray) (t : JT) : Prop := t.names.length ≤ 65536 ∧ ∀ (i : Nat) (x : Nat × Nat), t.names[i]? = some x → Str s x.1 x.2
theorem name_calls {w : World} {s : ByteArray} {x : Nat × Nat} (hs : s.size ≤ 65536) (h : Str s x.1 x.2) : Calls Tryz.prog 15 #[.string (s.extract x.1 x.2)] w (UnqPost w (nm s x.1 x.2)) := by
 obtain ⟨h1, h2, h3, h4, h5⟩ := h
 have hz : (s.extract (x.1 + 1) (x.2 - 1)).size = x.2 - 1 - (x.1 + 1) := part_size (by omega)
 have hi := h5.part (b := x.1 + 1) (e := x.2 - 1) (by omega) (Nat.le_refl _) (Nat.le_refl _)
 rw [Nat.sub_self, ← hz] at hi
 have hd := de_part (b := x.1 + 1) (e := x.2 - 1) (z := x.2 - 1) (s := s) (by omega) (Nat.le_refl _) (x.2) (x.1 + 1) (by omega) h5 (Nat.le_refl _)
 rw [Nat.sub_self, ← hz] at hd
 have hu := unquote_calls (w := w) (q := s.extract x.1 x.2) (I := s.extract (x.1 + 1) (x.2 - 1)) (by rw [part_size h3]; omega) (by rw [part_size h3]; omega) (part_inside s h2 h3).symm hi
 rw [hd] at hu
 rw [nm_eq (by omega)]
 exact hu
theorem fst_not {s : ByteArray} {x : Nat × Nat} {k key : ByteArray} (hk : kb k = nm s x.1 x.2) : (k.toList == key.toList) = decide (nm s x.1 x.2 = kb key) := by
 rw [← hk]
 by_cases c : k = key
 ·subst c; simp
 ·have : kb k ≠ kb key := fun e => c (kb_inj e)
  rw [decide_eq_false this, beq_eq_false_iff_ne]
  intro e
  rw [ByteArray.toList_eq, ByteArray.toList_eq] at e
  apply c
  cases k; cases key
  congr 1
  exact Array.toList_inj.1 e
theorem named_calls {w : World} {B : Nat → Prop} {s key : ByteArray} {v : Value} {t : JT} (hp : PL w B v t) (hs : s.size ≤ 65536) (hn : Strs s t) :
  Calls Tryz.prog 16 #[.string s, v, .string key] w (NamedPost w s t key) := by
 refine byR fun R hR => ?_
 have HR := az hR
 obtain ⟨A1, A2, c1, c2, vals, rfl, hN, hK, hl, hpl⟩ := hp.inv
 have hs6 : (s.size : Int) ≤ 65536 := by omega
 have hn6 : (t.names.length : Int) ≤ 65536 := by have := hn.1; omega
 obtain ⟨n, hn'⟩ : ∃ n, n = t.names.length := ⟨_, rfl⟩
 have H := az3 hN hn hs
 rw [← hn'] at hn6 ⊢
 have HNN := az hn'
 clear hp hR hN hK hl hpl hs hn hn'
 go_enter Tryz.func16, Tryz.ntmps16
 have H0 : Aside0 (Below w.heap.size w (w.alloc (.cells #[.int .i64 (t.kind : Int), .int .i64 (t.b : Int), .int .i64 (t.e : Int), .slice A1 n c1, .slice A2 t.kids.length c2] 27)) ∧ (w.alloc (.cells #[.int .i64 (t.kind : Int), .int .i64 (t.b : Int), .int .i64 (t.e : Int), .slice A1 n c1, .slice A2 t.kids.length c2] 27)).heap[w.heap.size]? = some (.cells #[.int .i64 (t.kind : Int), .int .i64 (t.b : Int), .int .i64 (t.e : Int), .slice A1 n c1, .slice A2 t.kids.length c2] 27 (0, 0))) := ⟨(Below.refl _ _).alloc (Nat.le_refl _) _, heap_alloc_new _ _⟩
 go_wp2_with fail
 go_loopg [7] n (fun q v7 w' => ∃ i : Nat, v7 = .int .i64 (i : Int) ∧ Aside0 (q = n - i ∧ i ≤ n ∧ ∀ k, k < i → ∀ x, t.names[k]? = some x → nm s x.1 x.2 ≠ kb key) ∧ Aside0 (Below w.heap.size w w' ∧ w'.heap[w.heap.size]? = some (.cells #[.int .i64 (t.kind : Int), .int .i64 (t.b : Int), .int .i64 (t.e : Int), .slice A1 n c1, .slice A2 t.kids.length c2] 27 (0, 0))))
 case atStart => exact ⟨0, rfl, ⟨by omega, Nat.zero_le _, fun k hk => absurd hk (by omega)⟩, H0⟩
 case round =>
  obtain ⟨i, rfl, hi, hw⟩ := hrel
  have e3 := (blk_cell hw.out.2 3).trans rfl
  by_cases hin : i < n
  ·have hi6 : (i : Int) < (n : Int) := by omega
   obtain ⟨x, hx⟩ : ∃ x, t.names[i]? = some x := ⟨_, List.getElem?_eq_getElem (by have := HNN.out; omega)⟩
   have hst := H.out.2.1.2 i x hx
   obtain ⟨f1, f2⟩ := flat2 hx
   obtain ⟨g, hA, hB, hg, k1⟩ := H.out.1.cell (j := i * 2) (by have := HNN.out; omega)
   obtain ⟨g', hA', _, _, k2⟩ := H.out.1.cell (j := i * 2 + 1) (by have := HNN.out; omega)
   subst hA
   cases hA'
   have d1 := ((World.cell?_of_block (a := ⟨g, i * 2, none⟩) (hw.out.1.block g hg)).trans k1).trans f1
   have d2 := ((World.cell?_of_block (a := ⟨g, i * 2 + 1, none⟩) (hw.out.1.block g hg)).trans k2).trans f2
   obtain ⟨x1, x2⟩ := x
   have CU := az (fun W => name_calls (w := W) H.out.2.2 hst)
   have hle : (x1 : Int) ≤ (x2 : Int) := by have := hst.2.1; omega
   have hle2 : (x2 : Int) ≤ (s.size : Int) := by have := hst.2.2.1; omega
   have hx1 : (0 : Int) ≤ (x1 : Int) := by omega
   have HX := az hx
   clear hst f1 f2 k1 k2 hB hg hin hx
   go_upto_region 4 with fail
   go_cut [31] (fun v31 w' => v31 = .bool (decide (nm s x1 x2 = kb key)) ∧ Aside0 (Below wr.heap.size wr w'))
   case first =>
    go_region_with (go_at_call 15; refine Calls.mono (CU.out _) ?_; rintro e w1 ⟨k, rfl, hk, hbl⟩; dsimp only; have HB1 := az2 hk (undrew hbl); clear hk hbl)
    all_goals
     go_wp2_with fail
     go_meet
     exact ⟨by rw [← fst_not (x := (x1, x2)) HB1.out.1], ⟨HB1.out.2⟩⟩
   case rest =>
   obtain ⟨rfl, hbc⟩ := hcut
   by_cases heq : nm s x1 x2 = kb key
   ·rw [decide_eq_true heq]
    have HE := az heq
    clear heq
    go_wp2_with fail
    rw [HR.out]
    exact ⟨(i : Int), rfl, hw.out.1.trans (hbc.out.mono hw.out.1.size), .inr ⟨i, rfl, hi.out.2.2, (x1, x2), HX.out, HE.out⟩⟩
   ·rw [decide_eq_false heq]
    have HE := az heq
    clear heq
    go_wp2_with fail
    go_roundg (n - (i + 1))
    case measure => have := hi.out.1; omega
    case rel => exact ⟨i + 1, by go_num, ⟨rfl, by omega, fun k hk x h => by
      by_cases c : k < i
      ·exact hi.out.2.2 k c x h
      ·obtain rfl : k = i := by omega
       have e := HX.out.symm.trans h
       cases e
       exact HE.out⟩, ⟨hw.out.1.trans (hbc.out.mono hw.out.1.size), blk_below hw.out.2 hbc.out⟩⟩
  ·have t1 : decide ((i : Int) < (n : Int)) = false := dF
   have t1n : decide (i < n) = false := decide_eq_false hin
   clear hin
   go_wp2_with fail
   rw [HR.out]
   exact ⟨-1, rfl, hw.out.1, .inl rfl⟩
def dt (k : ByteArray) : Nat → Nat
 | 0 => 0
 | n + 1 => dt k n * 10 + (bn k n - 48)
def IdxPost (w : World) (k : ByteArray) (e : Ending) (w' : World) : Prop :=
 ∃ (c : Int) (b : Bool), e = .returned (.tuple #[.int .i64 c, .bool b]) ∧ w' = w ∧ (b = true → 0 < k.size ∧ (1 < k.size → bn k 0 ≠ 48) ∧ (∀ i, i < k.size → digit (bn k i)) ∧ 0 ≤ c ∧ (c < 288230376151711744 → c = (dt k k.size : Int)))
theorem index_calls {w : World} {k : ByteArray} (hk : k.size ≤ 2147483647) : Calls Tryz.prog 30 #[.string k] w (IdxPost w k) := by
 refine byR fun R hR => ?_
 have HR := az hR
 have NO : Aside0 (R (.returned (.tuple #[.int .i64 0, .bool false])) w) := ⟨by rw [hR]; exact ⟨0, false, rfl, rfl, fun h => by cases h⟩⟩
 have HK := az hk
 clear hR hk
 by_cases h0 : k.size = 0
 ·have e : k = ByteArray.mk #[] := by
   cases k with
   | mk d => congr 1; exact Array.eq_empty_of_size_eq_zero h0
  subst e
  go_enter Tryz.func30, Tryz.ntmps30
  go_wp2_with fail
  exact NO.out
 ·have tN : ¬ k.toList = [] := by
   intro e
   rw [ByteArray.toList_eq] at e
   have := congrArg List.length e
   exact h0 (by simpa using this)
  have tE : k.toList.isEmpty = false := by
   rw [List.isEmpty_eq_false_iff]; exact tN
  have i0 : 0 < k.size := by omega
  have i06 : (0 : Int) < (k.size : Int) := by omega
  have x0 := bn_idx i0
  by_cases h48 : 1 < k.size ∧ bn k 0 = 48
  ·have t1 : decide ((1 : Int) < (k.size : Int)) = true := dT
   rw [h48.2] at x0
   clear h0 h48
   go_enter Tryz.func30, Tryz.ntmps30
   go_wp2_with fail
   exact NO.out
  ·have HF := az2 i0 h48
   go_enter Tryz.func30, Tryz.ntmps30
   go_upto_region 1 with fail
   go_cut [18] (fun v18 w' => v18 = .bool false ∧ Aside0 (w' = w))
   case first =>
    by_cases h1 : 1 < k.size
    ·have t1 : decide ((1 : Int) < (k.size : Int)) = true := dT
     have n1 : ((k[0]'i0).toNat : Int) ≠ 48 := by rw [x0]; omega
     have t2 : (((k[0]'i0).toNat : Int) == 48) = false := beqF n1
     clear h0 h48 h1 n1 x0
     go_wp2_with fail
     go_meet
     exact ⟨rfl, ⟨rfl⟩⟩
    ·have t1 : decide ((1 : Int) < (k.size : Int)) = false := dF
     clear h0 h48 h1 x0
     go_wp2_with fail
     go_meet
     exact ⟨rfl, ⟨rfl⟩⟩
   case rest =>
   obtain ⟨rfl, hw0⟩ := hcut
   have ew := hw0.out
   subst ew
   clear h0 h48 tN tE x0 i06
   go_wp2_with fail
   go_loopg [4, 5] k.size (fun q v4 v5 w' => ∃ (i : Nat) (c : Int), v4 = .int .i64 c ∧ v5 = .int .i64 (i : Int) ∧ Aside0 (q = k.size - i ∧ i ≤ k.size ∧ (∀ j, j < i → digit (bn k j)) ∧ 0 ≤ c ∧ c ≤ 4611686018427387904 ∧ (c < 288230376151711744 → c = (dt k i : Int))) ∧ Aside0 (w' = wc))
   case atStart => exact ⟨0, 0, rfl, rfl, ⟨by omega, Nat.zero_le _, fun j hj => absurd hj (by omega), Int.le_refl _, by decide, fun _ => rfl⟩, ⟨rfl⟩⟩
   case round =>
    obtain ⟨i, c, rfl, rfl, hi, hw⟩ := hrel
    have ew := hw.out
    subst ew
    by_cases hik : i < k.size
    ·have hi6 : (i : Int) < (k.size : Int) := by omega
     have xi := bn_idx hik
     have wi : IntKind.i64.wrap ((i : Int) + 1) = (i : Int) + 1 := by rw [IntKind.wrap_i64]; have := HK.out; omega
     have hc0 := hi.out.2.2.2
     obtain ⟨d, hd⟩ : ∃ d, d = bn k i := ⟨_, rfl⟩
     rw [← hd] at xi
     have HD := az hd
     have hdl := bn_lt k i
     rw [← hd] at hdl
     clear hd
     by_cases hdg : digit d
     ·have t48 : decide ((d : Int) < 48) = false := decide_eq_false (by unfold digit at hdg; omega)
      have t57 : decide ((57 : Int) < (d : Int)) = false := decide_eq_false (by unfold digit at hdg; omega)
      have d48 : (48 : Int) ≤ (d : Int) := by unfold digit at hdg; omega
      have d57 : (d : Int) ≤ 57 := by unfold digit at hdg; omega
      have HDG := az hdg
      have w1 : IntKind.u8.wrap ((d : Int) - 48) = (d : Int) - 48 := by rw [IntKind.wrap_u8]; omega
      by_cases hb : c < 288230376151711744
      ·have tb : decide (c < 288230376151711744) = true := decide_eq_true hb
       have w2 : IntKind.i64.wrap (c * 10) = c * 10 := by rw [IntKind.wrap_i64]; omega
       have w3 : IntKind.i64.wrap (c * 10 + ((d : Int) - 48)) = c * 10 + ((d : Int) - 48) := by rw [IntKind.wrap_i64]; omega
       have HC := az3 hb d48 d57
       clear hdg hb hc0 hdl
       go_wp2_with fail
       go_roundg (k.size - (i + 1))
       case measure => have := hi.out.1; omega
       case rel =>
        refine ⟨i + 1, _, rfl, by go_num, ⟨rfl, hik, fun j hj => ?_, ?_, ?_, fun h => ?_⟩, ⟨rfl⟩⟩
        ·by_cases cj : j < i
         ·exact hi.out.2.2.1 j cj
         ·obtain rfl : j = i := by omega
          rw [← HD.out]; exact HDG.out
        ·have := hi.out.2.2.2.1; have := HC.out; omega
        ·have := HC.out; omega
        ·have := hi.out.2.2.2.2.2 HC.out.1
         have := HC.out
         show _ = ((dt k i * 10 + (bn k i - 48) : Nat) : Int)
         rw [← HD.out]
         omega
      ·have tb : decide (c < 288230376151711744) = false := decide_eq_false hb
       clear hdg hb hc0 hdl
       go_wp2_with fail
       go_roundg (k.size - (i + 1))
       case measure => have := hi.out.1; omega
       case rel =>
        refine ⟨i + 1, _, rfl, by go_num, ⟨rfl, hik, fun j hj => ?_, by decide, by decide, fun h => absurd h (by decide)⟩, ⟨rfl⟩⟩
        by_cases cj : j < i
        ·exact hi.out.2.2.1 j cj
        ·obtain rfl : j = i := by omega
         rw [← HD.out]; exact HDG.out
     ·clear hc0
      unfold digit at hdg
      by_cases h47 : d < 48
      ·have t48 : decide ((d : Int) < 48) = true := dT
       clear hdg h47 hdl
       go_wp2_with fail
       exact NO.out
      ·have t48 : decide ((d : Int) < 48) = false := dF
       have t57 : decide ((57 : Int) < (d : Int)) = true := dT
       clear hdg h47 hdl
       go_wp2_with fail
       exact NO.out
    ·obtain rfl : i = k.size := by have := hi.out.2.1; omega
     have t1 : decide ((k.size : Int) < (k.size : Int)) = false := dF
     clear hik
     go_wp2_with fail
     rw [HR.out]
     exact ⟨c, true, rfl, rfl, fun _ => ⟨HF.out.1, fun h e => HF.out.2 ⟨h, e⟩, hi.out.2.2.1, hi.out.2.2.2.1, hi.out.2.2.2.2.2⟩⟩
def BrkPost (w : World) (k : ByteArray) (e : Ending) (w' : World) : Prop :=
 ∃ (c : Int) (b : Bool), e = .returned (.tuple #[.int .i64 c, .bool b]) ∧ w' = w ∧ (b = true → 0 ≤ c ∧ (c < 100000 → Brk k c.toNat))
theorem dt_dv {k d : ByteArray} (h : ∀ i, i < d.size → bn d i = bn k (i + 1)) : ∀ n, n ≤ d.size → dt d n = dv k n
 | 0, _ => rfl
 | n + 1, hn => by show dt d n * 10 + (bn d n - 48) = dv k n * 10 + (bn k (n + 1) - 48); rw [dt_dv h n (by omega), h n (by omega)]
theorem bracket_calls {w : World} {k : ByteArray} (hk : k.size ≤ 2147483647) : Calls Tryz.prog 17 #[.string k] w (BrkPost w k) := by
 refine byR fun R hR => ?_
 have HR := az hR
 have NO : Aside0 (R (.returned (.tuple #[.int .i64 0, .bool false])) w) := ⟨by rw [hR]; exact ⟨0, false, rfl, rfl, fun h => by cases h⟩⟩
 have HK := az hk
 clear hR
 by_cases h3 : 3 ≤ k.size
 ·have t3 : decide ((k.size : Int) < 3) = false := dF
  have i0 : 0 < k.size := by omega
  have i06 : (0 : Int) < (k.size : Int) := by omega
  have x0 := bn_idx i0
  have i1 : k.size - 1 < k.size := by omega
  have x1 := bn_idx i1
  have w1 : IntKind.i64.wrap ((k.size : Int) - 1) = (k.size : Int) - 1 := by rw [IntKind.wrap_i64]; omega
  have e1 : ((k.size : Int) - 1).toNat = k.size - 1 := by omega
  have l1 : (0 : Int) ≤ (k.size : Int) - 1 := by omega
  have l2 : (1 : Int) ≤ (k.size : Int) - 1 := by omega
  have l3 : (k.size : Int) - 1 < (k.size : Int) := by omega
  have l4 : (k.size : Int) - 1 ≤ (k.size : Int) := by omega
  have HS := az h3
  clear hk h3
  by_cases h91 : bn k 0 = 91
  ·rw [h91] at x0
   by_cases h93 : bn k (k.size - 1) = 93
   ·rw [h93] at x1
    have HB := az2 h91 h93
    have CI := az (index_calls (w := w) (k := k.extract 1 (k.size - 1)) (by rw [part_size (by omega)]; have := HK.out; omega))
    clear h91 h93
    go_enter Tryz.func17, Tryz.ntmps17
    go_wp2_with (go_at_call 30; refine CI.out.mono ?_; rintro e w2 ⟨c, b, rfl, hw2, hb⟩; subst w2; dsimp only; have HX := az hb; clear hb)
    rw [HR.out]
    refine ⟨c, b, rfl, rfl, fun h => ?_⟩
    obtain ⟨y1, y2, y3, y4, y5⟩ := HX.out h
    have hz := part_size (s := k) (b := 1) (e := k.size - 1) (by omega)
    have hbn : ∀ i, i < (k.extract 1 (k.size - 1)).size → bn (k.extract 1 (k.size - 1)) i = bn k (i + 1) := fun i hi => by rw [bn_part (by omega) (by omega), Nat.add_comm]
    refine ⟨y4, fun hc => ⟨HS.out, HB.out.1, HB.out.2, fun i h1 h2 => ?_, fun h48 => ?_, ?_⟩⟩
    ·have := y3 (i - 1) (by omega)
     rw [hbn _ (by omega), show i - 1 + 1 = i by omega] at this
     exact this
    ·by_cases g : 1 < (k.extract 1 (k.size - 1)).size
     ·refine absurd ?_ (y2 g)
      rw [hbn 0 (by omega)]
      exact h48
     ·omega
    ·rw [y5 (by omega), hz, dt_dv hbn _ (by omega)]
     rw [show k.size - 1 - 1 = k.size - 2 by omega]
     simp
   ·have n1 : ((k[k.size - 1]'i1).toNat : Int) ≠ 93 := by rw [x1]; omega
    have t2 : (((k[k.size - 1]'i1).toNat : Int) != 93) = true := bneT n1
    clear h91 h93 n1 x1
    go_enter Tryz.func17, Tryz.ntmps17
    go_wp2_with fail
    exact NO.out
  ·have n1 : ((k[0]'i0).toNat : Int) ≠ 91 := by rw [x0]; omega
   have t2 : (((k[0]'i0).toNat : Int) != 91) = true := bneT n1
   clear h91 n1 x0 x1
   go_enter Tryz.func17, Tryz.ntmps17
   go_wp2_with fail
   exact NO.out
 ·have t3 : decide ((k.size : Int) < 3) = true := dT
  clear hk h3
  go_enter Tryz.func17, Tryz.ntmps17
  go_wp2_with fail
  exact NO.out
end JS
end Go.Proofs.YtbimfhaokgigkaaGreatDoor
