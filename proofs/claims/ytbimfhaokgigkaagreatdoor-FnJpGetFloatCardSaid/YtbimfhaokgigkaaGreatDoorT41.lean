/- Walks of functions of FnJpGetFloat (Y9, Y10); conditions stand ahead of each theorem. -/
import Derived.Test.YtbimfhaokgigkaaGreatDoorT40
import Derived.Test.YtbimfhaokgigkaaGreatDoorT31
set_option maxRecDepth 100000
set_option maxHeartbeats 2000000
namespace Go.Proofs.YtbimfhaokgigkaaGreatDoor
open Go.RowKit Go.Proofs.YtbimfhaokgigkaaGreatDoorW.PrintWords Go.Proofs.YtbimfhaokgigkaaGreatDoorW.PrintLast
namespace JS
theorem short_calls {w : World} {c : Nat} (hc : c < 256) : Calls Tryz.prog 26 #[.int .u8 (c : Int)] w (RetS w (.int .u8 (shortv c : Int))) := by
 by_cases h : c = 98 ∨ c = 102 ∨ c = 110 ∨ c = 114 ∨ c = 116
 ·rcases h with rfl | rfl | rfl | rfl | rfl
  all_goals
   go_enter Tryz.func26, Tryz.ntmps26
   go_wp2
   go_ret
   exact ⟨rfl, rfl⟩
 ·have e : shortv c = c := by
   unfold shortv
   rw [if_neg (by omega), if_neg (by omega), if_neg (by omega), if_neg (by omega), if_neg (by omega)]
  rw [e]
  have a1 : ((c : Int) == 98) = false := beqF
  have a2 : ((c : Int) == 102) = false := beqF
  have a3 : ((c : Int) == 110) = false := beqF
  have a4 : ((c : Int) == 114) = false := beqF
  have a5 : ((c : Int) == 116) = false := beqF
  have b1 : (c == 98) = false := beqFn
  have b2 : (c == 102) = false := beqFn
  have b3 : (c == 110) = false := beqFn
  have b4 : (c == 114) = false := beqFn
  have b5 : (c == 116) = false := beqFn
  clear h e
  go_enter Tryz.func26, Tryz.ntmps26
  go_wp2
  go_ret
  exact ⟨rfl, rfl⟩
theorem high_calls {w : World} {n : Nat} : Calls Tryz.prog 27 #[.int .i64 (n : Int)] w (RetS w (.bool (decide (high n)))) := by
 by_cases h1 : 55296 ≤ n
 ·have c1 : (55296 : Int) ≤ (n : Int) := by omega
  have e : decide (high n) = decide ((n : Int) ≤ 56319) := by rw [decide_eq_decide]; unfold high; omega
  rw [e]
  clear e h1
  go_enter Tryz.func27, Tryz.ntmps27
  go_wp2
  go_ret
  exact ⟨rfl, rfl⟩
 ·have c1 : decide ((55296 : Int) ≤ (n : Int)) = false := dF
  have c2 : decide (55296 ≤ n) = false := decide_eq_false h1
  have e : decide (high n) = false := decide_eq_false (by unfold high; omega)
  rw [e]
  clear e h1
  go_enter Tryz.func27, Tryz.ntmps27
  go_wp2
  go_ret
  exact ⟨rfl, rfl⟩
theorem low_calls {w : World} {n : Nat} : Calls Tryz.prog 28 #[.int .i64 (n : Int)] w (RetS w (.bool (decide (low n)))) := by
 by_cases h1 : 56320 ≤ n
 ·have c1 : (56320 : Int) ≤ (n : Int) := by omega
  have e : decide (low n) = decide ((n : Int) ≤ 57343) := by rw [decide_eq_decide]; unfold low; omega
  rw [e]
  clear e h1
  go_enter Tryz.func28, Tryz.ntmps28
  go_wp2
  go_ret
  exact ⟨rfl, rfl⟩
 ·have c1 : decide ((56320 : Int) ≤ (n : Int)) = false := dF
  have c2 : decide (56320 ≤ n) = false := decide_eq_false h1
  have e : decide (low n) = false := decide_eq_false (by unfold low; omega)
  rw [e]
  clear e h1
  go_enter Tryz.func28, Tryz.ntmps28
  go_wp2
  go_ret
  exact ⟨rfl, rfl⟩
section
variable {w : World} {s : ByteArray} {a : Nat}
def cod (s : ByteArray) (a : Nat) : Nat → Nat
 | 0 => 0
 | k + 1 => cod s a k * 16 + hexv (bn s (a + 2 + k))
theorem cod_lt {k : Nat} (h : ∀ j, j < k → hex (bn s (a + 2 + j))) : cod s a k < 16 ^ k := by
 induction k with
 | zero => show 0 < 1; omega
 | succ k ih =>
  have := hexv_lt (h k (by omega))
  have := ih fun j hj => h j (by omega)
  rw [Nat.pow_succ]
  show cod s a k * 16 + hexv (bn s (a + 2 + k)) < _
  omega
theorem unit_calls (hs : s.size ≤ 65536) (ha : a ≤ s.size) : Calls Tryz.prog 25 #[.string s, .int .i64 (a : Int)] w (RetS w (.tuple #[.int .i64 (if unitAt s a s.size then (code s a : Int) else 0), .bool (decide (unitAt s a s.size))])) := by
 refine byR fun R hR => ?_
 have hs6 : (s.size : Int) ≤ 65536 := by omega
 have ha6 : (a : Int) ≤ (s.size : Int) := by omega
 have NO : Aside0 (¬ unitAt s a s.size → R (.returned (.tuple #[.int .i64 0, .bool false])) w) := ⟨fun h => by rw [hR, if_neg h, decide_eq_false h]; exact ⟨rfl, rfl⟩⟩
 have YES : Aside0 (unitAt s a s.size → R (.returned (.tuple #[.int .i64 (code s a : Int), .bool true])) w) := ⟨fun h => by rw [hR, if_pos h, decide_eq_true h]; exact ⟨rfl, rfl⟩⟩
 clear hR
 by_cases h6 : a + 6 ≤ s.size
 ·have t1 : decide ((s.size : Int) - (a : Int) < 6) = false := dF
  have i0 : a < s.size := by omega
  have i1 : a + 1 < s.size := by omega
  have a6 : (a : Int) + 6 ≤ (s.size : Int) := by omega
  have x0 := bn_idx i0
  have x1 := bn_idx i1
  have hs7 : (a : Int) ≤ 65536 := by omega
  by_cases h92 : bn s a = 92
  ·rw [h92] at x0
   have e1 : ((a : Int) + 1).toNat = a + 1 := by omega
   by_cases h117 : bn s (a + 1) = 117
   ·rw [h117] at x1
    have HP := az3 h6 h92 h117
    clear h92 h117 h6 hs
    go_enter Tryz.func25, Tryz.ntmps25
    go_wp2_with fail
    go_loopg [6, 7] 4 (fun q v6 v7 w' => ∃ k : Nat, v6 = .int .i64 (cod s a k : Int) ∧ v7 = .int .i64 ((a : Int) + 2 + (k : Int)) ∧ Aside0 (q = 4 - k ∧ k ≤ 4 ∧ ∀ j, j < k → hex (bn s (a + 2 + j))) ∧ Aside0 (w' = w))
    case atStart => exact ⟨0, rfl, by go_num, ⟨rfl, Nat.zero_le _, fun j hj => absurd hj (by omega)⟩, ⟨rfl⟩⟩
    case round =>
     obtain ⟨k, rfl, rfl, hk, hw⟩ := hrel
     have ew := hw.out
     subst ew
     by_cases hk4 : k < 4
     ·have hk6 : (k : Int) < 4 := by omega
      have ik : a + 2 + k < s.size := by have := HP.out.1; omega
      have xk := bn_idx ik
      have ek : ((a : Int) + 2 + (k : Int)).toNat = a + 2 + k := by omega
      have hcl := cod_lt hk.out.2.2
      have hpw : 16 ^ k ≤ 16 ^ 3 := Nat.pow_le_pow_right (by omega) (by omega)
      have hC6 : (cod s a k : Int) ≤ 4096 := by omega
      have hbk := bn_lt s (a + 2 + k)
      have HW : Aside0 (cod s a (k + 1) = cod s a k * 16 + hexv (bn s (a + 2 + k))) := ⟨rfl⟩
      by_cases hx : hex (bn s (a + 2 + k))
      ·have CX := az (fun W => hex_yes (w := W) hx)
       have hv := hexv_lt hx
       have HX := az hx
       obtain ⟨H, hH⟩ : ∃ H, H = hexv (bn s (a + 2 + k)) := ⟨_, rfl⟩
       obtain ⟨C, hC⟩ : ∃ C, C = cod s a k := ⟨_, rfl⟩
       rw [← hH, ← hC] at HW
       rw [← hH] at CX hv
       rw [← hC] at hC6 ⊢
       have hv6 : (H : Int) < 16 := by omega
       clear hx hcl hpw hC hH hv hk4
       go_wp2_with (go_at_call 45; refine (CX.out _).mono ?_; rintro e w2 ⟨rfl, rfl⟩; dsimp only)
       go_roundg (4 - (k + 1))
       case measure => have := hk.out.1; omega
       case rel => exact ⟨k + 1, by rw [HW.out]; go_num, by go_num, ⟨rfl, by omega, fun j hj => by
         by_cases c : j < k
         ·exact hk.out.2.2 j c
         ·obtain rfl : j = k := by omega
          exact HX.out⟩, ⟨rfl⟩⟩
      ·have CX := az (fun W => hex_no (w := W) hx hbk)
       have HX := az hx
       clear hx hcl hpw hk4
       go_wp2_with (go_at_call 45; refine (CX.out _).mono ?_; rintro e w2 ⟨rfl, rfl⟩; dsimp only)
       refine NO.out fun h => HX.out ?_
       obtain ⟨_, _, _, g2, g3, g4, g5⟩ := h
       have hk' : k = 0 ∨ k = 1 ∨ k = 2 ∨ k = 3 := by omega
       rcases hk' with e | e | e | e
       ·rw [e]; exact g2
       ·rw [e]; exact g3
       ·rw [e]; exact g4
       ·rw [e]; exact g5
     ·obtain rfl : k = 4 := by have := hk.out.2.1; omega
      have hcode : cod s a 4 = code s a := by
       show (((0 * 16 + hexv (bn s (a + 2))) * 16 + hexv (bn s (a + 3))) * 16 + hexv (bn s (a + 4))) * 16 + hexv (bn s (a + 5)) = ((hexv (bn s (a + 2)) * 16 + hexv (bn s (a + 3))) * 16 + hexv (bn s (a + 4))) * 16 + hexv (bn s (a + 5))
       omega
      rw [hcode]
      have hu := hk.out.2.2
      have HU : Aside0 (unitAt s a s.size) := ⟨⟨HP.out.1, HP.out.2.1, HP.out.2.2, hu 0 (by omega), hu 1 (by omega), hu 2 (by omega), hu 3 (by omega)⟩⟩
      clear hcode hu hk4
      go_wp2_with fail
      exact YES.out HU.out
   ·have n1 : ((s[a + 1]'i1).toNat : Int) ≠ 117 := by rw [x1]; omega
    have t2 : (((s[a + 1]'i1).toNat : Int) != 117) = true := bneT n1
    have HN := az h117
    clear h92 h117 h6 hs n1 x1
    go_enter Tryz.func25, Tryz.ntmps25
    go_wp2_with fail
    exact NO.out fun h => HN.out h.2.2.1
  ·have n1 : ((s[a]'i0).toNat : Int) ≠ 92 := by rw [x0]; omega
   have t2 : (((s[a]'i0).toNat : Int) != 92) = true := bneT n1
   have HN := az h92
   clear h92 h6 hs n1 x0 x1
   go_enter Tryz.func25, Tryz.ntmps25
   go_wp2_with fail
   exact NO.out fun h => HN.out h.2.1
 ·have t1 : decide ((s.size : Int) - (a : Int) < 6) = true := dT
  have HN := az h6
  clear h6 hs
  go_enter Tryz.func25, Tryz.ntmps25
  go_wp2_with fail
  exact NO.out fun h => HN.out h.1
end
def bts (l : List Nat) : List Value := l.map fun d => .int .u8 ((d : Nat) : Int)
theorem bts_add (a b : List Nat) : bts (a ++ b) = bts a ++ bts b := by unfold bts; rw [List.map_append]
theorem info_byte : (Tryz.prog.info? 5).map (fun i => (i.zero, i.size, i.bytes)) = some (some (.int .u8 0), 1, 1) := by kernel_rfl
theorem new_cells (w : World) (n : Nat) (hn : n = w.heap.size) (xs : List Value) (t : TypeId) : ∀ j u, xs[j]? = some u → (w.alloc (.cells xs.toArray t)).cell? ((⟨n, 0, none⟩ : Addr).add j) = some u := by
 subst hn
 intro j u hj
 have e : (⟨w.heap.size, 0, none⟩ : Addr).add j = ⟨w.heap.size, j, none⟩ := by
  unfold Addr.add
  by_cases h0 : j = 0
  ·rw [if_pos h0, h0]
  ·rw [if_neg h0]; simp
 rw [e]
 refine (blk_cell (heap_alloc_new w (.cells xs.toArray t)) j).trans ?_
 simpa using hj
theorem bytes_one {xs : List Value} (h : ∃ l : List Int, xs = l.map (Value.int .u8)) : ∀ u ∈ xs, u.oneCell' = true := by
 obtain ⟨l, rfl⟩ := h
 intro u hu
 obtain ⟨x, _, rfl⟩ := List.mem_map.1 hu
 rfl
theorem below_row {B : Nat} {wr w2 : World} {e : TypeId} {size n : Nat} {v : Value} {xs : List Value} {o : Obj} (h0 : B ≤ wr.heap.size) (h : wr.ownsRow B e size v n xs) (hg : (wr.alloc o).grownBy w2 v.ownBlock) : Below B wr w2 := by
 refine ⟨hg.os, hg.tape, hg.output, Nat.le_trans (by simp) hg.size, fun k hk => ?_⟩
 rw [hg.block k (by simp; omega) (fun e' => by have := (h.lt k e'.symm).1; omega)]
 exact heap_alloc_old wr o (by omega)
def AppPost (w : World) (B : Nat) (ws : List Nat) (x : Ending) (w' : World) : Prop := ∃ v', x = .returned v' ∧ w'.ownsRow B 5 1 v' ws.length (bts ws) ∧ Below B w w'
set_option maxRecDepth 1000000 in
theorem appendUTF8_calls {w : World} {B n : Nat} {v : Value} {ws : List Nat} (h : w.ownsRow B 5 1 v ws.length (bts ws)) (hB : B ≤ w.heap.size) (hl : ws.length ≤ 65536) (hn : n < 1114112) :
  Calls Tryz.prog 29 #[v, .int .i64 (n : Int)] w (AppPost w B (ws ++ utf8 n)) := by
 refine byR fun R hR => ?_
 obtain ⟨i0, hi, hz0, hz1, hz2⟩ := info_parts info_byte
 have hq6 : (n : Int) / 262144 ≤ 4 := by omega
 clear hn
 have H := az2 h hB
 have END : Aside0 (∀ (xs : List Int) (o : Obj) (v1 : Value) (w2 : World), xs = (utf8 n).map (fun x : Nat => (x : Int)) → w2.ownsRow B 5 1 v1 (ws.length + xs.length) (bts ws ++ xs.map (Value.int .u8)) → (w.alloc o).grownBy w2 v.ownBlock → R (.returned v1) w2) := ⟨fun xs o v1 w2 e h1 h2 => by
  rw [hR]
  refine ⟨v1, rfl, ?_, below_row hB h h2⟩
  subst e
  rw [List.length_map] at h1
  rw [List.length_append, bts_add]
  unfold bts at h1 ⊢
  simpa [List.map_map, Function.comp_def] using h1⟩
 clear hR h
 by_cases h1 : n < 128
 ·have e : utf8 n = [n] := by unfold utf8; rw [if_pos h1]
  rw [e] at END
  have c1 : (n : Int) < 128 := by omega
  clear h1 e
  go_enter Tryz.func29, Tryz.ntmps29
  go_wp2_with (at_builtin; refine wpList_append_own_at _ rfl _ _ 43 rfl B 5 i0 (.int .u8 0) 1 1 Tryz.underlying43 hi hz0 hz1 hz2 rfl (by decide) _ ws.length _ rfl (H.out.1.alloc _) _ 1 1 [_] rfl rfl (new_cells _ _ rfl _ _) (bytes_one ⟨[_], rfl⟩) (by unfold maxLen; omega) (by omega) (by have := H.out.2; simp; omega) ?_; intro v1 w2 hown2 hgrow2 hnil2 hat2; clear hnil2 hat2)
  exact END.out [(n : Int)] _ _ _ rfl hown2 hgrow2
 ·have t1 : decide ((n : Int) < 128) = false := dF
  have t1n : decide (n < 128) = false := decide_eq_false h1
  by_cases h2 : n < 2048
  ·have e : utf8 n = [192 + n / 64, 128 + n % 64] := by unfold utf8; rw [if_neg h1, if_pos h2]
   rw [e] at END
   have c1 : (n : Int) < 2048 := by omega
   clear h1 h2 e
   go_enter Tryz.func29, Tryz.ntmps29
   go_wp2_with (at_builtin; refine wpList_append_own_at _ rfl _ _ 43 rfl B 5 i0 (.int .u8 0) 1 1 Tryz.underlying43 hi hz0 hz1 hz2 rfl (by decide) _ ws.length _ rfl (H.out.1.alloc _) _ 2 2 [_, _] rfl rfl (new_cells _ _ rfl _ _) (bytes_one ⟨[_, _], rfl⟩) (by unfold maxLen; omega) (by omega) (by have := H.out.2; simp; omega) ?_; intro v1 w2 hown2 hgrow2 hnil2 hat2; clear hnil2 hat2)
   refine END.out [_, _] _ _ _ ?_ hown2 hgrow2
   show [_, _] = [((192 + n / 64 : Nat) : Int), ((128 + n % 64 : Nat) : Int)]
   simp only [List.cons.injEq, and_true]
   omega
  ·have t2 : decide ((n : Int) < 2048) = false := dF
   have t2n : decide (n < 2048) = false := decide_eq_false h2
   by_cases h3 : high n ∨ low n
   ·have e : utf8 n = [239, 191, 189] := by unfold utf8; rw [if_neg h1, if_neg h2, if_pos h3]
    rw [e] at END
    by_cases h4 : high n
    ·have CH := az (fun W => high_calls (w := W) (n := n))
     rw [decide_eq_true h4] at CH
     have c1 : (n : Int) < 65536 := by unfold high low at h3; omega
     clear h1 h2 h3 h4 e hq6
     go_enter Tryz.func29, Tryz.ntmps29
     go_wp2_with (first | (go_at_call 27; refine (CH.out _).mono ?_; rintro e w2 ⟨rfl, hw2⟩; subst hw2; dsimp only) | (at_builtin; refine wpList_append_own_at _ rfl _ _ 43 rfl B 5 i0 (.int .u8 0) 1 1 Tryz.underlying43 hi hz0 hz1 hz2 rfl (by decide) _ ws.length _ rfl (H.out.1.alloc _) _ 3 3 [_, _, _] rfl rfl (new_cells _ _ rfl _ _) (bytes_one ⟨[_, _, _], rfl⟩) (by unfold maxLen; omega) (by omega) (by have := H.out.2; simp; omega) ?_; intro v1 w2 hown2 hgrow2 hnil2 hat2; clear hnil2 hat2))
     exact END.out [239, 191, 189] _ _ _ rfl hown2 hgrow2
    ·have CH := az (fun W => high_calls (w := W) (n := n))
     rw [decide_eq_false h4] at CH
     have CL := az (fun W => low_calls (w := W) (n := n))
     rw [decide_eq_true (h3.resolve_left h4)] at CL
     have c1 : (n : Int) < 65536 := by unfold high low at h3; omega
     clear h1 h2 h3 h4 e hq6
     go_enter Tryz.func29, Tryz.ntmps29
     go_wp2_with (first | (go_at_call 27; refine (CH.out _).mono ?_; rintro e w2 ⟨rfl, rfl⟩; dsimp only) | (go_at_call 28; refine (CL.out _).mono ?_; rintro e w2 ⟨rfl, hw2⟩; subst hw2; dsimp only) | (at_builtin; refine wpList_append_own_at _ rfl _ _ 43 rfl B 5 i0 (.int .u8 0) 1 1 Tryz.underlying43 hi hz0 hz1 hz2 rfl (by decide) _ ws.length _ rfl (H.out.1.alloc _) _ 3 3 [_, _, _] rfl rfl (new_cells _ _ rfl _ _) (bytes_one ⟨[_, _, _], rfl⟩) (by unfold maxLen; omega) (by omega) (by have := H.out.2; simp; omega) ?_; intro v1 w2 hown2 hgrow2 hnil2 hat2; clear hnil2 hat2))
     exact END.out [239, 191, 189] _ _ _ rfl hown2 hgrow2
   ·have CH := az (fun W => high_calls (w := W) (n := n))
    rw [decide_eq_false (fun h => h3 (.inl h))] at CH
    have CL := az (fun W => low_calls (w := W) (n := n))
    rw [decide_eq_false (fun h => h3 (.inr h))] at CL
    by_cases h5 : n < 65536
    ·have e : utf8 n = [224 + n / 4096, 128 + n / 64 % 64, 128 + n % 64] := by unfold utf8; rw [if_neg h1, if_neg h2, if_neg h3, if_pos h5]
     rw [e] at END
     have c1 : (n : Int) < 65536 := by omega
     clear h1 h2 h3 h5 e hq6
     go_enter Tryz.func29, Tryz.ntmps29
     go_wp2_with (first | (go_at_call 27; refine (CH.out _).mono ?_; rintro e w2 ⟨rfl, rfl⟩; dsimp only) | (go_at_call 28; refine (CL.out _).mono ?_; rintro e w2 ⟨rfl, hw2⟩; subst hw2; dsimp only) | (at_builtin; refine wpList_append_own_at _ rfl _ _ 43 rfl B 5 i0 (.int .u8 0) 1 1 Tryz.underlying43 hi hz0 hz1 hz2 rfl (by decide) _ ws.length _ rfl (H.out.1.alloc _) _ 3 3 [_, _, _] rfl rfl (new_cells _ _ rfl _ _) (bytes_one ⟨[_, _, _], rfl⟩) (by unfold maxLen; omega) (by omega) (by have := H.out.2; simp; omega) ?_; intro v1 w2 hown2 hgrow2 hnil2 hat2; clear hnil2 hat2))
     refine END.out [_, _, _] _ _ _ ?_ hown2 hgrow2
     show [_, _, _] = [((224 + n / 4096 : Nat) : Int), ((128 + n / 64 % 64 : Nat) : Int), ((128 + n % 64 : Nat) : Int)]
     simp only [List.cons.injEq, and_true]
     omega
    ·have e : utf8 n = [240 + n / 262144, 128 + n / 4096 % 64, 128 + n / 64 % 64, 128 + n % 64] := by unfold utf8; rw [if_neg h1, if_neg h2, if_neg h3, if_neg h5]
     rw [e] at END
     have t5 : decide ((n : Int) < 65536) = false := dF
     have t5n : decide (n < 65536) = false := decide_eq_false h5
     clear h1 h2 h3 h5 e
     go_enter Tryz.func29, Tryz.ntmps29
     go_wp2_with (first | (go_at_call 27; refine (CH.out _).mono ?_; rintro e w2 ⟨rfl, rfl⟩; dsimp only) | (go_at_call 28; refine (CL.out _).mono ?_; rintro e w2 ⟨rfl, hw2⟩; subst hw2; dsimp only) | (at_builtin; refine wpList_append_own_at _ rfl _ _ 43 rfl B 5 i0 (.int .u8 0) 1 1 Tryz.underlying43 hi hz0 hz1 hz2 rfl (by decide) _ ws.length _ rfl (H.out.1.alloc _) _ 4 4 [_, _, _, _] rfl rfl (new_cells _ _ rfl _ _) (bytes_one ⟨[_, _, _, _], rfl⟩) (by unfold maxLen; omega) (by omega) (by have := H.out.2; simp; omega) ?_; intro v1 w2 hown2 hgrow2 hnil2 hat2; clear hnil2 hat2))
     refine END.out [_, _, _, _] _ _ _ ?_ hown2 hgrow2
     show [_, _, _, _] = [((240 + n / 262144 : Nat) : Int), ((128 + n / 4096 % 64 : Nat) : Int), ((128 + n / 64 % 64 : Nat) : Int), ((128 + n % 64 : Nat) : Int)]
     simp only [List.cons.injEq, and_true]
     omega
end JS
end Go.Proofs.YtbimfhaokgigkaaGreatDoor
