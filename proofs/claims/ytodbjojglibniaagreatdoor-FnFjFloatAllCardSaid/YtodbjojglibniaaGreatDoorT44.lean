/- Walks of functions of FnFjFloatAll (K3, K4, K5); conditions stand ahead of each theorem. -/
import Derived.Test.YtodbjojglibniaaGreatDoorT43
import Derived.Lib.AppendStr
import Derived.Deep.QuietTactic
import Derived.BigQuiet
set_option linter.unusedVariables false
set_option linter.unusedSimpArgs false
namespace Go.Proofs.YtodbjojglibniaaGreatDoor
open Go.RowKit Go.Proofs.YtodbjojglibniaaGreatDoorW.PrintWords Go.Proofs.YtodbjojglibniaaGreatDoorW.PrintLast

def strNums (s : ByteArray) : List Int := s.data.toList.map fun b => (b.toNat : Int)
theorem strNums_len (s : ByteArray) : (strNums s).length = s.size := by unfold strNums; rw [List.length_map, Array.length_toList]; rfl
theorem strCells_nums (s : ByteArray) : Go.Lib.strCells s = nums .u8 (strNums s) := by unfold Go.Lib.strCells nums strNums; rw [List.map_map]; rfl
theorem strOf_strNums (s : ByteArray) : strOfNums (strNums s) = s := by
  unfold strOfNums strNums
  rw [List.map_map]
  have e : ((fun n : Int => UInt8.ofNat n.toNat) ∘ fun b : UInt8 => (b.toNat : Int)) = id := by funext b; simp
  rw [e, List.map_id]
set_option maxRecDepth 100000 in
theorem b2s_calls {w : World} {A : Option Addr} {n c : Nat} {s : ByteArray} (hr : ReadsInt w .u8 A n (strNums s)) : Calls Tryz.prog 24 #[.slice A n c] w (fun e w' => e = .returned (.string s) ∧ w' = w) := by
  obtain ⟨R, hR⟩ : ∃ R : Ending → World → Prop, R = (fun e w' => e = .returned (.string s) ∧ w' = w) := ⟨_, rfl⟩
  rw [← hR]
  have HR := Aside0.mk hR
  have hcv := string_of_reads (P := Tryz.prog) (src := 35) (dst := 9) (e := 5) (c := c) Tryz.underlying35 Tryz.underlying5 Tryz.underlying9 hr
  rw [strOf_strNums] at hcv
  clear hR hr
  go_enter Tryz.func24, Tryz.ntmps24
  go_wp2_with fail
  rw [HR.out]
  exact ⟨rfl, rfl⟩
def ResetPost (w : World) (g : Nat) (e : Ending) (w' : World) : Prop := e = .returned (.tuple #[]) ∧ w' = w.setCell ⟨g, 1, none⟩ (.slice none 0 0)
set_option maxRecDepth 100000 in
theorem reset_calls {w : World} {g : Nat} {T : TypeId} {v : Value} (hg : w.heap[g]? = some (.cells #[v, .slice none 0 0] T (0, 0))) : Calls Tryz.prog 22 #[.pointer (some ⟨g, 1, none⟩)] w (ResetPost w g) := by
  obtain ⟨R, hR⟩ : ∃ R : Ending → World → Prop, R = ResetPost w g := ⟨_, rfl⟩
  rw [← hR]
  have HR := Aside0.mk hR
  have c1 : w.cell? ⟨g, 1, none⟩ = some (.slice none 0 0) := (blk_cell hg 1).trans rfl
  have f1 := blk_frozen hg 1
  clear hR
  go_enter Tryz.func22, Tryz.ntmps22
  go_wp2_with fail
  refine wp_loop_rounds 1 ?_
  rw [rounds_succ]
  go_wp2_with fail
  refine ⟨rfl, .tuple #[], by simp [results, Tryz.f22, go_sem], ?_⟩
  rw [HR.out]
  exact ⟨rfl, rfl⟩
/-- A number's Value in block gv. -/
def ValAt (w : World) (gv : Nat) (s : ByteArray) : Prop := ∃ A, w.heap[gv]? = some (.cells A 78 (0, 0)) ∧ A[3]? = some (.string s) ∧ A[4]? = some (.int .i64 4)
set_option maxRecDepth 100000 in
theorem type_calls {w : World} {gv : Nat} {s : ByteArray} (h : ValAt w gv s) : Calls Tryz.prog 26 #[.pointer (some ⟨gv, 0, none⟩)] w (fun e w' => e = .returned (.int .i64 4) ∧ w' = w) := by
  obtain ⟨R, hR⟩ : ∃ R : Ending → World → Prop, R = (fun e w' => e = .returned (.int .i64 4) ∧ w' = w) := ⟨_, rfl⟩
  rw [← hR]
  have HR := Aside0.mk hR
  obtain ⟨A, hA, h3, h4⟩ := h
  have c4 : w.cell? ⟨gv, 4, none⟩ = some (.int .i64 4) := (blk_cell hA 4).trans h4
  clear hR hA h3 h4
  go_enter Tryz.func26, Tryz.ntmps26
  go_wp2_with fail
  rw [HR.out]
  exact ⟨rfl, rfl⟩
/-- The float of the number's text. -/
def FfIs (s : ByteArray) (neg : Bool) (W F : Nat) (x esg : Int) (N : Nat) (f : Nat) : Prop := (FastC s neg W F x N ∧ f = FP.wordOf neg (FastW s neg W F x esg N)) ∨ (¬ FastC s neg W F x N ∧ ∃ r, FP.Near (CutX s neg W F x esg N) r ∧ f = FP.wordOf neg r)
def FlPost (w : World) (Q : Nat → Prop) (e : Ending) (w' : World) : Prop := ∃ f, e = .returned (.tuple #[.float .f64 f, .nilIface]) ∧ Q f ∧ Below w.heap.size w w'
theorem fl_calls {s : ByteArray} {neg : Bool} {W F : Nat} {x esg : Int} {N : Nat} (h : Num0 s neg W F x esg N) (hs : s.size ≤ 800) {n : Nat} {w : World} (hE : GEnv n w) : Calls Tryz.prog 27 #[.string s] w (FlPost w (FfIs s neg W F x esg N)) := by
  refine (ff_calls h hs hE).mono ?_
  rintro e w' ⟨hb, ⟨hf, rfl⟩ | ⟨hf, r, hr, rfl⟩⟩
  · exact ⟨_, rfl, .inl ⟨hf, rfl⟩, hb⟩
  · exact ⟨_, rfl, .inr ⟨hf, r, hr, rfl⟩, hb⟩
set_option maxRecDepth 100000 in
theorem float64_calls {s : ByteArray} {neg : Bool} {W F : Nat} {x esg : Int} {N : Nat} (h : Num0 s neg W F x esg N) (hs : s.size ≤ 800) {n : Nat} {w : World} (hE : GEnv n w) {gv : Nat} (hV : ValAt w gv s) :
    Calls Tryz.prog 14 #[.pointer (some ⟨gv, 0, none⟩)] w (FlPost w (FfIs s neg W F x esg N)) := by
  obtain ⟨R, hR⟩ : ∃ R : Ending → World → Prop, R = FlPost w (FfIs s neg W F x esg N) := ⟨_, rfl⟩
  rw [← hR]
  have HR := Aside0.mk hR
  have CT := Aside0.mk (type_calls hV)
  have CF := Aside0.mk (fl_calls h hs hE)
  obtain ⟨A, hA, h3, h4⟩ := hV
  have c3 : w.cell? ⟨gv, 3, none⟩ = some (.string s) := (blk_cell hA 3).trans h3
  clear hR hA h3 h4 h hs hE
  go_enter Tryz.func14, Tryz.ntmps14
  go_wp2_with (first | (go_at_call 26; (with_reducible refine CT.out.mono ?_); rintro e w1 ⟨rfl, rfl⟩) | (go_at_call 27; (with_reducible refine CF.out.mono ?_); rintro e w2 ⟨f, rfl, hQ, hbel⟩))
  rw [HR.out]
  exact ⟨f, rfl, hQ, hbel⟩

end Go.Proofs.YtodbjojglibniaaGreatDoor

set_option linter.unusedVariables false
set_option linter.unusedSimpArgs false
namespace Go.Proofs.YtodbjojglibniaaGreatDoor
open Go.RowKit Go.Proofs.YtodbjojglibniaaGreatDoorW.PrintWords Go.Proofs.YtodbjojglibniaaGreatDoorW.PrintLast

def zeroVal : Value := .agg #[.slice none 0 0, .bool false, .slice none 0 0, .string ⟨#[]⟩, .int .i64 0]
theorem info_val : (Tryz.prog.info? 78).map (fun i => (i.zero, i.size, i.bytes)) = some (some zeroVal, 5, 80) := by kernel_rfl
def valCells : List Value := [.slice none 0 0, .bool false, .slice none 0 0, .string ⟨#[]⟩, .int .i64 0]
theorem five_new (w : World) (t : TypeId) : ∀ j u, valCells[j]? = some u → (w.alloc (.cells #[.slice none 0 0, .bool false, .slice none 0 0, .string ⟨#[]⟩, .int .i64 0] t)).cell? ((⟨w.heap.size, 0, none⟩ : Addr).add j) = some u := by
  intro j u hj
  have e : (⟨w.heap.size, 0, none⟩ : Addr).add j = ⟨w.heap.size, j, none⟩ := by
    by_cases h0 : j = 0
    · subst h0; simp [Addr.add]
    · simp [Addr.add, h0]
  rw [e, blk_cell (heap_alloc_new w _) j]
  rw [← hj]
  unfold valCells
  simp
theorem five_one : ∀ u ∈ valCells, u.oneCell' = true := by
  intro u hu
  simp only [valCells, List.mem_cons, List.not_mem_nil, or_false] at hu
  rcases hu with rfl | rfl | rfl | rfl | rfl <;> rfl
def GvPost (w : World) (g : Nat) (T : TypeId) (v : Value) (e : Ending) (w' : World) : Prop :=
  ∃ gv cp A, e = .returned (.pointer (some ⟨gv, 0, none⟩)) ∧ w.heap.size ≤ gv ∧ w'.heap[gv]? = some (.cells A 78 (0, 0)) ∧ 5 ≤ A.size ∧ w'.heap[g]? = some (.cells #[v, .slice (some ⟨gv, 0, none⟩) 1 cp] T (0, 0)) ∧ (∀ k, k < w.heap.size → k ≠ g → w'.heap[k]? = w.heap[k]?) ∧ Below g w w'
set_option maxRecDepth 100000 in
set_option maxHeartbeats 2000000 in
theorem getValue_calls {w : World} {g : Nat} {T : TypeId} {v : Value} (hg : w.heap[g]? = some (.cells #[v, .slice none 0 0] T (0, 0))) : Calls Tryz.prog 28 #[.pointer (some ⟨g, 1, none⟩)] w (GvPost w g T v) := by
  obtain ⟨R, hR⟩ : ∃ R : Ending → World → Prop, R = GvPost w g T v := ⟨_, rfl⟩
  rw [← hR]
  have HR := Aside0.mk hR
  obtain ⟨i0, hi, hz0, hz1, hz2⟩ := info_parts info_val
  have c1 : w.cell? ⟨g, 1, none⟩ = some (.slice none 0 0) := (blk_cell hg 1).trans rfl
  have f1 := blk_frozen hg 1
  have hlt := blk_lt hg
  have HG := Aside0.mk hg
  have HLT := Aside0.mk hlt
  clear hR hg
  go_enter Tryz.func28, Tryz.ntmps28
  go_wp2_with fail
  go_quiet (fail)
  go_wp2_with (at_builtin; refine wpList_append_own_at _ rfl _ _ 36 rfl w.heap.size 78 i0 zeroVal 5 80 Tryz.underlying36 hi hz0 hz1 hz2 rfl (by decide) _ 0 [] rfl (World.ownsRow_nil _ _ _ _) ⟨w.heap.size, 0, none⟩ 1 1 valCells rfl rfl (five_new (w.drewN nq) _) five_one (by decide) (by decide) (by simp) ?_; intro v1 w1 hown1 hgrow1 hnil1 hat1; clear hnil1 hat1; replace hgrow1 : World.grownBy _ w1 none := hgrow1; obtain ⟨gv, cp, hv1, hgv, hcp⟩ := hown1.form (by omega); subst hv1; have hG1 : w1.heap[g]? = some (.cells #[v, .slice none 0 0] T (0, 0)) := ((hgrow1.block g (by simp; omega) (by simp)).trans (heap_alloc_old (w.drewN nq) _ HLT.out)).trans HG.out; have c2 : w1.cell? ⟨g, 1, none⟩ = some (.slice none 0 0) := (blk_cell hG1 1).trans rfl; have f2 : w1.frozen? ⟨g, 1, none⟩ = false := blk_frozen hG1 1)
  have HK := Aside0.mk (And.intro hgrow1 (And.intro hown1 (And.intro hgv (And.intro hcp hG1))))
  clear hgrow1 hown1 hG1
  go_quiet (fail)
  go_wp2_with fail
  obtain ⟨k1, k2, k3, k4, k5⟩ := HK.out
  rcases k2.2 with ⟨e, _⟩ | ⟨g', cap', cur, e, _, q1, q2, _, q3, q4⟩
  · cases e
  simp only [Value.slice.injEq, Option.some.injEq, Addr.mk.injEq] at e
  obtain ⟨⟨rfl, _, _⟩, _, rfl⟩ := e
  have hne : gv ≠ g := by have := HLT.out; omega
  rw [HR.out]
  refine ⟨gv, cp, cur, rfl, hgv, blk_far q1 hne _, by omega, (blk_set k5 1 _).trans rfl, ?_, ?_⟩
  · intro k h1 h2
    refine ((Below.heap_setCell w1 ⟨g, 1, none⟩ _ k h2)).trans ?_
    exact (k1.block k (by simp; omega) (by simp)).trans (heap_alloc_old (w.drewN nq) _ h1)
  · have h : Below g w w1 := ⟨k1.os, k1.tape, k1.output, Nat.le_trans (by simp) k1.size, fun k hk => (k1.block k (by simp; have := HLT.out; omega) (by simp)).trans (heap_alloc_old (w.drewN nq) _ (Nat.lt_trans hk HLT.out))⟩
    have h2 := Below.setCell h (p := ⟨g, 1, none⟩) (Nat.le_refl _) (.slice (some ⟨gv, 0, none⟩) 1 cp)
    exact ⟨h2.os, h2.tape, h2.output, h2.size, h2.block⟩

end Go.Proofs.YtodbjojglibniaaGreatDoor

set_option linter.unusedVariables false
set_option linter.unusedSimpArgs false
namespace Go.Proofs.YtodbjojglibniaaGreatDoor
open Go.RowKit Go.Proofs.YtodbjojglibniaaGreatDoorW.PrintWords Go.Proofs.YtodbjojglibniaaGreatDoorW.PrintLast

theorem Below.ofDrew {n : Nat} {w w' : World} (h : Below n w w') (m : Nat) : Below n w (w'.drewN m) := ⟨h.os, h.tape, h.output, h.size, h.block⟩
def MadePost (w : World) (g : Nat) (s : ByteArray) (e : Ending) (w' : World) : Prop := ∃ gv, e = .returned (.pointer (some ⟨gv, 0, none⟩)) ∧ ValAt w' gv s ∧ Below g w w'
set_option maxRecDepth 100000 in
theorem newNumber_calls {w : World} {g : Nat} {T : TypeId} {v : Value} {s : ByteArray} (hg : w.heap[g]? = some (.cells #[v, .slice none 0 0] T (0, 0))) : Calls Tryz.prog 15 #[.pointer (some ⟨g, 0, none⟩), .string s] w (MadePost w g s) := by
  obtain ⟨R, hR⟩ : ∃ R : Ending → World → Prop, R = MadePost w g s := ⟨_, rfl⟩
  rw [← hR]
  have HR := Aside0.mk hR
  have CG := Aside0.mk (getValue_calls hg)
  have HLT := Aside0.mk (blk_lt hg)
  clear hR hg
  go_enter Tryz.func15, Tryz.ntmps15
  go_wp2_with fail
  refine CG.out.mono ?_
  rintro e w1 ⟨gv, cp, A, rfl, hgv, hA, h5, hg1, hfar, hbel⟩
  have f3 := blk_frozen hA 3
  have f4 := blk_frozen hA 4
  obtain ⟨x3, hx3⟩ : ∃ y, A[3]? = some y := ⟨_, Array.getElem?_eq_getElem (by omega)⟩
  obtain ⟨x4, hx4⟩ : ∃ y, A[4]? = some y := ⟨_, Array.getElem?_eq_getElem (by omega)⟩
  have c3 : w1.cell? ⟨gv, 3, none⟩ = some x3 := (blk_cell hA 3).trans hx3
  have c4 : w1.cell? ⟨gv, 4, none⟩ = some x4 := (blk_cell hA 4).trans hx4
  have hF := blk_set (blk_set hA 4 (.int .i64 4)) 3 (.string s)
  have hne : g ≤ gv := by have := HLT.out; omega
  have HF := Aside0.mk (And.intro hF (And.intro hne (And.intro h5 hbel)))
  clear hgv hA h5 hg1 hfar hbel hF hne hx3 hx4
  go_wp2_with fail
  rw [HR.out]
  obtain ⟨q1, q2, q3, q4⟩ := HF.out
  exact ⟨gv, rfl, ⟨_, q1, by simp [Array.getElem?_setIfInBounds]; omega, by simp [Array.getElem?_setIfInBounds]; omega⟩, (q4.setCell q2 _).setCell q2 _⟩
/-- A number with blanks behind it. -/
theorem raw_calls {s a : ByteArray} {neg : Bool} {W F : Nat} {x esg : Int} {N : Nat} (h : Num0 s neg W F x esg N) (hs : s.size ≤ 800) (ha : Ahead a) (w : World) : Calls Tryz.prog 40 #[.string (s ++ a)] w (RawPost w s a) := by
  obtain ⟨h1, h2, h3, h4⟩ := num_head h
  have hb := num_bytes h
  have blank : ∀ (c0 : Nat), (c0 = 32 ∨ c0 = 10 ∨ c0 = 13) → 1 ≤ a.size → a.size ≤ 2 → bt a ((0 : Nat) : Int) = (c0 : Int) → Calls Tryz.prog 40 #[.string (s ++ a)] w (RawPost w s a) := by
    intro c0 hc ha1 ha2 hbt
    have hz : (s ++ a).size = s.size + a.size := ByteArray.size_append
    refine raw_blank (s ++ a) s.size h1 (by omega) (by omega) s a ?_ ?_ c0 ?_ hc ?_ ?_ w
    · refine ba_ext (by rw [ext_size (by omega) (by omega)]; omega) (fun k hk => ?_)
      rw [ext_size (by omega) (by omega)] at hk
      rw [bt_ext (by omega) (by omega), bt_append (by omega), if_pos (by omega)]
      congr 1
      omega
    · refine ba_ext (by rw [ext_size (by omega) (by omega)]; omega) (fun k hk => ?_)
      rw [ext_size (by omega) (by omega)] at hk
      rw [bt_ext (by omega) (by omega), bt_append (by omega), if_neg (by omega)]
      congr 1
      omega
    · rw [bt_append (by omega), if_neg (by omega), Nat.sub_self]
      exact hbt
    · intro e
      rw [bt_append (by omega), if_pos (by omega)]
      exact h4 e
    · intro k hk
      rw [bt_append (by omega), if_pos hk]
      exact hb k hk
  rcases ha with rfl | rfl | rfl | rfl
  · have e2 : (s ++ ⟨#[]⟩ : ByteArray) = s := by
      show s ++ ByteArray.empty = s
      rw [ByteArray.append_empty]
    rw [e2]
    exact raw_end s s.size h1 (by omega) rfl hb w
  · exact blank 32 (.inl rfl) (by decide) (by decide) rfl
  · exact blank 10 (.inr (.inl rfl)) (by decide) (by decide) rfl
  · exact blank 13 (.inr (.inr rfl)) (by decide) (by decide) rfl
def PvPost (w : World) (g : Nat) (v : Value) (s a : ByteArray) (e : Ending) (w' : World) : Prop := ∃ gv, e = .returned (.tuple #[.pointer (some ⟨gv, 0, none⟩), .string a, .nilIface]) ∧ ValAt w' gv s ∧ Below g w w' ∧ w'.cell? ⟨g, 0, none⟩ = some v
set_option maxRecDepth 100000 in
set_option maxHeartbeats 2000000 in
theorem parseValue_calls {w : World} {g : Nat} {Ty : TypeId} {v : Value} {s a : ByteArray} {neg : Bool} {W F : Nat} {x esg : Int} {N : Nat} (hg : w.heap[g]? = some (.cells #[v, .slice none 0 0] Ty (0, 0))) (h : Num0 s neg W F x esg N) (hs : s.size ≤ 800) (ha : Ahead a) :
    Calls Tryz.prog 23 #[.pointer (some ⟨g, 1, none⟩), .string (s ++ a), .int .i64 0] w (PvPost w g v s a) := by
  obtain ⟨R, hR⟩ : ∃ R : Ending → World → Prop, R = PvPost w g v s a := ⟨_, rfl⟩
  rw [← hR]
  have HR := Aside0.mk hR
  have CW := Aside0.mk (raw_calls h hs ha w)
  have CG := Aside0.mk (getValue_calls hg)
  have HLT := Aside0.mk (blk_lt hg)
  have hz : (s ++ a).size = s.size + a.size := ByteArray.size_append
  obtain ⟨h1, h2, h3, h4⟩ := num_head h
  have hc0 : bt (s ++ a) ((0 : Nat) : Int) = bt s ((0 : Nat) : Int) := by rw [bt_append (by omega), if_pos (by omega)]
  obtain ⟨T, hT⟩ : ∃ T, T = s ++ a := ⟨_, rfl⟩
  rw [← hT] at hz hc0 CW ⊢
  obtain ⟨c, hc⟩ : ∃ c : Nat, (c : Int) = bt s ((0 : Nat) : Int) := ⟨(bt s ((0 : Nat) : Int)).toNat, by omega⟩
  have hx5 : ∀ h : 0 < T.size, ((T[0]'h).toNat : Int) = (c : Int) := fun h => (bt_at T ((0 : Nat) : Int) h).trans (hc0.trans hc.symm)
  have p0 : (0 < T.size) = True := eq_true (by omega)
  have t0 : ((T.size : Int) == 0) = false := by rw [beq_eq_false_iff_ne]; omega
  have t0n : (T.size == 0) = false := by rw [beq_eq_false_iff_ne]; omega
  have a1 : ((c : Int) == 123) = false := by rw [beq_eq_false_iff_ne]; omega
  have a2 : ((c : Int) == 91) = false := by rw [beq_eq_false_iff_ne]; omega
  have a3 : ((c : Int) == 34) = false := by rw [beq_eq_false_iff_ne]; omega
  have a4 : ((c : Int) == 116) = false := by rw [beq_eq_false_iff_ne]; omega
  have a5 : ((c : Int) == 102) = false := by rw [beq_eq_false_iff_ne]; omega
  have a6 : ((c : Int) == 110) = false := by rw [beq_eq_false_iff_ne]; omega
  have b1 : (c == 123) = false := by rw [beq_eq_false_iff_ne]; omega
  have b2 : (c == 91) = false := by rw [beq_eq_false_iff_ne]; omega
  have b3 : (c == 34) = false := by rw [beq_eq_false_iff_ne]; omega
  have b4 : (c == 116) = false := by rw [beq_eq_false_iff_ne]; omega
  have b5 : (c == 102) = false := by rw [beq_eq_false_iff_ne]; omega
  have b6 : (c == 110) = false := by rw [beq_eq_false_iff_ne]; omega
  clear hR hg h hs ha hz h1 h2 h3 h4 hc0 hT hc
  go_enter Tryz.func23, Tryz.ntmps23
  go_wp2_with (go_at_call 40; (with_reducible refine CW.out.mono ?_); rintro e w1 ⟨rfl, rfl⟩)
  refine CG.out.mono ?_
  rintro e w1 ⟨gv, cp, A, rfl, hgv, hA, h5, hg1, hfar, hbel⟩
  have f3 := blk_frozen hA 3
  have f4 := blk_frozen hA 4
  obtain ⟨x3, hx3⟩ : ∃ y, A[3]? = some y := ⟨_, Array.getElem?_eq_getElem (by omega)⟩
  obtain ⟨x4, hx4⟩ : ∃ y, A[4]? = some y := ⟨_, Array.getElem?_eq_getElem (by omega)⟩
  have c3 : w1.cell? ⟨gv, 3, none⟩ = some x3 := (blk_cell hA 3).trans hx3
  have c4 : w1.cell? ⟨gv, 4, none⟩ = some x4 := (blk_cell hA 4).trans hx4
  have hF := blk_set (blk_set hA 4 (.int .i64 4)) 3 (.string s)
  have hne : g < gv := by have := HLT.out; omega
  have HF := Aside0.mk (And.intro hF (And.intro hne (And.intro h5 (And.intro hbel hg1))))
  clear hgv hA h5 hg1 hfar hbel hF hne hx3 hx4
  go_wp2_with fail
  rw [HR.out]
  obtain ⟨q1, q2, q3, q4, q5⟩ := HF.out
  refine ⟨gv, rfl, ⟨_, q1, by simp [Array.getElem?_setIfInBounds]; omega, by simp [Array.getElem?_setIfInBounds]; omega⟩, (q4.setCell (Nat.le_of_lt q2) _).setCell (Nat.le_of_lt q2) _, ?_⟩
  exact (blk_cell (blk_far (blk_far q5 (Nat.ne_of_lt q2) _) (Nat.ne_of_lt q2) _) 0).trans rfl

end Go.Proofs.YtodbjojglibniaaGreatDoor
