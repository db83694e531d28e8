/- Walks of functions of FnFjFloatAll (G1, G2, G3); conditions stand ahead of each theorem. -/
import Derived.Test.YtodbjojglibniaaGreatDoorT04
set_option linter.unusedVariables false
set_option linter.unusedSimpArgs false
namespace Go.Proofs.YtodbjojglibniaaGreatDoor
open Go.RowKit Go.Proofs.YtodbjojglibniaaGreatDoorW.PrintWords Go.Proofs.YtodbjojglibniaaGreatDoorW.PrintLast
theorem errW_none : True := trivial
theorem errW_some : True := trivial
section
variable {P : Program} {ops : Array Oper} {rest : List Oper} {o : Oper} {a : Act} {Q : Exit → Act → World → Prop} {W : World}
theorem gate_callee {f : FuncId} {xs : Array Operand} {ts : Array TypeId} (_ho : o.op = .call { callee := .value (.func f), args := xs, argTypes := ts }) (h : wpList P ops Q (o :: rest) a W) : wpList P ops Q (o :: rest) a W := h
theorem gate_builtin {b : Builtin} {xs : Array Operand} {ts : Array TypeId} (_ho : o.op = .call { callee := .builtin b, args := xs, argTypes := ts }) (h : wpList P ops Q (o :: rest) a W) : wpList P ops Q (o :: rest) a W := h
end
theorem keep_at {w W w' u : World} {m g : Nat} {row : Option Nat} (hq : w.drewN m = w') (h : KeepBut u w g row) : KeepBut u w' g row := by subst hq; exact keep_drewN h m
/-- A state of type 51 at block g of W; what its slices lead to came in by w0. -/
def IsS51 (w0 W : World) (g : Nat) (f0 : ByteArray) (f1 : Int) : Prop := W.heap[g]? = some (.cells #[.string f0, .int .i64 f1] 51 (0, 0)) ∧ w0.heap.size ≤ g
theorem IsS51.grown {w0 W : World} {g : Nat} {f0 : ByteArray} {f1 : Int} {W1 : World} {row : Option Nat} (h : IsS51 w0 W g f0 f1) (hw : W.grownBy W1 row) (hne : some g ≠ row) : IsS51 w0 W1 g f0 f1 := by
  obtain ⟨hb, hg⟩ := h
  exact ⟨blk_grown hb hw hne, hg⟩
theorem IsS51.below {w0 W : World} {g : Nat} {f0 : ByteArray} {f1 : Int} {W1 : World} (h : IsS51 w0 W g f0 f1) (hw : Below W.heap.size W W1) : IsS51 w0 W1 g f0 f1 := h.grown (grown_of_below hw none) (by simp)
theorem IsS51.alloc {w0 W : World} {g : Nat} {f0 : ByteArray} {f1 : Int} (h : IsS51 w0 W g f0 f1) (o : Obj) : IsS51 w0 (W.alloc o) g f0 f1 := h.below (below_alloc (Below.refl _ _) o)
theorem IsS51.drewN {w0 W : World} {g : Nat} {f0 : ByteArray} {f1 : Int} (h : IsS51 w0 W g f0 f1) (m : Nat) : IsS51 w0 (W.drewN m) g f0 f1 := h
theorem IsS51.drew {w0 W : World} {g : Nat} {f0 : ByteArray} {f1 : Int} (h : IsS51 w0 W g f0 f1) : IsS51 w0 W.drew g f0 f1 := h
theorem IsS51.at_ {w0 W : World} {g : Nat} {f0 : ByteArray} {f1 : Int} {w' : World} {m : Nat} (hq : W.drewN m = w') (h : IsS51 w0 W g f0 f1) : IsS51 w0 w' g f0 f1 := by subst hq; exact IsS51.drewN h m
theorem IsS51.lt {w0 W : World} {g : Nat} {f0 : ByteArray} {f1 : Int} (h : IsS51 w0 W g f0 f1) : g < W.heap.size := by
  obtain ⟨hb, hg⟩ := h
  exact blk_lt hb
theorem IsS51.ge {w0 W : World} {g : Nat} {f0 : ByteArray} {f1 : Int} (h : IsS51 w0 W g f0 f1) : w0.heap.size ≤ g := by
  obtain ⟨hb, hg⟩ := h
  exact hg
theorem IsS51.ne_blk {w0 W : World} {g : Nat} {f0 : ByteArray} {f1 : Int} {a : Nat} {cs : Array Value} {t : TypeId} {fr : Nat × Nat} (h : IsS51 w0 W g f0 f1) (hb2 : W.heap[a]? = some (.cells cs t fr)) (ht : t ≠ 51) : g ≠ a := by
  obtain ⟨hb, hg⟩ := h
  rintro rfl
  rw [hb] at hb2
  injection hb2 with hb2
  injection hb2 with _ ht2
  exact ht ht2.symm
theorem IsS51.far {w0 W : World} {g : Nat} {f0 : ByteArray} {f1 : Int} {p : Addr} (h : IsS51 w0 W g f0 f1) (hne : g ≠ p.block) (u : Value) : IsS51 w0 (W.setCell p u) g f0 f1 := by
  obtain ⟨hb, hg⟩ := h
  exact ⟨blk_far hb hne u, hg⟩
theorem cellS51_0 {W : World} {g : Nat} {f0 : ByteArray} {f1 : Int} (h : W.heap[g]? = some (.cells #[.string f0, .int .i64 f1] 51 (0, 0))) : W.cell? ⟨g, 0, none⟩ = some (.string f0) := (blk_cell h 0).trans rfl
theorem IsS51.set_0 {w0 W : World} {g : Nat} {f0 : ByteArray} {f1 : Int} (h : IsS51 w0 W g f0 f1) (x : ByteArray) : IsS51 w0 (W.setCell ⟨g, 0, none⟩ (.string x)) g x f1 := by
  obtain ⟨hb, hg⟩ := h
  exact ⟨by simpa using blk_set hb 0 (.string x), hg⟩
theorem cellS51_1 {W : World} {g : Nat} {f0 : ByteArray} {f1 : Int} (h : W.heap[g]? = some (.cells #[.string f0, .int .i64 f1] 51 (0, 0))) : W.cell? ⟨g, 1, none⟩ = some (.int .i64 f1) := (blk_cell h 1).trans rfl
theorem IsS51.set_1 {w0 W : World} {g : Nat} {f0 : ByteArray} {f1 : Int} (h : IsS51 w0 W g f0 f1) (x : Int) : IsS51 w0 (W.setCell ⟨g, 1, none⟩ (.int .i64 x)) g f0 x := by
  obtain ⟨hb, hg⟩ := h
  exact ⟨by simpa using blk_set hb 1 (.int .i64 x), hg⟩
theorem IsS51.new (w0 W : World) (f0 : ByteArray) (f1 : Int) (hB : Below w0.heap.size w0 W) : IsS51 w0 (W.alloc (.cells #[.string f0, .int .i64 f1] 51)) W.heap.size f0 f1 := ⟨by simpa using heap_alloc_new W _, hB.size⟩
/-! ### spec_reader_take: function 29 -/
def spec_reader_take.f (s0_0 : ByteArray) (s0_1 : Int) (a1 : Int) : Option (Bool × ByteArray × Int) := if s0_1 < (s0_0.size : Int) then (if 0 ≤ s0_1 then (if (bt s0_0 s0_1) = a1 then (some (true, s0_0, wrap64 (s0_1 + 1))) else (some (false, s0_0, s0_1))) else (none)) else (some (false, s0_0, s0_1))
set_option maxHeartbeats 8000000 in
set_option maxRecDepth 100000 in
theorem spec_reader_take.calls (g : Nat) (s0_0 : ByteArray) (s0_1 : Int) (a1 : Int) (r1 : Bool) (r2 : ByteArray) (r3 : Int) (w0 w : World) (hI : IsS51 w0 w g s0_0 s0_1) (hB : Below w0.heap.size w0 w) (h : spec_reader_take.f s0_0 s0_1 a1 = some (r1, r2, r3)) :
    Calls Tryz.prog 29 #[.pointer (some ⟨g, 0, none⟩), .int .u8 a1] w fun e w' => e = .returned (.bool r1) ∧ IsS51 w0 w' g r2 r3 ∧ Below w0.heap.size w0 w' ∧ KeepBut w w' g none := by
  have HI0 := Aside0.mk hI
  have HK := Aside0.mk (KeepBut.refl w g none)
  have HL := Aside0.mk hB.size
  clear hI
  have HW0 := Aside0.mk hB.size
  have HB := Aside0.mk hB
  clear hB
  have H : (if s0_1 < (s0_0.size : Int) then (if 0 ≤ s0_1 then (if (bt s0_0 s0_1) = a1 then (some (true, s0_0, wrap64 (s0_1 + 1))) else (some (false, s0_0, s0_1))) else (none)) else (some (false, s0_0, s0_1))) = some (r1, r2, r3) := h
  clear h
  by_cases c3 : s0_1 < (s0_0.size : Int)
  · rw [if_pos c3] at H
    have c3b0 : decide (s0_1 < (s0_0.size : Int)) = true := decide_eq_true c3
    clear c3
    by_cases c4 : 0 ≤ s0_1
    · rw [if_pos c4] at H
      have c4b0 : decide (0 ≤ s0_1) = true := decide_eq_true c4
      clear c4
      by_cases c6 : (bt s0_0 s0_1) = a1
      · rw [if_pos c6] at H
        have c6b0 : ((bt s0_0 s0_1) == a1) = true := beq_iff_eq.mpr c6
        have c6b1 : ((bt s0_0 s0_1) != a1) = false := bne_eq_false_iff_eq.mpr c6
        clear c6
        simp only [Option.some.injEq, Prod.mk.injEq] at H
        obtain ⟨rfl, rfl, rfl⟩ := H
        obtain ⟨HGz7, hgz7⟩ := HI0.out
        have hcz7_0 := cellS51_0 HGz7
        have hcz7_1 := cellS51_1 HGz7
        have hfz7_0 := blk_frozen HGz7 0
        have hfz7_1 := blk_frozen HGz7 1
        clear HGz7 hgz7
        have p5 : 0 ≤ (s0_1 : Int) := of_decide_eq_true (by first | (with_reducible assumption) | assumption)
        have q5 : s0_1 < (s0_0.size : Int) := of_decide_eq_true (by first | (with_reducible assumption) | assumption)
        have hx5 := bt_at s0_0 s0_1
        replace p5 := eq_true p5
        replace q5 := eq_true q5
        go_enter Tryz.func29, Tryz.ntmps29
        go_wp2
        repeat (go_quiet (fail); try go_wp2)
        go_ret
        exact ⟨by first | rfl | (simp [errW_none, errW_some] <;> rfl) | (simp [*, errW_none, errW_some] <;> rfl), by repeat (first | (with_reducible first | exact HI0.out | apply IsS51.alloc | apply IsS51.drewN | apply IsS51.drew | apply IsS51.set_0 | apply IsS51.set_1) | exact HI0.out), by repeat (first | (with_reducible first | exact HB.out | apply below_alloc | apply pw_below_drewN | apply below_drew1 | refine below_set ?_ (IsS51.ge HI0.out)) | exact HB.out), by repeat (first | (with_reducible first | exact HK.out | apply KeepBut.set_ | apply keep_drewN | apply keep_drew | apply keep_alloc) | exact HK.out)⟩
      · rw [if_neg c6] at H
        have c6b0 : ((bt s0_0 s0_1) == a1) = false := beq_eq_false_iff_ne.mpr c6
        have c6b1 : ((bt s0_0 s0_1) != a1) = true := bne_iff_ne.mpr c6
        simp only [Option.some.injEq, Prod.mk.injEq] at H
        obtain ⟨rfl, rfl, rfl⟩ := H
        obtain ⟨HGz8, hgz8⟩ := HI0.out
        have hcz8_0 := cellS51_0 HGz8
        have hcz8_1 := cellS51_1 HGz8
        have hfz8_0 := blk_frozen HGz8 0
        have hfz8_1 := blk_frozen HGz8 1
        clear HGz8 hgz8
        have p5 : 0 ≤ (s0_1 : Int) := of_decide_eq_true (by first | (with_reducible assumption) | assumption)
        have q5 : s0_1 < (s0_0.size : Int) := of_decide_eq_true (by first | (with_reducible assumption) | assumption)
        have hx5 := bt_at s0_0 s0_1
        replace p5 := eq_true p5
        replace q5 := eq_true q5
        go_enter Tryz.func29, Tryz.ntmps29
        go_wp2
        repeat (go_quiet (fail); try go_wp2)
        go_ret
        exact ⟨by first | rfl | (simp [errW_none, errW_some] <;> rfl) | (simp [*, errW_none, errW_some] <;> rfl), by repeat (first | (with_reducible first | exact HI0.out | apply IsS51.alloc | apply IsS51.drewN | apply IsS51.drew | apply IsS51.set_0 | apply IsS51.set_1) | exact HI0.out), by repeat (first | (with_reducible first | exact HB.out | apply below_alloc | apply pw_below_drewN | apply below_drew1 | refine below_set ?_ (IsS51.ge HI0.out)) | exact HB.out), by repeat (first | (with_reducible first | exact HK.out | apply KeepBut.set_ | apply keep_drewN | apply keep_drew | apply keep_alloc) | exact HK.out)⟩
    · rw [if_neg c4] at H
      exact absurd H (by simp)
  · rw [if_neg c3] at H
    have c3b0 : decide (s0_1 < (s0_0.size : Int)) = false := decide_eq_false c3
    clear c3
    simp only [Option.some.injEq, Prod.mk.injEq] at H
    obtain ⟨rfl, rfl, rfl⟩ := H
    obtain ⟨HGz9, hgz9⟩ := HI0.out
    have hcz9_0 := cellS51_0 HGz9
    have hcz9_1 := cellS51_1 HGz9
    have hfz9_0 := blk_frozen HGz9 0
    have hfz9_1 := blk_frozen HGz9 1
    clear HGz9 hgz9
    go_enter Tryz.func29, Tryz.ntmps29
    go_wp2
    repeat (go_quiet (fail); try go_wp2)
    go_ret
    exact ⟨by first | rfl | (simp [errW_none, errW_some] <;> rfl) | (simp [*, errW_none, errW_some] <;> rfl), by repeat (first | (with_reducible first | exact HI0.out | apply IsS51.alloc | apply IsS51.drewN | apply IsS51.drew | apply IsS51.set_0 | apply IsS51.set_1) | exact HI0.out), by repeat (first | (with_reducible first | exact HB.out | apply below_alloc | apply pw_below_drewN | apply below_drew1 | refine below_set ?_ (IsS51.ge HI0.out)) | exact HB.out), by repeat (first | (with_reducible first | exact HK.out | apply KeepBut.set_ | apply keep_drewN | apply keep_drew | apply keep_alloc) | exact HK.out)⟩

/-! ### spec_reader_here: function 47 -/
def spec_reader_here.f (s0_0 : ByteArray) (s0_1 : Int) : Option (Int × ByteArray × Int) := if s0_1 < (s0_0.size : Int) then (if 0 ≤ s0_1 then (some (bt s0_0 s0_1, s0_0, s0_1)) else (none)) else (some (0, s0_0, s0_1))
set_option maxHeartbeats 8000000 in
set_option maxRecDepth 100000 in
theorem spec_reader_here.calls (g : Nat) (s0_0 : ByteArray) (s0_1 : Int) (r1 : Int) (r2 : ByteArray) (r3 : Int) (w0 w : World) (hI : IsS51 w0 w g s0_0 s0_1) (hB : Below w0.heap.size w0 w) (h : spec_reader_here.f s0_0 s0_1 = some (r1, r2, r3)) :
    Calls Tryz.prog 47 #[.pointer (some ⟨g, 0, none⟩)] w fun e w' => e = .returned (.int .u8 r1) ∧ IsS51 w0 w' g r2 r3 ∧ Below w0.heap.size w0 w' ∧ KeepBut w w' g none := by
  have HI0 := Aside0.mk hI
  have HK := Aside0.mk (KeepBut.refl w g none)
  have HL := Aside0.mk hB.size
  clear hI
  have HW0 := Aside0.mk hB.size
  have HB := Aside0.mk hB
  clear hB
  have H : (if s0_1 < (s0_0.size : Int) then (if 0 ≤ s0_1 then (some (bt s0_0 s0_1, s0_0, s0_1)) else (none)) else (some (0, s0_0, s0_1))) = some (r1, r2, r3) := h
  clear h
  by_cases c2 : s0_1 < (s0_0.size : Int)
  · rw [if_pos c2] at H
    have c2b0 : decide (s0_1 < (s0_0.size : Int)) = true := decide_eq_true c2
    clear c2
    by_cases c3 : 0 ≤ s0_1
    · rw [if_pos c3] at H
      have c3b0 : decide (0 ≤ s0_1) = true := decide_eq_true c3
      clear c3
      simp only [Option.some.injEq, Prod.mk.injEq] at H
      obtain ⟨rfl, rfl, rfl⟩ := H
      obtain ⟨HGz5, hgz5⟩ := HI0.out
      have hcz5_0 := cellS51_0 HGz5
      have hcz5_1 := cellS51_1 HGz5
      have hfz5_0 := blk_frozen HGz5 0
      have hfz5_1 := blk_frozen HGz5 1
      clear HGz5 hgz5
      have p4 : 0 ≤ (s0_1 : Int) := of_decide_eq_true (by first | (with_reducible assumption) | assumption)
      have q4 : s0_1 < (s0_0.size : Int) := of_decide_eq_true (by first | (with_reducible assumption) | assumption)
      have hx4 := bt_at s0_0 s0_1
      replace p4 := eq_true p4
      replace q4 := eq_true q4
      go_enter Tryz.func47, Tryz.ntmps47
      go_wp2
      repeat (go_quiet (fail); try go_wp2)
      go_ret
      exact ⟨by first | rfl | (simp [errW_none, errW_some] <;> rfl) | (simp [*, errW_none, errW_some] <;> rfl), by repeat (first | (with_reducible first | exact HI0.out | apply IsS51.alloc | apply IsS51.drewN | apply IsS51.drew | apply IsS51.set_0 | apply IsS51.set_1) | exact HI0.out), by repeat (first | (with_reducible first | exact HB.out | apply below_alloc | apply pw_below_drewN | apply below_drew1 | refine below_set ?_ (IsS51.ge HI0.out)) | exact HB.out), by repeat (first | (with_reducible first | exact HK.out | apply KeepBut.set_ | apply keep_drewN | apply keep_drew | apply keep_alloc) | exact HK.out)⟩
    · rw [if_neg c3] at H
      exact absurd H (by simp)
  · rw [if_neg c2] at H
    have c2b0 : decide (s0_1 < (s0_0.size : Int)) = false := decide_eq_false c2
    clear c2
    simp only [Option.some.injEq, Prod.mk.injEq] at H
    obtain ⟨rfl, rfl, rfl⟩ := H
    obtain ⟨HGz6, hgz6⟩ := HI0.out
    have hcz6_0 := cellS51_0 HGz6
    have hcz6_1 := cellS51_1 HGz6
    have hfz6_0 := blk_frozen HGz6 0
    have hfz6_1 := blk_frozen HGz6 1
    clear HGz6 hgz6
    go_enter Tryz.func47, Tryz.ntmps47
    go_wp2
    repeat (go_quiet (fail); try go_wp2)
    go_ret
    exact ⟨by first | rfl | (simp [errW_none, errW_some] <;> rfl) | (simp [*, errW_none, errW_some] <;> rfl), by repeat (first | (with_reducible first | exact HI0.out | apply IsS51.alloc | apply IsS51.drewN | apply IsS51.drew | apply IsS51.set_0 | apply IsS51.set_1) | exact HI0.out), by repeat (first | (with_reducible first | exact HB.out | apply below_alloc | apply pw_below_drewN | apply below_drew1 | refine below_set ?_ (IsS51.ge HI0.out)) | exact HB.out), by repeat (first | (with_reducible first | exact HK.out | apply KeepBut.set_ | apply keep_drewN | apply keep_drew | apply keep_alloc) | exact HK.out)⟩

/-! ### spec_reader_digits: function 30 -/
def spec_reader_digits.l0 : Nat → Int → Int → ByteArray → Int → Option (Bool × ByteArray × Int)
  | 0, _, _, _, _ => none
  | k + 1, x3, x4, x1000, x1001 => if 48 ≤ x4 then (if x4 ≤ 57 then ((spec_reader_here.f x1000 (wrap64 (x1001 + 1))).bind fun bt104 => (spec_reader_digits.l0 k x3 bt104.1 bt104.2.1 bt104.2.2)) else (some (decide (x1001 > x3), x1000, x1001))) else (some (decide (x1001 > x3), x1000, x1001))
def spec_reader_digits.f (k : Nat) (s0_0 : ByteArray) (s0_1 : Int) : Option (Bool × ByteArray × Int) := (spec_reader_here.f s0_0 s0_1).bind fun bt101 => (spec_reader_digits.l0 k s0_1 bt101.1 bt101.2.1 bt101.2.2)
theorem spec_reader_digits.mono_l : ∀ k, (∀ y0 y1 y2 y3, LeO (spec_reader_digits.l0 k y0 y1 y2 y3) (spec_reader_digits.l0 (k + 1) y0 y1 y2 y3))
  | 0 => fun _ _ _ _ r h => by simp [spec_reader_digits.l0] at h
  | k + 1 => by
    have ih0 := spec_reader_digits.mono_l k
    · intro y0 y1 y2 y3
      unfold spec_reader_digits.l0
      repeat' first
      | (with_reducible exact ih0 _ _ _ _)
      | (with_reducible exact LeO.refl _)
      | (with_reducible exact LeO.none _)
      | (with_reducible refine LeO.ite ?_ ?_)
      | (with_reducible refine LeO.bind ?_ (fun _ => ?_))
      | exact ih0 _ _ _ _
      | exact LeO.none _
      | refine LeO.ite ?_ ?_
      | refine LeO.bind ?_ (fun _ => ?_)
theorem spec_reader_digits.mono : ∀ a0 a1 k, LeO (spec_reader_digits.f k a0 a1) (spec_reader_digits.f (k + 1) a0 a1) := by
  intro a0 a1 k
  have ih0 := spec_reader_digits.mono_l k
  unfold spec_reader_digits.f
  repeat' first
      | (with_reducible exact ih0 _ _ _ _)
      | (with_reducible exact LeO.refl _)
      | (with_reducible exact LeO.none _)
      | (with_reducible refine LeO.ite ?_ ?_)
      | (with_reducible refine LeO.bind ?_ (fun _ => ?_))
      | exact ih0 _ _ _ _
      | exact LeO.none _
      | refine LeO.ite ?_ ?_
      | refine LeO.bind ?_ (fun _ => ?_)
set_option maxHeartbeats 8000000 in
set_option maxRecDepth 100000 in
theorem spec_reader_digits.calls (k : Nat) (g : Nat) (s0_0 : ByteArray) (s0_1 : Int) (r1 : Bool) (r2 : ByteArray) (r3 : Int) (w0 w : World) (hI : IsS51 w0 w g s0_0 s0_1) (hB : Below w0.heap.size w0 w) (h : spec_reader_digits.f k s0_0 s0_1 = some (r1, r2, r3)) :
    Calls Tryz.prog 30 #[.pointer (some ⟨g, 0, none⟩)] w fun e w' => e = .returned (.bool r1) ∧ IsS51 w0 w' g r2 r3 ∧ Below w0.heap.size w0 w' ∧ KeepBut w w' g none := by
  have HI0 := Aside0.mk hI
  have HK := Aside0.mk (KeepBut.refl w g none)
  have HL := Aside0.mk hB.size
  clear hI
  have HW0 := Aside0.mk hB.size
  have HB := Aside0.mk hB
  clear hB
  have H : ((spec_reader_here.f s0_0 s0_1).bind fun bt101 => (spec_reader_digits.l0 k s0_1 bt101.1 bt101.2.1 bt101.2.2)) = some (r1, r2, r3) := h
  clear h
  replace H := Option.bind_eq_some_iff.mp H
  obtain ⟨⟨t101, t102, t103⟩, A20, H⟩ := H
  replace H : (spec_reader_digits.l0 k s0_1 t101 t102 t103) = some (r1, r2, r3) := H
  have A2 := Aside0.mk A20
  clear A20
  have H' := Aside0.mk H
  clear H
  obtain ⟨HGz3, hgz3⟩ := HI0.out
  have hcz3_0 := cellS51_0 HGz3
  have hcz3_1 := cellS51_1 HGz3
  have hfz3_0 := blk_frozen HGz3 0
  have hfz3_1 := blk_frozen HGz3 1
  clear HGz3 hgz3
  go_enter Tryz.func30, Tryz.ntmps30
  go_wp2_with (first | ((with_reducible refine gate_callee (f := 47) rfl ?_); refine goesL_ (some 10) rfl rfl Tryz.func47 (by kernel_rfl) rfl #[.pointer (some ⟨g, 0, none⟩)] rfl (by (try simp only [List.map_toArray, List.map_cons, List.map_nil]); first | done | rfl | (simp only [List.length_drop, List.length_take]; rfl)) ?_; (with_reducible refine (spec_reader_here.calls g s0_0 s0_1 t101 t102 t103 w0 _ ?side1 ?side2 A2.out).mono ?_); (case side1 => repeat (first | (with_reducible first | exact HI0.out | apply IsS51.alloc | apply IsS51.drewN | apply IsS51.drew | apply IsS51.set_0 | apply IsS51.set_1) | exact HI0.out)); (case side2 => repeat (first | (with_reducible first | exact HB.out | apply below_alloc | apply pw_below_drewN | apply below_drew1 | refine below_set ?_ (IsS51.ge HI0.out)) | exact HB.out)); rintro e w4 ⟨rfl, hi, hb, hk⟩; refine ⟨_, rfl, ?_⟩; have n0_ := Aside0.mk (KeepBut.trans (by repeat (first | (with_reducible first | exact HK.out | apply KeepBut.set_ | apply keep_drewN | apply keep_drew | apply keep_alloc) | exact HK.out)) hk (.inl rfl)); have n1_ := Aside0.mk (hb); have n2_ := Aside0.mk (hi); clear HK; clear HB; clear HI0; have HK := n0_; have HB := n1_; have HI0 := n2_; clear n0_ n1_ n2_; (try clear hb); (try clear hb2); (try clear hk); (try clear hi)))
  go_loopg [4] k (fun kq v4 w' => ∃ (x4_1 : Int) (x1000_1 : ByteArray) (x1001_1 : Int), v4 = .int .u8 x4_1 ∧ Aside0 (spec_reader_digits.l0 kq s0_1 x4_1 x1000_1 x1001_1 = some (r1, r2, r3)) ∧ Aside0 (kq ≤ k) ∧ Aside0 (IsS51 w0 w' g x1000_1 x1001_1) ∧ Aside0 (KeepBut w w' g none) ∧ Aside0 (Below w0.heap.size w0 w'))
  case atStart => exact ⟨(t101), (t102), (t103), (by first | rfl | (simp; done) | (simp [*]; done)), H', ⟨Nat.le_refl _⟩, ⟨by repeat (first | (with_reducible first | exact HI0.out | apply IsS51.alloc | apply IsS51.drewN | apply IsS51.drew | apply IsS51.set_0 | apply IsS51.set_1) | exact HI0.out)⟩, ⟨by repeat (first | (with_reducible first | exact HK.out | apply KeepBut.set_ | apply keep_drewN | apply keep_drew | apply keep_alloc) | exact HK.out)⟩, ⟨by repeat (first | (with_reducible first | exact HB.out | apply below_alloc | apply pw_below_drewN | apply below_drew1 | refine below_set ?_ (IsS51.ge HI0.out)) | exact HB.out)⟩⟩
  case round =>
    clear H'
    try clear p2
    try clear c3
    try clear c4
    try clear hcz3_0
    try clear hcz3_1
    try clear hfz3_0
    try clear hfz3_1
    obtain ⟨x4_1, x1000_1, x1001_1, rfl, HA, HK1, HI0, HK, HB⟩ := hrel
    cases gk with
    | zero => exact absurd HA.out (by simp [spec_reader_digits.l0])
    | succ k1 =>
      have H := HA.out
      clear HA
      simp only [spec_reader_digits.l0] at H
      by_cases c5 : 48 ≤ x4_1
      · rw [if_pos c5] at H
        have c5b0 : decide (48 ≤ x4_1) = true := decide_eq_true c5
        clear c5
        by_cases c6 : x4_1 ≤ 57
        · rw [if_pos c6] at H
          have c6b0 : decide (x4_1 ≤ 57) = true := decide_eq_true c6
          clear c6
          replace H := Option.bind_eq_some_iff.mp H
          obtain ⟨⟨t104, t105, t106⟩, A70, H⟩ := H
          replace H : (spec_reader_digits.l0 k1 s0_1 t104 t105 t106) = some (r1, r2, r3) := H
          have A7 := Aside0.mk A70
          clear A70
          have H' := Aside0.mk H
          clear H
          obtain ⟨HGz8, hgz8⟩ := HI0.out
          have hcz8_0 := cellS51_0 HGz8
          have hcz8_1 := cellS51_1 HGz8
          have hfz8_0 := blk_frozen HGz8 0
          have hfz8_1 := blk_frozen HGz8 1
          clear HGz8 hgz8
          go_wp2_with (first | ((with_reducible refine gate_callee (f := 47) rfl ?_); refine goesL_ (some 18) rfl rfl Tryz.func47 (by kernel_rfl) rfl #[.pointer (some ⟨g, 0, none⟩)] rfl (by (try simp only [List.map_toArray, List.map_cons, List.map_nil]); first | done | rfl | (simp only [List.length_drop, List.length_take]; rfl)) ?_; (with_reducible refine (spec_reader_here.calls g x1000_1 (wrap64 (x1001_1 + 1)) t104 t105 t106 w0 _ ?side1 ?side2 A7.out).mono ?_); (case side1 => repeat (first | (with_reducible first | exact HI0.out | apply IsS51.alloc | apply IsS51.drewN | apply IsS51.drew | apply IsS51.set_0 | apply IsS51.set_1) | exact HI0.out)); (case side2 => repeat (first | (with_reducible first | exact HB.out | apply below_alloc | apply pw_below_drewN | apply below_drew1 | refine below_set ?_ (IsS51.ge HI0.out)) | exact HB.out)); rintro e w9 ⟨rfl, hi, hb, hk⟩; refine ⟨_, rfl, ?_⟩; have n0_ := Aside0.mk (KeepBut.trans (by repeat (first | (with_reducible first | exact HK.out | apply KeepBut.set_ | apply keep_drewN | apply keep_drew | apply keep_alloc) | exact HK.out)) hk (.inl rfl)); have n1_ := Aside0.mk (hb); have n2_ := Aside0.mk (hi); clear HK; clear HB; clear HI0; have HK := n0_; have HB := n1_; have HI0 := n2_; clear n0_ n1_ n2_; (try clear hb); (try clear hb2); (try clear hk); (try clear hi)))
          go_roundg k1
          case measure => have := HK1.out; omega
          case rel => exact ⟨(t104), (t105), (t106), (by first | rfl | (simp; done) | (simp [*]; done)), H', ⟨by have := HK1.out; omega⟩, ⟨by repeat (first | (with_reducible first | exact HI0.out | apply IsS51.alloc | apply IsS51.drewN | apply IsS51.drew | apply IsS51.set_0 | apply IsS51.set_1) | exact HI0.out)⟩, ⟨by repeat (first | (with_reducible first | exact HK.out | apply KeepBut.set_ | apply keep_drewN | apply keep_drew | apply keep_alloc) | exact HK.out)⟩, ⟨by repeat (first | (with_reducible first | exact HB.out | apply below_alloc | apply pw_below_drewN | apply below_drew1 | refine below_set ?_ (IsS51.ge HI0.out)) | exact HB.out)⟩⟩
        · rw [if_neg c6] at H
          have c6b0 : decide (x4_1 ≤ 57) = false := decide_eq_false c6
          clear c6
          simp only [Option.some.injEq, Prod.mk.injEq] at H
          obtain ⟨rfl, rfl, rfl⟩ := H
          obtain ⟨HGz10, hgz10⟩ := HI0.out
          have hcz10_0 := cellS51_0 HGz10
          have hcz10_1 := cellS51_1 HGz10
          have hfz10_0 := blk_frozen HGz10 0
          have hfz10_1 := blk_frozen HGz10 1
          clear HGz10 hgz10
          go_wp2
          go_ret
          exact ⟨by first | rfl | (simp [errW_none, errW_some] <;> rfl) | (simp [*, errW_none, errW_some] <;> rfl), by repeat (first | (with_reducible first | exact HI0.out | apply IsS51.alloc | apply IsS51.drewN | apply IsS51.drew | apply IsS51.set_0 | apply IsS51.set_1) | exact HI0.out), by repeat (first | (with_reducible first | exact HB.out | apply below_alloc | apply pw_below_drewN | apply below_drew1 | refine below_set ?_ (IsS51.ge HI0.out)) | exact HB.out), by repeat (first | (with_reducible first | exact HK.out | apply KeepBut.set_ | apply keep_drewN | apply keep_drew | apply keep_alloc) | exact HK.out)⟩
      · rw [if_neg c5] at H
        have c5b0 : decide (48 ≤ x4_1) = false := decide_eq_false c5
        clear c5
        simp only [Option.some.injEq, Prod.mk.injEq] at H
        obtain ⟨rfl, rfl, rfl⟩ := H
        obtain ⟨HGz11, hgz11⟩ := HI0.out
        have hcz11_0 := cellS51_0 HGz11
        have hcz11_1 := cellS51_1 HGz11
        have hfz11_0 := blk_frozen HGz11 0
        have hfz11_1 := blk_frozen HGz11 1
        clear HGz11 hgz11
        go_wp2
        go_ret
        exact ⟨by first | rfl | (simp [errW_none, errW_some] <;> rfl) | (simp [*, errW_none, errW_some] <;> rfl), by repeat (first | (with_reducible first | exact HI0.out | apply IsS51.alloc | apply IsS51.drewN | apply IsS51.drew | apply IsS51.set_0 | apply IsS51.set_1) | exact HI0.out), by repeat (first | (with_reducible first | exact HB.out | apply below_alloc | apply pw_below_drewN | apply below_drew1 | refine below_set ?_ (IsS51.ge HI0.out)) | exact HB.out), by repeat (first | (with_reducible first | exact HK.out | apply KeepBut.set_ | apply keep_drewN | apply keep_drew | apply keep_alloc) | exact HK.out)⟩

/-! ### spec_reader_number: function 16 -/
mutual
def spec_reader_number.j0 : Nat → Bool → ByteArray → Int → Option (Bool × ByteArray × Int)
  | 0, _, _, _ => none
  | k + 1, x12, x1000, x1001 => if x12 = true then (some (false, x1000, x1001)) else ((spec_reader_take.f x1000 x1001 46).bind fun bt116 => (if bt116.1 = true then ((spec_reader_digits.f k bt116.2.1 bt116.2.2).bind fun bt119 => (spec_reader_number.j1 k (!bt119.1) bt119.2.1 bt119.2.2)) else (spec_reader_number.j1 k false bt116.2.1 bt116.2.2)))
def spec_reader_number.j1 : Nat → Bool → ByteArray → Int → Option (Bool × ByteArray × Int)
  | 0, _, _, _ => none
  | k + 1, x19, x1000, x1001 => if x19 = true then (some (false, x1000, x1001)) else ((spec_reader_take.f x1000 x1001 101).bind fun bt122 => (if bt122.1 = true then (spec_reader_number.j2 k true bt122.2.1 bt122.2.2) else ((spec_reader_take.f bt122.2.1 bt122.2.2 69).bind fun bt125 => (spec_reader_number.j2 k bt125.1 bt125.2.1 bt125.2.2))))
def spec_reader_number.j2 : Nat → Bool → ByteArray → Int → Option (Bool × ByteArray × Int)
  | 0, _, _, _ => none
  | k + 1, x25, x1000, x1001 => if x25 = true then ((spec_reader_take.f x1000 x1001 43).bind fun bt128 => (if bt128.1 = true then ((spec_reader_digits.f k bt128.2.1 bt128.2.2).bind fun bt131 => (some (bt131.1, bt131.2.1, bt131.2.2))) else ((spec_reader_take.f bt128.2.1 bt128.2.2 45).bind fun bt134 => ((spec_reader_digits.f k bt134.2.1 bt134.2.2).bind fun bt137 => (some (bt137.1, bt137.2.1, bt137.2.2)))))) else (some (true, x1000, x1001))
end
def spec_reader_number.f (k : Nat) (s0_0 : ByteArray) (s0_1 : Int) : Option (Bool × ByteArray × Int) := (spec_reader_take.f s0_0 s0_1 45).bind fun bt107 => ((spec_reader_take.f bt107.2.1 bt107.2.2 48).bind fun bt110 => (if bt110.1 = true then (spec_reader_number.j0 k false bt110.2.1 bt110.2.2) else ((spec_reader_digits.f k bt110.2.1 bt110.2.2).bind fun bt113 => (spec_reader_number.j0 k (!bt113.1) bt113.2.1 bt113.2.2))))
theorem spec_reader_number.mono_l : ∀ k, (∀ y0 y1 y2, LeO (spec_reader_number.j0 k y0 y1 y2) (spec_reader_number.j0 (k + 1) y0 y1 y2)) ∧ (∀ y0 y1 y2, LeO (spec_reader_number.j1 k y0 y1 y2) (spec_reader_number.j1 (k + 1) y0 y1 y2)) ∧ (∀ y0 y1 y2, LeO (spec_reader_number.j2 k y0 y1 y2) (spec_reader_number.j2 (k + 1) y0 y1 y2))
  | 0 => ⟨fun _ _ _ r h => by simp [spec_reader_number.j0] at h, fun _ _ _ r h => by simp [spec_reader_number.j1] at h, fun _ _ _ r h => by simp [spec_reader_number.j2] at h⟩
  | k + 1 => by
    obtain ⟨ih0, ih1, ih2⟩ := spec_reader_number.mono_l k
    refine ⟨?_, ?_, ?_⟩
    · intro y0 y1 y2
      unfold spec_reader_number.j0
      repeat' first
      | (with_reducible exact ih0 _ _ _)
      | (with_reducible exact ih1 _ _ _)
      | (with_reducible exact ih2 _ _ _)
      | (with_reducible exact spec_reader_digits.mono _ _ _)
      | (with_reducible exact LeO.refl _)
      | (with_reducible exact LeO.none _)
      | (with_reducible refine LeO.ite ?_ ?_)
      | (with_reducible refine LeO.bind ?_ (fun _ => ?_))
      | exact ih0 _ _ _
      | exact ih1 _ _ _
      | exact ih2 _ _ _
      | exact spec_reader_digits.mono _ _ _
      | exact LeO.none _
      | refine LeO.ite ?_ ?_
      | refine LeO.bind ?_ (fun _ => ?_)
    · intro y0 y1 y2
      unfold spec_reader_number.j1
      repeat' first
      | (with_reducible exact ih0 _ _ _)
      | (with_reducible exact ih1 _ _ _)
      | (with_reducible exact ih2 _ _ _)
      | (with_reducible exact spec_reader_digits.mono _ _ _)
      | (with_reducible exact LeO.refl _)
      | (with_reducible exact LeO.none _)
      | (with_reducible refine LeO.ite ?_ ?_)
      | (with_reducible refine LeO.bind ?_ (fun _ => ?_))
      | exact ih0 _ _ _
      | exact ih1 _ _ _
      | exact ih2 _ _ _
      | exact spec_reader_digits.mono _ _ _
      | exact LeO.none _
      | refine LeO.ite ?_ ?_
      | refine LeO.bind ?_ (fun _ => ?_)
    · intro y0 y1 y2
      unfold spec_reader_number.j2
      repeat' first
      | (with_reducible exact ih0 _ _ _)
      | (with_reducible exact ih1 _ _ _)
      | (with_reducible exact ih2 _ _ _)
      | (with_reducible exact spec_reader_digits.mono _ _ _)
      | (with_reducible exact LeO.refl _)
      | (with_reducible exact LeO.none _)
      | (with_reducible refine LeO.ite ?_ ?_)
      | (with_reducible refine LeO.bind ?_ (fun _ => ?_))
      | exact ih0 _ _ _
      | exact ih1 _ _ _
      | exact ih2 _ _ _
      | exact spec_reader_digits.mono _ _ _
      | exact LeO.none _
      | refine LeO.ite ?_ ?_
      | refine LeO.bind ?_ (fun _ => ?_)
theorem spec_reader_number.mono : ∀ a0 a1 k, LeO (spec_reader_number.f k a0 a1) (spec_reader_number.f (k + 1) a0 a1) := by
  intro a0 a1 k
  obtain ⟨ih0, ih1, ih2⟩ := spec_reader_number.mono_l k
  unfold spec_reader_number.f
  repeat' first
      | (with_reducible exact ih0 _ _ _)
      | (with_reducible exact ih1 _ _ _)
      | (with_reducible exact ih2 _ _ _)
      | (with_reducible exact spec_reader_digits.mono _ _ _)
      | (with_reducible exact LeO.refl _)
      | (with_reducible exact LeO.none _)
      | (with_reducible refine LeO.ite ?_ ?_)
      | (with_reducible refine LeO.bind ?_ (fun _ => ?_))
      | exact ih0 _ _ _
      | exact ih1 _ _ _
      | exact ih2 _ _ _
      | exact spec_reader_digits.mono _ _ _
      | exact LeO.none _
      | refine LeO.ite ?_ ?_
      | refine LeO.bind ?_ (fun _ => ?_)
set_option maxHeartbeats 8000000 in
set_option maxRecDepth 100000 in
theorem spec_reader_number.calls (k : Nat) (g : Nat) (s0_0 : ByteArray) (s0_1 : Int) (r1 : Bool) (r2 : ByteArray) (r3 : Int) (w0 w : World) (hI : IsS51 w0 w g s0_0 s0_1) (hB : Below w0.heap.size w0 w) (h : spec_reader_number.f k s0_0 s0_1 = some (r1, r2, r3)) :
    Calls Tryz.prog 16 #[.pointer (some ⟨g, 0, none⟩)] w fun e w' => e = .returned (.bool r1) ∧ IsS51 w0 w' g r2 r3 ∧ Below w0.heap.size w0 w' ∧ KeepBut w w' g none := by
  have HI0 := Aside0.mk hI
  have HK := Aside0.mk (KeepBut.refl w g none)
  have HL := Aside0.mk hB.size
  clear hI
  have HW0 := Aside0.mk hB.size
  have HB := Aside0.mk hB
  clear hB
  have H : ((spec_reader_take.f s0_0 s0_1 45).bind fun bt107 => ((spec_reader_take.f bt107.2.1 bt107.2.2 48).bind fun bt110 => (if bt110.1 = true then (spec_reader_number.j0 k false bt110.2.1 bt110.2.2) else ((spec_reader_digits.f k bt110.2.1 bt110.2.2).bind fun bt113 => (spec_reader_number.j0 k (!bt113.1) bt113.2.1 bt113.2.2))))) = some (r1, r2, r3) := h
  clear h
  replace H := Option.bind_eq_some_iff.mp H
  obtain ⟨⟨t107, t108, t109⟩, A20, H⟩ := H
  replace H : ((spec_reader_take.f t108 t109 48).bind fun bt110 => (if bt110.1 = true then (spec_reader_number.j0 k false bt110.2.1 bt110.2.2) else ((spec_reader_digits.f k bt110.2.1 bt110.2.2).bind fun bt113 => (spec_reader_number.j0 k (!bt113.1) bt113.2.1 bt113.2.2)))) = some (r1, r2, r3) := H
  have A2 := Aside0.mk A20
  clear A20
  have HC3 := Aside0.mk H
  clear H
  go_enter Tryz.func16, Tryz.ntmps16
  go_upto_region 2 with (first | ((with_reducible refine gate_callee (f := 29) rfl ?_); refine goesL_ (some 4) rfl rfl Tryz.func29 (by kernel_rfl) rfl #[.pointer (some ⟨g, 0, none⟩), .int .u8 45] rfl (by (try simp only [List.map_toArray, List.map_cons, List.map_nil]); first | done | rfl | (simp only [List.length_drop, List.length_take]; rfl)) ?_; (with_reducible refine (spec_reader_take.calls g s0_0 s0_1 45 t107 t108 t109 w0 _ ?side1 ?side2 A2.out).mono ?_); (case side1 => repeat (first | (with_reducible first | exact HI0.out | apply IsS51.alloc | apply IsS51.drewN | apply IsS51.drew | apply IsS51.set_0 | apply IsS51.set_1) | exact HI0.out)); (case side2 => repeat (first | (with_reducible first | exact HB.out | apply below_alloc | apply pw_below_drewN | apply below_drew1 | refine below_set ?_ (IsS51.ge HI0.out)) | exact HB.out)); rintro e w4 ⟨rfl, hi, hb, hk⟩; refine ⟨_, rfl, ?_⟩; have n0_ := Aside0.mk (KeepBut.trans (by repeat (first | (with_reducible first | exact HK.out | apply KeepBut.set_ | apply keep_drewN | apply keep_drew | apply keep_alloc) | exact HK.out)) hk (.inl rfl)); have n1_ := Aside0.mk (hb); have n2_ := Aside0.mk (hi); clear HK; clear HB; clear HI0; have HK := n0_; have HB := n1_; have HI0 := n2_; clear n0_ n1_ n2_; (try clear hb); (try clear hb2); (try clear hk); (try clear hi)))
  (try simp only [Act.put, List.setIfInBounds_toArray, List.set_cons_zero, List.set_cons_succ])
  go_cut [12] (fun v12 wc => ∃ (kq : Nat) (x12_2 : Bool) (x1000_2 : ByteArray) (x1001_2 : Int), v12 = .bool x12_2 ∧ Aside0 (spec_reader_number.j0 kq x12_2 x1000_2 x1001_2 = some (r1, r2, r3)) ∧ Aside0 (kq ≤ k) ∧ Aside0 (IsS51 w0 wc g x1000_2 x1001_2) ∧ Aside0 (KeepBut w wc g none) ∧ Aside0 (Below w0.heap.size w0 wc))
  case first =>
    have H := HC3.out
    clear HC3
    replace H := Option.bind_eq_some_iff.mp H
    obtain ⟨⟨t110, t111, t112⟩, A50, H⟩ := H
    replace H : (if t110 = true then (spec_reader_number.j0 k false t111 t112) else ((spec_reader_digits.f k t111 t112).bind fun bt113 => (spec_reader_number.j0 k (!bt113.1) bt113.2.1 bt113.2.2))) = some (r1, r2, r3) := H
    have A5 := Aside0.mk A50
    clear A50
    by_cases c6 : t110 = true
    · subst c6
      have H1 : (spec_reader_number.j0 k false t111 t112) = some (r1, r2, r3) := by rw [if_pos rfl] at H; exact H
      clear H
      have H := H1
      clear H1
      have H' := Aside0.mk H
      clear H
      go_wp2_with (first | ((with_reducible refine gate_callee (f := 29) rfl ?_); refine goesL_ (some 6) rfl rfl Tryz.func29 (by kernel_rfl) rfl #[.pointer (some ⟨g, 0, none⟩), .int .u8 48] rfl (by (try simp only [List.map_toArray, List.map_cons, List.map_nil]); first | done | rfl | (simp only [List.length_drop, List.length_take]; rfl)) ?_; (with_reducible refine (spec_reader_take.calls g t108 t109 48 true t111 t112 w0 _ ?side1 ?side2 A5.out).mono ?_); (case side1 => repeat (first | (with_reducible first | exact HI0.out | apply IsS51.alloc | apply IsS51.drewN | apply IsS51.drew | apply IsS51.set_0 | apply IsS51.set_1) | exact HI0.out)); (case side2 => repeat (first | (with_reducible first | exact HB.out | apply below_alloc | apply pw_below_drewN | apply below_drew1 | refine below_set ?_ (IsS51.ge HI0.out)) | exact HB.out)); rintro e w7 ⟨rfl, hi, hb, hk⟩; refine ⟨_, rfl, ?_⟩; have n0_ := Aside0.mk (KeepBut.trans (by repeat (first | (with_reducible first | exact HK.out | apply KeepBut.set_ | apply keep_drewN | apply keep_drew | apply keep_alloc) | exact HK.out)) hk (.inl rfl)); have n1_ := Aside0.mk (hb); have n2_ := Aside0.mk (hi); clear HK; clear HB; clear HI0; have HK := n0_; have HB := n1_; have HI0 := n2_; clear n0_ n1_ n2_; (try clear hb); (try clear hb2); (try clear hk); (try clear hi)))
      go_meet
      case rel => exact ⟨_, (false), (t111), (t112), (by first | rfl | (simp; done) | (simp [*]; done)), H', ⟨by first | omega | exact Nat.le_refl _⟩, ⟨by repeat (first | (with_reducible first | exact HI0.out | apply IsS51.alloc | apply IsS51.drewN | apply IsS51.drew | apply IsS51.set_0 | apply IsS51.set_1) | exact HI0.out)⟩, ⟨by repeat (first | (with_reducible first | exact HK.out | apply KeepBut.set_ | apply keep_drewN | apply keep_drew | apply keep_alloc) | exact HK.out)⟩, ⟨by repeat (first | (with_reducible first | exact HB.out | apply below_alloc | apply pw_below_drewN | apply below_drew1 | refine below_set ?_ (IsS51.ge HI0.out)) | exact HB.out)⟩⟩
    · replace c6 := Bool.eq_false_iff.mpr c6
      subst c6
      have H1 : ((spec_reader_digits.f k t111 t112).bind fun bt113 => (spec_reader_number.j0 k (!bt113.1) bt113.2.1 bt113.2.2)) = some (r1, r2, r3) := by rw [if_neg (show ¬ (false = true) by decide)] at H; exact H
      clear H
      have H := H1
      clear H1
      replace H := Option.bind_eq_some_iff.mp H
      obtain ⟨⟨t113, t114, t115⟩, A80, H⟩ := H
      replace H : (spec_reader_number.j0 k (!t113) t114 t115) = some (r1, r2, r3) := H
      have A8 := Aside0.mk A80
      clear A80
      have H' := Aside0.mk H
      clear H
      go_wp2_with (first | ((with_reducible refine gate_callee (f := 29) rfl ?_); refine goesL_ (some 6) rfl rfl Tryz.func29 (by kernel_rfl) rfl #[.pointer (some ⟨g, 0, none⟩), .int .u8 48] rfl (by (try simp only [List.map_toArray, List.map_cons, List.map_nil]); first | done | rfl | (simp only [List.length_drop, List.length_take]; rfl)) ?_; (with_reducible refine (spec_reader_take.calls g t108 t109 48 false t111 t112 w0 _ ?side1 ?side2 A5.out).mono ?_); (case side1 => repeat (first | (with_reducible first | exact HI0.out | apply IsS51.alloc | apply IsS51.drewN | apply IsS51.drew | apply IsS51.set_0 | apply IsS51.set_1) | exact HI0.out)); (case side2 => repeat (first | (with_reducible first | exact HB.out | apply below_alloc | apply pw_below_drewN | apply below_drew1 | refine below_set ?_ (IsS51.ge HI0.out)) | exact HB.out)); rintro e w9 ⟨rfl, hi, hb, hk⟩; refine ⟨_, rfl, ?_⟩; have n0_ := Aside0.mk (KeepBut.trans (by repeat (first | (with_reducible first | exact HK.out | apply KeepBut.set_ | apply keep_drewN | apply keep_drew | apply keep_alloc) | exact HK.out)) hk (.inl rfl)); have n1_ := Aside0.mk (hb); have n2_ := Aside0.mk (hi); clear HK; clear HB; clear HI0; have HK := n0_; have HB := n1_; have HI0 := n2_; clear n0_ n1_ n2_; (try clear hb); (try clear hb2); (try clear hk); (try clear hi)) | (go_at_call 30; (with_reducible refine (spec_reader_digits.calls k g t111 t112 t113 t114 t115 w0 _ ?side1 ?side2 A8.out).mono ?_); (case side1 => repeat (first | (with_reducible first | exact HI0.out | apply IsS51.alloc | apply IsS51.drewN | apply IsS51.drew | apply IsS51.set_0 | apply IsS51.set_1) | exact HI0.out)); (case side2 => repeat (first | (with_reducible first | exact HB.out | apply below_alloc | apply pw_below_drewN | apply below_drew1 | refine below_set ?_ (IsS51.ge HI0.out)) | exact HB.out)); rintro e w10 ⟨rfl, hi, hb, hk⟩; have n0_ := Aside0.mk (KeepBut.trans (by repeat (first | (with_reducible first | exact HK.out | apply KeepBut.set_ | apply keep_drewN | apply keep_drew | apply keep_alloc) | exact HK.out)) hk (.inl rfl)); have n1_ := Aside0.mk (hb); have n2_ := Aside0.mk (hi); clear HK; clear HB; clear HI0; have HK := n0_; have HB := n1_; have HI0 := n2_; clear n0_ n1_ n2_; (try clear hb); (try clear hb2); (try clear hk); (try clear hi)))
      go_meet
      case rel => exact ⟨_, (!t113), (t114), (t115), (by first | rfl | (simp; done) | (simp [*]; done)), H', ⟨by first | omega | exact Nat.le_refl _⟩, ⟨by repeat (first | (with_reducible first | exact HI0.out | apply IsS51.alloc | apply IsS51.drewN | apply IsS51.drew | apply IsS51.set_0 | apply IsS51.set_1) | exact HI0.out)⟩, ⟨by repeat (first | (with_reducible first | exact HK.out | apply KeepBut.set_ | apply keep_drewN | apply keep_drew | apply keep_alloc) | exact HK.out)⟩, ⟨by repeat (first | (with_reducible first | exact HB.out | apply below_alloc | apply pw_below_drewN | apply below_drew1 | refine below_set ?_ (IsS51.ge HI0.out)) | exact HB.out)⟩⟩
  case rest =>
    clear HC3
    try clear c1
    try clear c2
    try clear p2
    try clear c6
    obtain ⟨kq, x12_2, x1000_2, x1001_2, rfl, HA, HJ2, HI0, HK, HB⟩ := hcut
    cases kq with
    | zero => exact absurd HA.out (by simp [spec_reader_number.j0])
    | succ kj2 =>
      have H := HA.out
      clear HA
      simp only [spec_reader_number.j0] at H
      by_cases c11 : x12_2 = true
      · subst c11
        have H1 : (some (false, x1000_2, x1001_2)) = some (r1, r2, r3) := by rw [if_pos rfl] at H; exact H
        clear H
        have H := H1
        clear H1
        simp only [Option.some.injEq, Prod.mk.injEq] at H
        obtain ⟨rfl, rfl, rfl⟩ := H
        go_wp2
        go_ret
        exact ⟨by first | rfl | (simp [errW_none, errW_some] <;> rfl) | (simp [*, errW_none, errW_some] <;> rfl), by repeat (first | (with_reducible first | exact HI0.out | apply IsS51.alloc | apply IsS51.drewN | apply IsS51.drew | apply IsS51.set_0 | apply IsS51.set_1) | exact HI0.out), by repeat (first | (with_reducible first | exact HB.out | apply below_alloc | apply pw_below_drewN | apply below_drew1 | refine below_set ?_ (IsS51.ge HI0.out)) | exact HB.out), by repeat (first | (with_reducible first | exact HK.out | apply KeepBut.set_ | apply keep_drewN | apply keep_drew | apply keep_alloc) | exact HK.out)⟩
      · replace c11 := Bool.eq_false_iff.mpr c11
        subst c11
        have H1 : ((spec_reader_take.f x1000_2 x1001_2 46).bind fun bt116 => (if bt116.1 = true then ((spec_reader_digits.f kj2 bt116.2.1 bt116.2.2).bind fun bt119 => (spec_reader_number.j1 kj2 (!bt119.1) bt119.2.1 bt119.2.2)) else (spec_reader_number.j1 kj2 false bt116.2.1 bt116.2.2))) = some (r1, r2, r3) := by rw [if_neg (show ¬ (false = true) by decide)] at H; exact H
        clear H
        have H := H1
        clear H1
        have HC12 := Aside0.mk H
        clear H
        go_upto_region 4 with (fail)
        go_cut [19] (fun v19 wc => ∃ (kq : Nat) (x19_11 : Bool) (x1000_11 : ByteArray) (x1001_11 : Int), v19 = .bool x19_11 ∧ Aside0 (spec_reader_number.j1 kq x19_11 x1000_11 x1001_11 = some (r1, r2, r3)) ∧ Aside0 (kq ≤ kj2) ∧ Aside0 (IsS51 w0 wc g x1000_11 x1001_11) ∧ Aside0 (KeepBut w wc g none) ∧ Aside0 (Below w0.heap.size w0 wc))
        case first =>
          have H := HC12.out
          clear HC12
          replace H := Option.bind_eq_some_iff.mp H
          obtain ⟨⟨t116, t117, t118⟩, A130, H⟩ := H
          replace H : (if t116 = true then ((spec_reader_digits.f kj2 t117 t118).bind fun bt119 => (spec_reader_number.j1 kj2 (!bt119.1) bt119.2.1 bt119.2.2)) else (spec_reader_number.j1 kj2 false t117 t118)) = some (r1, r2, r3) := H
          have A13 := Aside0.mk A130
          clear A130
          by_cases c14 : t116 = true
          · subst c14
            have H1 : ((spec_reader_digits.f kj2 t117 t118).bind fun bt119 => (spec_reader_number.j1 kj2 (!bt119.1) bt119.2.1 bt119.2.2)) = some (r1, r2, r3) := by rw [if_pos rfl] at H; exact H
            clear H
            have H := H1
            clear H1
            replace H := Option.bind_eq_some_iff.mp H
            obtain ⟨⟨t119, t120, t121⟩, A150, H⟩ := H
            replace H : (spec_reader_number.j1 kj2 (!t119) t120 t121) = some (r1, r2, r3) := H
            have A15 := Aside0.mk A150
            clear A150
            have H' := Aside0.mk H
            clear H
            go_wp2_with (first | ((with_reducible refine gate_callee (f := 29) rfl ?_); refine goesL_ (some 14) rfl rfl Tryz.func29 (by kernel_rfl) rfl #[.pointer (some ⟨g, 0, none⟩), .int .u8 46] rfl (by (try simp only [List.map_toArray, List.map_cons, List.map_nil]); first | done | rfl | (simp only [List.length_drop, List.length_take]; rfl)) ?_; (with_reducible refine (spec_reader_take.calls g x1000_2 x1001_2 46 true t117 t118 w0 _ ?side1 ?side2 A13.out).mono ?_); (case side1 => repeat (first | (with_reducible first | exact HI0.out | apply IsS51.alloc | apply IsS51.drewN | apply IsS51.drew | apply IsS51.set_0 | apply IsS51.set_1) | exact HI0.out)); (case side2 => repeat (first | (with_reducible first | exact HB.out | apply below_alloc | apply pw_below_drewN | apply below_drew1 | refine below_set ?_ (IsS51.ge HI0.out)) | exact HB.out)); rintro e w16 ⟨rfl, hi, hb, hk⟩; refine ⟨_, rfl, ?_⟩; have n0_ := Aside0.mk (KeepBut.trans (by repeat (first | (with_reducible first | exact HK.out | apply KeepBut.set_ | apply keep_drewN | apply keep_drew | apply keep_alloc) | exact HK.out)) hk (.inl rfl)); have n1_ := Aside0.mk (hb); have n2_ := Aside0.mk (hi); clear HK; clear HB; clear HI0; have HK := n0_; have HB := n1_; have HI0 := n2_; clear n0_ n1_ n2_; (try clear hb); (try clear hb2); (try clear hk); (try clear hi)) | (go_at_call 30; (with_reducible refine (spec_reader_digits.calls kj2 g t117 t118 t119 t120 t121 w0 _ ?side1 ?side2 A15.out).mono ?_); (case side1 => repeat (first | (with_reducible first | exact HI0.out | apply IsS51.alloc | apply IsS51.drewN | apply IsS51.drew | apply IsS51.set_0 | apply IsS51.set_1) | exact HI0.out)); (case side2 => repeat (first | (with_reducible first | exact HB.out | apply below_alloc | apply pw_below_drewN | apply below_drew1 | refine below_set ?_ (IsS51.ge HI0.out)) | exact HB.out)); rintro e w17 ⟨rfl, hi, hb, hk⟩; have n0_ := Aside0.mk (KeepBut.trans (by repeat (first | (with_reducible first | exact HK.out | apply KeepBut.set_ | apply keep_drewN | apply keep_drew | apply keep_alloc) | exact HK.out)) hk (.inl rfl)); have n1_ := Aside0.mk (hb); have n2_ := Aside0.mk (hi); clear HK; clear HB; clear HI0; have HK := n0_; have HB := n1_; have HI0 := n2_; clear n0_ n1_ n2_; (try clear hb); (try clear hb2); (try clear hk); (try clear hi)))
            go_meet
            case rel => exact ⟨_, (!t119), (t120), (t121), (by first | rfl | (simp; done) | (simp [*]; done)), H', ⟨by have := HJ2.out; first | omega | exact Nat.le_refl _⟩, ⟨by repeat (first | (with_reducible first | exact HI0.out | apply IsS51.alloc | apply IsS51.drewN | apply IsS51.drew | apply IsS51.set_0 | apply IsS51.set_1) | exact HI0.out)⟩, ⟨by repeat (first | (with_reducible first | exact HK.out | apply KeepBut.set_ | apply keep_drewN | apply keep_drew | apply keep_alloc) | exact HK.out)⟩, ⟨by repeat (first | (with_reducible first | exact HB.out | apply below_alloc | apply pw_below_drewN | apply below_drew1 | refine below_set ?_ (IsS51.ge HI0.out)) | exact HB.out)⟩⟩
          · replace c14 := Bool.eq_false_iff.mpr c14
            subst c14
            have H1 : (spec_reader_number.j1 kj2 false t117 t118) = some (r1, r2, r3) := by rw [if_neg (show ¬ (false = true) by decide)] at H; exact H
            clear H
            have H := H1
            clear H1
            have H' := Aside0.mk H
            clear H
            go_wp2_with (first | ((with_reducible refine gate_callee (f := 29) rfl ?_); refine goesL_ (some 14) rfl rfl Tryz.func29 (by kernel_rfl) rfl #[.pointer (some ⟨g, 0, none⟩), .int .u8 46] rfl (by (try simp only [List.map_toArray, List.map_cons, List.map_nil]); first | done | rfl | (simp only [List.length_drop, List.length_take]; rfl)) ?_; (with_reducible refine (spec_reader_take.calls g x1000_2 x1001_2 46 false t117 t118 w0 _ ?side1 ?side2 A13.out).mono ?_); (case side1 => repeat (first | (with_reducible first | exact HI0.out | apply IsS51.alloc | apply IsS51.drewN | apply IsS51.drew | apply IsS51.set_0 | apply IsS51.set_1) | exact HI0.out)); (case side2 => repeat (first | (with_reducible first | exact HB.out | apply below_alloc | apply pw_below_drewN | apply below_drew1 | refine below_set ?_ (IsS51.ge HI0.out)) | exact HB.out)); rintro e w18 ⟨rfl, hi, hb, hk⟩; refine ⟨_, rfl, ?_⟩; have n0_ := Aside0.mk (KeepBut.trans (by repeat (first | (with_reducible first | exact HK.out | apply KeepBut.set_ | apply keep_drewN | apply keep_drew | apply keep_alloc) | exact HK.out)) hk (.inl rfl)); have n1_ := Aside0.mk (hb); have n2_ := Aside0.mk (hi); clear HK; clear HB; clear HI0; have HK := n0_; have HB := n1_; have HI0 := n2_; clear n0_ n1_ n2_; (try clear hb); (try clear hb2); (try clear hk); (try clear hi)))
            go_meet
            case rel => exact ⟨_, (false), (t117), (t118), (by first | rfl | (simp; done) | (simp [*]; done)), H', ⟨by have := HJ2.out; first | omega | exact Nat.le_refl _⟩, ⟨by repeat (first | (with_reducible first | exact HI0.out | apply IsS51.alloc | apply IsS51.drewN | apply IsS51.drew | apply IsS51.set_0 | apply IsS51.set_1) | exact HI0.out)⟩, ⟨by repeat (first | (with_reducible first | exact HK.out | apply KeepBut.set_ | apply keep_drewN | apply keep_drew | apply keep_alloc) | exact HK.out)⟩, ⟨by repeat (first | (with_reducible first | exact HB.out | apply below_alloc | apply pw_below_drewN | apply below_drew1 | refine below_set ?_ (IsS51.ge HI0.out)) | exact HB.out)⟩⟩
        case rest =>
          clear HC12
          try clear c1
          try clear c2
          try clear p2
          try clear c6
          try clear c11
          try clear c14
          try clear c16
          try clear p2
          obtain ⟨kq, x19_11, x1000_11, x1001_11, rfl, HA, HJ11, HI0, HK, HB⟩ := hcut
          cases kq with
          | zero => exact absurd HA.out (by simp [spec_reader_number.j1])
          | succ kj11 =>
            have H := HA.out
            clear HA
            simp only [spec_reader_number.j1] at H
            by_cases c19 : x19_11 = true
            · subst c19
              have H1 : (some (false, x1000_11, x1001_11)) = some (r1, r2, r3) := by rw [if_pos rfl] at H; exact H
              clear H
              have H := H1
              clear H1
              simp only [Option.some.injEq, Prod.mk.injEq] at H
              obtain ⟨rfl, rfl, rfl⟩ := H
              go_wp2
              go_ret
              exact ⟨by first | rfl | (simp [errW_none, errW_some] <;> rfl) | (simp [*, errW_none, errW_some] <;> rfl), by repeat (first | (with_reducible first | exact HI0.out | apply IsS51.alloc | apply IsS51.drewN | apply IsS51.drew | apply IsS51.set_0 | apply IsS51.set_1) | exact HI0.out), by repeat (first | (with_reducible first | exact HB.out | apply below_alloc | apply pw_below_drewN | apply below_drew1 | refine below_set ?_ (IsS51.ge HI0.out)) | exact HB.out), by repeat (first | (with_reducible first | exact HK.out | apply KeepBut.set_ | apply keep_drewN | apply keep_drew | apply keep_alloc) | exact HK.out)⟩
            · replace c19 := Bool.eq_false_iff.mpr c19
              subst c19
              have H1 : ((spec_reader_take.f x1000_11 x1001_11 101).bind fun bt122 => (if bt122.1 = true then (spec_reader_number.j2 kj11 true bt122.2.1 bt122.2.2) else ((spec_reader_take.f bt122.2.1 bt122.2.2 69).bind fun bt125 => (spec_reader_number.j2 kj11 bt125.1 bt125.2.1 bt125.2.2)))) = some (r1, r2, r3) := by rw [if_neg (show ¬ (false = true) by decide)] at H; exact H
              clear H
              have H := H1
              clear H1
              have HC20 := Aside0.mk H
              clear H
              go_upto_region 6 with (fail)
              go_cut [25] (fun v25 wc => ∃ (kq : Nat) (x25_19 : Bool) (x1000_19 : ByteArray) (x1001_19 : Int), v25 = .bool x25_19 ∧ Aside0 (spec_reader_number.j2 kq x25_19 x1000_19 x1001_19 = some (r1, r2, r3)) ∧ Aside0 (kq ≤ kj11) ∧ Aside0 (IsS51 w0 wc g x1000_19 x1001_19) ∧ Aside0 (KeepBut w wc g none) ∧ Aside0 (Below w0.heap.size w0 wc))
              case first =>
                have H := HC20.out
                clear HC20
                replace H := Option.bind_eq_some_iff.mp H
                obtain ⟨⟨t122, t123, t124⟩, A210, H⟩ := H
                replace H : (if t122 = true then (spec_reader_number.j2 kj11 true t123 t124) else ((spec_reader_take.f t123 t124 69).bind fun bt125 => (spec_reader_number.j2 kj11 bt125.1 bt125.2.1 bt125.2.2))) = some (r1, r2, r3) := H
                have A21 := Aside0.mk A210
                clear A210
                by_cases c22 : t122 = true
                · subst c22
                  have H1 : (spec_reader_number.j2 kj11 true t123 t124) = some (r1, r2, r3) := by rw [if_pos rfl] at H; exact H
                  clear H
                  have H := H1
                  clear H1
                  have H' := Aside0.mk H
                  clear H
                  go_wp2_with (first | ((with_reducible refine gate_callee (f := 29) rfl ?_); refine goesL_ (some 21) rfl rfl Tryz.func29 (by kernel_rfl) rfl #[.pointer (some ⟨g, 0, none⟩), .int .u8 101] rfl (by (try simp only [List.map_toArray, List.map_cons, List.map_nil]); first | done | rfl | (simp only [List.length_drop, List.length_take]; rfl)) ?_; (with_reducible refine (spec_reader_take.calls g x1000_11 x1001_11 101 true t123 t124 w0 _ ?side1 ?side2 A21.out).mono ?_); (case side1 => repeat (first | (with_reducible first | exact HI0.out | apply IsS51.alloc | apply IsS51.drewN | apply IsS51.drew | apply IsS51.set_0 | apply IsS51.set_1) | exact HI0.out)); (case side2 => repeat (first | (with_reducible first | exact HB.out | apply below_alloc | apply pw_below_drewN | apply below_drew1 | refine below_set ?_ (IsS51.ge HI0.out)) | exact HB.out)); rintro e w23 ⟨rfl, hi, hb, hk⟩; refine ⟨_, rfl, ?_⟩; have n0_ := Aside0.mk (KeepBut.trans (by repeat (first | (with_reducible first | exact HK.out | apply KeepBut.set_ | apply keep_drewN | apply keep_drew | apply keep_alloc) | exact HK.out)) hk (.inl rfl)); have n1_ := Aside0.mk (hb); have n2_ := Aside0.mk (hi); clear HK; clear HB; clear HI0; have HK := n0_; have HB := n1_; have HI0 := n2_; clear n0_ n1_ n2_; (try clear hb); (try clear hb2); (try clear hk); (try clear hi)))
                  go_meet
                  case rel => exact ⟨_, (true), (t123), (t124), (by first | rfl | (simp; done) | (simp [*]; done)), H', ⟨by have := HJ2.out; have := HJ11.out; first | omega | exact Nat.le_refl _⟩, ⟨by repeat (first | (with_reducible first | exact HI0.out | apply IsS51.alloc | apply IsS51.drewN | apply IsS51.drew | apply IsS51.set_0 | apply IsS51.set_1) | exact HI0.out)⟩, ⟨by repeat (first | (with_reducible first | exact HK.out | apply KeepBut.set_ | apply keep_drewN | apply keep_drew | apply keep_alloc) | exact HK.out)⟩, ⟨by repeat (first | (with_reducible first | exact HB.out | apply below_alloc | apply pw_below_drewN | apply below_drew1 | refine below_set ?_ (IsS51.ge HI0.out)) | exact HB.out)⟩⟩
                · replace c22 := Bool.eq_false_iff.mpr c22
                  subst c22
                  have H1 : ((spec_reader_take.f t123 t124 69).bind fun bt125 => (spec_reader_number.j2 kj11 bt125.1 bt125.2.1 bt125.2.2)) = some (r1, r2, r3) := by rw [if_neg (show ¬ (false = true) by decide)] at H; exact H
                  clear H
                  have H := H1
                  clear H1
                  replace H := Option.bind_eq_some_iff.mp H
                  obtain ⟨⟨t125, t126, t127⟩, A240, H⟩ := H
                  replace H : (spec_reader_number.j2 kj11 t125 t126 t127) = some (r1, r2, r3) := H
                  have A24 := Aside0.mk A240
                  clear A240
                  have H' := Aside0.mk H
                  clear H
                  go_wp2_with (first | ((with_reducible refine gate_callee (f := 29) rfl ?_); refine goesL_ (some 21) rfl rfl Tryz.func29 (by kernel_rfl) rfl #[.pointer (some ⟨g, 0, none⟩), .int .u8 101] rfl (by (try simp only [List.map_toArray, List.map_cons, List.map_nil]); first | done | rfl | (simp only [List.length_drop, List.length_take]; rfl)) ?_; (with_reducible refine (spec_reader_take.calls g x1000_11 x1001_11 101 false t123 t124 w0 _ ?side1 ?side2 A21.out).mono ?_); (case side1 => repeat (first | (with_reducible first | exact HI0.out | apply IsS51.alloc | apply IsS51.drewN | apply IsS51.drew | apply IsS51.set_0 | apply IsS51.set_1) | exact HI0.out)); (case side2 => repeat (first | (with_reducible first | exact HB.out | apply below_alloc | apply pw_below_drewN | apply below_drew1 | refine below_set ?_ (IsS51.ge HI0.out)) | exact HB.out)); rintro e w25 ⟨rfl, hi, hb, hk⟩; refine ⟨_, rfl, ?_⟩; have n0_ := Aside0.mk (KeepBut.trans (by repeat (first | (with_reducible first | exact HK.out | apply KeepBut.set_ | apply keep_drewN | apply keep_drew | apply keep_alloc) | exact HK.out)) hk (.inl rfl)); have n1_ := Aside0.mk (hb); have n2_ := Aside0.mk (hi); clear HK; clear HB; clear HI0; have HK := n0_; have HB := n1_; have HI0 := n2_; clear n0_ n1_ n2_; (try clear hb); (try clear hb2); (try clear hk); (try clear hi)) | (go_at_call 29; (with_reducible refine (spec_reader_take.calls g t123 t124 69 t125 t126 t127 w0 _ ?side1 ?side2 A24.out).mono ?_); (case side1 => repeat (first | (with_reducible first | exact HI0.out | apply IsS51.alloc | apply IsS51.drewN | apply IsS51.drew | apply IsS51.set_0 | apply IsS51.set_1) | exact HI0.out)); (case side2 => repeat (first | (with_reducible first | exact HB.out | apply below_alloc | apply pw_below_drewN | apply below_drew1 | refine below_set ?_ (IsS51.ge HI0.out)) | exact HB.out)); rintro e w26 ⟨rfl, hi, hb, hk⟩; have n0_ := Aside0.mk (KeepBut.trans (by repeat (first | (with_reducible first | exact HK.out | apply KeepBut.set_ | apply keep_drewN | apply keep_drew | apply keep_alloc) | exact HK.out)) hk (.inl rfl)); have n1_ := Aside0.mk (hb); have n2_ := Aside0.mk (hi); clear HK; clear HB; clear HI0; have HK := n0_; have HB := n1_; have HI0 := n2_; clear n0_ n1_ n2_; (try clear hb); (try clear hb2); (try clear hk); (try clear hi)))
                  go_meet
                  case rel => exact ⟨_, (t125), (t126), (t127), (by first | rfl | (simp; done) | (simp [*]; done)), H', ⟨by have := HJ2.out; have := HJ11.out; first | omega | exact Nat.le_refl _⟩, ⟨by repeat (first | (with_reducible first | exact HI0.out | apply IsS51.alloc | apply IsS51.drewN | apply IsS51.drew | apply IsS51.set_0 | apply IsS51.set_1) | exact HI0.out)⟩, ⟨by repeat (first | (with_reducible first | exact HK.out | apply KeepBut.set_ | apply keep_drewN | apply keep_drew | apply keep_alloc) | exact HK.out)⟩, ⟨by repeat (first | (with_reducible first | exact HB.out | apply below_alloc | apply pw_below_drewN | apply below_drew1 | refine below_set ?_ (IsS51.ge HI0.out)) | exact HB.out)⟩⟩
              case rest =>
                clear HC20
                try clear c1
                try clear c2
                try clear p2
                try clear c6
                try clear c11
                try clear c14
                try clear c16
                try clear c19
                try clear c22
                try clear p2
                obtain ⟨kq, x25_19, x1000_19, x1001_19, rfl, HA, HJ19, HI0, HK, HB⟩ := hcut
                cases kq with
                | zero => exact absurd HA.out (by simp [spec_reader_number.j2])
                | succ kj19 =>
                  have H := HA.out
                  clear HA
                  simp only [spec_reader_number.j2] at H
                  by_cases c27 : x25_19 = true
                  · subst c27
                    have H1 : ((spec_reader_take.f x1000_19 x1001_19 43).bind fun bt128 => (if bt128.1 = true then ((spec_reader_digits.f kj19 bt128.2.1 bt128.2.2).bind fun bt131 => (some (bt131.1, bt131.2.1, bt131.2.2))) else ((spec_reader_take.f bt128.2.1 bt128.2.2 45).bind fun bt134 => ((spec_reader_digits.f kj19 bt134.2.1 bt134.2.2).bind fun bt137 => (some (bt137.1, bt137.2.1, bt137.2.2)))))) = some (r1, r2, r3) := by rw [if_pos rfl] at H; exact H
                    clear H
                    have H := H1
                    clear H1
                    replace H := Option.bind_eq_some_iff.mp H
                    obtain ⟨⟨t128, t129, t130⟩, A280, H⟩ := H
                    replace H : (if t128 = true then ((spec_reader_digits.f kj19 t129 t130).bind fun bt131 => (some (bt131.1, bt131.2.1, bt131.2.2))) else ((spec_reader_take.f t129 t130 45).bind fun bt134 => ((spec_reader_digits.f kj19 bt134.2.1 bt134.2.2).bind fun bt137 => (some (bt137.1, bt137.2.1, bt137.2.2))))) = some (r1, r2, r3) := H
                    have A28 := Aside0.mk A280
                    clear A280
                    by_cases c29 : t128 = true
                    · subst c29
                      have H1 : ((spec_reader_digits.f kj19 t129 t130).bind fun bt131 => (some (bt131.1, bt131.2.1, bt131.2.2))) = some (r1, r2, r3) := by rw [if_pos rfl] at H; exact H
                      clear H
                      have H := H1
                      clear H1
                      replace H := Option.bind_eq_some_iff.mp H
                      obtain ⟨⟨t131, t132, t133⟩, A300, H⟩ := H
                      replace H : (some (t131, t132, t133)) = some (r1, r2, r3) := H
                      have A30 := Aside0.mk A300
                      clear A300
                      simp only [Option.some.injEq, Prod.mk.injEq] at H
                      obtain ⟨rfl, rfl, rfl⟩ := H
                      go_wp2_with (first | ((with_reducible refine gate_callee (f := 29) rfl ?_); refine goesL_ (some 27) rfl rfl Tryz.func29 (by kernel_rfl) rfl #[.pointer (some ⟨g, 0, none⟩), .int .u8 43] rfl (by (try simp only [List.map_toArray, List.map_cons, List.map_nil]); first | done | rfl | (simp only [List.length_drop, List.length_take]; rfl)) ?_; (with_reducible refine (spec_reader_take.calls g x1000_19 x1001_19 43 true t129 t130 w0 _ ?side1 ?side2 A28.out).mono ?_); (case side1 => repeat (first | (with_reducible first | exact HI0.out | apply IsS51.alloc | apply IsS51.drewN | apply IsS51.drew | apply IsS51.set_0 | apply IsS51.set_1) | exact HI0.out)); (case side2 => repeat (first | (with_reducible first | exact HB.out | apply below_alloc | apply pw_below_drewN | apply below_drew1 | refine below_set ?_ (IsS51.ge HI0.out)) | exact HB.out)); rintro e w31 ⟨rfl, hi, hb, hk⟩; refine ⟨_, rfl, ?_⟩; have n0_ := Aside0.mk (KeepBut.trans (by repeat (first | (with_reducible first | exact HK.out | apply KeepBut.set_ | apply keep_drewN | apply keep_drew | apply keep_alloc) | exact HK.out)) hk (.inl rfl)); have n1_ := Aside0.mk (hb); have n2_ := Aside0.mk (hi); clear HK; clear HB; clear HI0; have HK := n0_; have HB := n1_; have HI0 := n2_; clear n0_ n1_ n2_; (try clear hb); (try clear hb2); (try clear hk); (try clear hi)) | ((with_reducible refine gate_callee (f := 30) rfl ?_); refine goesL_ (some 32) rfl rfl Tryz.func30 (by kernel_rfl) rfl #[.pointer (some ⟨g, 0, none⟩)] rfl (by (try simp only [List.map_toArray, List.map_cons, List.map_nil]); first | done | rfl | (simp only [List.length_drop, List.length_take]; rfl)) ?_; (with_reducible refine (spec_reader_digits.calls kj19 g t129 t130 t131 t132 t133 w0 _ ?side1 ?side2 A30.out).mono ?_); (case side1 => repeat (first | (with_reducible first | exact HI0.out | apply IsS51.alloc | apply IsS51.drewN | apply IsS51.drew | apply IsS51.set_0 | apply IsS51.set_1) | exact HI0.out)); (case side2 => repeat (first | (with_reducible first | exact HB.out | apply below_alloc | apply pw_below_drewN | apply below_drew1 | refine below_set ?_ (IsS51.ge HI0.out)) | exact HB.out)); rintro e w32 ⟨rfl, hi, hb, hk⟩; refine ⟨_, rfl, ?_⟩; have n0_ := Aside0.mk (KeepBut.trans (by repeat (first | (with_reducible first | exact HK.out | apply KeepBut.set_ | apply keep_drewN | apply keep_drew | apply keep_alloc) | exact HK.out)) hk (.inl rfl)); have n1_ := Aside0.mk (hb); have n2_ := Aside0.mk (hi); clear HK; clear HB; clear HI0; have HK := n0_; have HB := n1_; have HI0 := n2_; clear n0_ n1_ n2_; (try clear hb); (try clear hb2); (try clear hk); (try clear hi)))
                      go_ret
                      exact ⟨by first | rfl | (simp [errW_none, errW_some] <;> rfl) | (simp [*, errW_none, errW_some] <;> rfl), by repeat (first | (with_reducible first | exact HI0.out | apply IsS51.alloc | apply IsS51.drewN | apply IsS51.drew | apply IsS51.set_0 | apply IsS51.set_1) | exact HI0.out), by repeat (first | (with_reducible first | exact HB.out | apply below_alloc | apply pw_below_drewN | apply below_drew1 | refine below_set ?_ (IsS51.ge HI0.out)) | exact HB.out), by repeat (first | (with_reducible first | exact HK.out | apply KeepBut.set_ | apply keep_drewN | apply keep_drew | apply keep_alloc) | exact HK.out)⟩
                    · replace c29 := Bool.eq_false_iff.mpr c29
                      subst c29
                      have H1 : ((spec_reader_take.f t129 t130 45).bind fun bt134 => ((spec_reader_digits.f kj19 bt134.2.1 bt134.2.2).bind fun bt137 => (some (bt137.1, bt137.2.1, bt137.2.2)))) = some (r1, r2, r3) := by rw [if_neg (show ¬ (false = true) by decide)] at H; exact H
                      clear H
                      have H := H1
                      clear H1
                      replace H := Option.bind_eq_some_iff.mp H
                      obtain ⟨⟨t134, t135, t136⟩, A330, H⟩ := H
                      replace H : ((spec_reader_digits.f kj19 t135 t136).bind fun bt137 => (some (bt137.1, bt137.2.1, bt137.2.2))) = some (r1, r2, r3) := H
                      have A33 := Aside0.mk A330
                      clear A330
                      replace H := Option.bind_eq_some_iff.mp H
                      obtain ⟨⟨t137, t138, t139⟩, A340, H⟩ := H
                      replace H : (some (t137, t138, t139)) = some (r1, r2, r3) := H
                      have A34 := Aside0.mk A340
                      clear A340
                      simp only [Option.some.injEq, Prod.mk.injEq] at H
                      obtain ⟨rfl, rfl, rfl⟩ := H
                      go_wp2_with (first | ((with_reducible refine gate_callee (f := 29) rfl ?_); refine goesL_ (some 27) rfl rfl Tryz.func29 (by kernel_rfl) rfl #[.pointer (some ⟨g, 0, none⟩), .int .u8 43] rfl (by (try simp only [List.map_toArray, List.map_cons, List.map_nil]); first | done | rfl | (simp only [List.length_drop, List.length_take]; rfl)) ?_; (with_reducible refine (spec_reader_take.calls g x1000_19 x1001_19 43 false t129 t130 w0 _ ?side1 ?side2 A28.out).mono ?_); (case side1 => repeat (first | (with_reducible first | exact HI0.out | apply IsS51.alloc | apply IsS51.drewN | apply IsS51.drew | apply IsS51.set_0 | apply IsS51.set_1) | exact HI0.out)); (case side2 => repeat (first | (with_reducible first | exact HB.out | apply below_alloc | apply pw_below_drewN | apply below_drew1 | refine below_set ?_ (IsS51.ge HI0.out)) | exact HB.out)); rintro e w35 ⟨rfl, hi, hb, hk⟩; refine ⟨_, rfl, ?_⟩; have n0_ := Aside0.mk (KeepBut.trans (by repeat (first | (with_reducible first | exact HK.out | apply KeepBut.set_ | apply keep_drewN | apply keep_drew | apply keep_alloc) | exact HK.out)) hk (.inl rfl)); have n1_ := Aside0.mk (hb); have n2_ := Aside0.mk (hi); clear HK; clear HB; clear HI0; have HK := n0_; have HB := n1_; have HI0 := n2_; clear n0_ n1_ n2_; (try clear hb); (try clear hb2); (try clear hk); (try clear hi)) | ((with_reducible refine gate_callee (f := 29) rfl ?_); refine goesL_ (some 30) rfl rfl Tryz.func29 (by kernel_rfl) rfl #[.pointer (some ⟨g, 0, none⟩), .int .u8 45] rfl (by (try simp only [List.map_toArray, List.map_cons, List.map_nil]); first | done | rfl | (simp only [List.length_drop, List.length_take]; rfl)) ?_; (with_reducible refine (spec_reader_take.calls g t129 t130 45 t134 t135 t136 w0 _ ?side1 ?side2 A33.out).mono ?_); (case side1 => repeat (first | (with_reducible first | exact HI0.out | apply IsS51.alloc | apply IsS51.drewN | apply IsS51.drew | apply IsS51.set_0 | apply IsS51.set_1) | exact HI0.out)); (case side2 => repeat (first | (with_reducible first | exact HB.out | apply below_alloc | apply pw_below_drewN | apply below_drew1 | refine below_set ?_ (IsS51.ge HI0.out)) | exact HB.out)); rintro e w36 ⟨rfl, hi, hb, hk⟩; refine ⟨_, rfl, ?_⟩; have n0_ := Aside0.mk (KeepBut.trans (by repeat (first | (with_reducible first | exact HK.out | apply KeepBut.set_ | apply keep_drewN | apply keep_drew | apply keep_alloc) | exact HK.out)) hk (.inl rfl)); have n1_ := Aside0.mk (hb); have n2_ := Aside0.mk (hi); clear HK; clear HB; clear HI0; have HK := n0_; have HB := n1_; have HI0 := n2_; clear n0_ n1_ n2_; (try clear hb); (try clear hb2); (try clear hk); (try clear hi)) | ((with_reducible refine gate_callee (f := 30) rfl ?_); refine goesL_ (some 32) rfl rfl Tryz.func30 (by kernel_rfl) rfl #[.pointer (some ⟨g, 0, none⟩)] rfl (by (try simp only [List.map_toArray, List.map_cons, List.map_nil]); first | done | rfl | (simp only [List.length_drop, List.length_take]; rfl)) ?_; (with_reducible refine (spec_reader_digits.calls kj19 g t135 t136 t137 t138 t139 w0 _ ?side1 ?side2 A34.out).mono ?_); (case side1 => repeat (first | (with_reducible first | exact HI0.out | apply IsS51.alloc | apply IsS51.drewN | apply IsS51.drew | apply IsS51.set_0 | apply IsS51.set_1) | exact HI0.out)); (case side2 => repeat (first | (with_reducible first | exact HB.out | apply below_alloc | apply pw_below_drewN | apply below_drew1 | refine below_set ?_ (IsS51.ge HI0.out)) | exact HB.out)); rintro e w37 ⟨rfl, hi, hb, hk⟩; refine ⟨_, rfl, ?_⟩; have n0_ := Aside0.mk (KeepBut.trans (by repeat (first | (with_reducible first | exact HK.out | apply KeepBut.set_ | apply keep_drewN | apply keep_drew | apply keep_alloc) | exact HK.out)) hk (.inl rfl)); have n1_ := Aside0.mk (hb); have n2_ := Aside0.mk (hi); clear HK; clear HB; clear HI0; have HK := n0_; have HB := n1_; have HI0 := n2_; clear n0_ n1_ n2_; (try clear hb); (try clear hb2); (try clear hk); (try clear hi)))
                      go_ret
                      exact ⟨by first | rfl | (simp [errW_none, errW_some] <;> rfl) | (simp [*, errW_none, errW_some] <;> rfl), by repeat (first | (with_reducible first | exact HI0.out | apply IsS51.alloc | apply IsS51.drewN | apply IsS51.drew | apply IsS51.set_0 | apply IsS51.set_1) | exact HI0.out), by repeat (first | (with_reducible first | exact HB.out | apply below_alloc | apply pw_below_drewN | apply below_drew1 | refine below_set ?_ (IsS51.ge HI0.out)) | exact HB.out), by repeat (first | (with_reducible first | exact HK.out | apply KeepBut.set_ | apply keep_drewN | apply keep_drew | apply keep_alloc) | exact HK.out)⟩
                  · replace c27 := Bool.eq_false_iff.mpr c27
                    subst c27
                    have H1 : (some (true, x1000_19, x1001_19)) = some (r1, r2, r3) := by rw [if_neg (show ¬ (false = true) by decide)] at H; exact H
                    clear H
                    have H := H1
                    clear H1
                    simp only [Option.some.injEq, Prod.mk.injEq] at H
                    obtain ⟨rfl, rfl, rfl⟩ := H
                    go_wp2
                    go_ret
                    exact ⟨by first | rfl | (simp [errW_none, errW_some] <;> rfl) | (simp [*, errW_none, errW_some] <;> rfl), by repeat (first | (with_reducible first | exact HI0.out | apply IsS51.alloc | apply IsS51.drewN | apply IsS51.drew | apply IsS51.set_0 | apply IsS51.set_1) | exact HI0.out), by repeat (first | (with_reducible first | exact HB.out | apply below_alloc | apply pw_below_drewN | apply below_drew1 | refine below_set ?_ (IsS51.ge HI0.out)) | exact HB.out), by repeat (first | (with_reducible first | exact HK.out | apply KeepBut.set_ | apply keep_drewN | apply keep_drew | apply keep_alloc) | exact HK.out)⟩

-- NOT PRINTED: function 8 (spec_IsNumber)

end Go.Proofs.YtodbjojglibniaaGreatDoor

set_option linter.unusedVariables false
set_option linter.unusedSimpArgs false
namespace Go.Proofs.YtodbjojglibniaaGreatDoor
open Go.RowKit Go.Proofs.YtodbjojglibniaaGreatDoorW.PrintWords Go.Proofs.YtodbjojglibniaaGreatDoorW.PrintLast

/-- A number's text: W digits from st on, F behind a point, N of a power (x: where they begin). -/
structure Num0 (s : ByteArray) (neg : Bool) (W F : Nat) (x esg : Int) (N : Nat) : Prop where
  sgn : (neg = true ∧ bt s 0 = 45) ∨ (neg = false ∧ ¬ bt s 0 = 45)
  one : 1 ≤ W
  fits : (if neg then 1 else 0) + W ≤ s.size
  kinds : ∀ k < W, 48 ≤ bt s (((if neg then 1 else 0) + k : Nat) : Int) ∧ bt s (((if neg then 1 else 0) + k : Nat) : Int) ≤ 57
  zero : bt s (((if neg then 1 else 0 : Nat)) : Int) = 48 → W = 1
  frac : F ≠ 0 → bt s (((if neg then 1 else 0) + W : Nat) : Int) = 46 ∧ (if neg then 1 else 0) + W + 1 + F ≤ s.size ∧ ∀ k < F, 48 ≤ bt s (((if neg then 1 else 0) + W + 1 + k : Nat) : Int) ∧ bt s (((if neg then 1 else 0) + W + 1 + k : Nat) : Int) ≤ 57
  back : (N = 0 ∧ (if neg then 1 else 0) + W + (if F = 0 then 0 else 1 + F) = s.size) ∨
    (1 ≤ N ∧ ∃ q : Nat, q = (if neg then 1 else 0) + W + (if F = 0 then 0 else 1 + F) ∧ (bt s q = 69 ∨ bt s q = 101) ∧
      ((x = (q : Int) + 1 ∧ esg = 1) ∨ (x = (q : Int) + 1 + 1 ∧ bt s ((q : Int) + 1) = 43 ∧ esg = 1) ∨ (x = (q : Int) + 1 + 1 ∧ bt s ((q : Int) + 1) = 45 ∧ esg = -1)) ∧
      x + N = (s.size : Int) ∧ ∀ k : Nat, k < N → 48 ≤ bt s (x + k) ∧ bt s (x + k) ≤ 57)

theorem bt_out {s : ByteArray} {i : Int} (h : (s.size : Int) ≤ i) : bt s i = 0 := by
  unfold bt
  rw [dif_neg (by omega)]
theorem here_eq (s : ByteArray) (p : Nat) : spec_reader_here.f s p = some (bt s p, s, (p : Int)) := by
  unfold spec_reader_here.f
  by_cases h : (p : Int) < s.size
  · rw [if_pos h, if_pos (by omega)]
  · rw [if_neg h, bt_out (by omega)]
theorem take_yes {s : ByteArray} {p : Nat} {c : Int} (hs : s.size < 2 ^ 62) (h : p < s.size) (hb : bt s p = c) : spec_reader_take.f s p c = some (true, s, ((p + 1 : Nat) : Int)) := by
  unfold spec_reader_take.f
  rw [if_pos (by omega), if_pos (by omega), if_pos hb]
  have : wrap64 ((p : Int) + 1) = ((p + 1 : Nat) : Int) := by unfold wrap64; omega
  rw [this]
theorem take_no {s : ByteArray} {p : Nat} {c : Int} (h : ¬ (p < s.size ∧ bt s p = c)) : spec_reader_take.f s p c = some (false, s, (p : Int)) := by
  unfold spec_reader_take.f
  by_cases h1 : p < s.size
  · rw [if_pos (by omega), if_pos (by omega), if_neg (fun e => h ⟨h1, e⟩)]
  · rw [if_neg (by omega)]
theorem l0_run (s : ByteArray) (hs : s.size < 2 ^ 62) (x3 : Int) : ∀ (d k p : Nat), s.size ≤ p + d → d < k → ∃ n : Nat, spec_reader_digits.l0 k x3 (bt s p) s p = some (decide (((p + n : Nat) : Int) > x3), s, ((p + n : Nat) : Int)) ∧ (n = 0 ∨ p + n ≤ s.size) ∧
    (∀ j < n, 48 ≤ bt s ((p + j : Nat) : Int) ∧ bt s ((p + j : Nat) : Int) ≤ 57) ∧ ¬ (48 ≤ bt s ((p + n : Nat) : Int) ∧ bt s ((p + n : Nat) : Int) ≤ 57)
  | d, 0, p, _, hk => absurd hk (by omega)
  | d, k + 1, p, hd, hk => by
    by_cases c : 48 ≤ bt s p ∧ bt s p ≤ 57
    · have hp : p < s.size := by
        by_cases h : p < s.size
        · exact h
        · rw [bt_out (by omega)] at c; omega
      match d, hd, hk with
      | 0, hd, _ => omega
      | d + 1, hd, hk =>
        obtain ⟨n, h1, h2, h3, h4⟩ := l0_run s hs x3 d k (p + 1) (by omega) (by omega)
        refine ⟨n + 1, ?_, .inr ?_, ?_, ?_⟩
        · simp only [spec_reader_digits.l0]
          have e : wrap64 ((p : Int) + 1) = ((p + 1 : Nat) : Int) := by unfold wrap64; omega
          rw [if_pos c.1, if_pos c.2, e, here_eq]
          simp only [Option.bind_some]
          rw [h1, show p + 1 + n = p + (n + 1) by omega]
        · rcases h2 with h2 | h2 <;> omega
        · intro j hj
          match j with
          | 0 => exact c
          | j + 1 =>
            have := h3 j (by omega)
            rwa [show p + 1 + j = p + (j + 1) by omega] at this
        · rwa [show p + 1 + n = p + (n + 1) by omega] at h4
    · refine ⟨0, ?_, .inl rfl, fun j hj => absurd hj (by omega), c⟩
      simp only [spec_reader_digits.l0, Nat.add_zero]
      by_cases c1 : 48 ≤ bt s p
      · rw [if_pos c1, if_neg (fun h => c ⟨c1, h⟩)]
      · rw [if_neg c1]
theorem digits_run (s : ByteArray) (hs : s.size < 2 ^ 62) (k p : Nat) (hk : s.size - p < k) : ∃ n : Nat, spec_reader_digits.f k s p = some (decide (0 < n), s, ((p + n : Nat) : Int)) ∧ (n = 0 ∨ p + n ≤ s.size) ∧
    (∀ j < n, 48 ≤ bt s ((p + j : Nat) : Int) ∧ bt s ((p + j : Nat) : Int) ≤ 57) ∧ ¬ (48 ≤ bt s ((p + n : Nat) : Int) ∧ bt s ((p + n : Nat) : Int) ≤ 57) := by
  obtain ⟨n, h1, h2⟩ := l0_run s hs (p : Int) (s.size - p) k p (by omega) (by omega)
  refine ⟨n, ?_, h2⟩
  unfold spec_reader_digits.f
  rw [here_eq]
  simp only [Option.bind_some]
  have e : decide (((p + n : Nat) : Int) > (p : Int)) = decide (0 < n) := by rw [decide_eq_decide]; omega
  rw [h1, e]

theorem number_run (s : ByteArray) (hs : s.size < 2 ^ 62) : ∃ (k : Nat) (r : Bool) (q : Nat), spec_reader_number.f k s 0 = some (r, s, (q : Int)) ∧ (r = true → q = s.size → ∃ neg W F x esg N, Num0 s neg W F x esg N) := by
  obtain ⟨K, hK⟩ : ∃ K, K = s.size + 10 := ⟨_, rfl⟩
  -- the sign
  obtain ⟨neg, st, hneg, hst, t0⟩ : ∃ (neg : Bool) (st : Nat), ((neg = true ∧ bt s 0 = 45) ∨ (neg = false ∧ ¬ bt s 0 = 45)) ∧ st = (if neg then 1 else 0) ∧ ∃ b, spec_reader_take.f s 0 45 = some (b, s, (st : Int)) := by
    by_cases h : 0 < s.size ∧ bt s ((0 : Nat) : Int) = 45
    · exact ⟨true, 1, .inl ⟨rfl, h.2⟩, rfl, true, take_yes hs h.1 h.2⟩
    · refine ⟨false, 0, .inr ⟨rfl, fun h1 => h ⟨?_, h1⟩⟩, rfl, false, take_no h⟩
      by_cases h0 : 0 < s.size
      · exact h0
      · rw [bt_out (by omega)] at h1; omega
  obtain ⟨b0, t0⟩ := t0
  -- behind the power's letter
  have J2 : ∀ (p : Nat), ∃ (r : Bool) (q : Nat), spec_reader_number.j2 (K + 1) true s (p : Int) = some (r, s, (q : Int)) ∧ (r = true → q = s.size → ∃ (x esg : Int) (N : Nat), 1 ≤ N ∧
      ((x = (p : Int) ∧ esg = 1) ∨ (x = (p : Int) + 1 ∧ bt s (p : Int) = 43 ∧ esg = 1) ∨ (x = (p : Int) + 1 ∧ bt s (p : Int) = 45 ∧ esg = -1)) ∧ x + N = (s.size : Int) ∧ ∀ k : Nat, k < N → 48 ≤ bt s (x + k) ∧ bt s (x + k) ≤ 57) := by
    intro p
    have fin : ∀ (x : Nat) (esg : Int), ((x = p ∧ esg = 1) ∨ (x = p + 1 ∧ bt s (p : Int) = 43 ∧ esg = 1) ∨ (x = p + 1 ∧ bt s (p : Int) = 45 ∧ esg = -1)) → ∃ (r : Bool) (q : Nat), spec_reader_digits.f K s (x : Int) = some (r, s, (q : Int)) ∧ (r = true → q = s.size → ∃ (x esg : Int) (N : Nat), 1 ≤ N ∧
      ((x = (p : Int) ∧ esg = 1) ∨ (x = (p : Int) + 1 ∧ bt s (p : Int) = 43 ∧ esg = 1) ∨ (x = (p : Int) + 1 ∧ bt s (p : Int) = 45 ∧ esg = -1)) ∧ x + N = (s.size : Int) ∧ ∀ k : Nat, k < N → 48 ≤ bt s (x + k) ∧ bt s (x + k) ≤ 57) := by
      intro x esg hx
      obtain ⟨n, d1, d2, d3, d4⟩ := digits_run s hs K x (by omega)
      refine ⟨_, _, d1, fun hr hq => ⟨(x : Int), esg, n, by have := of_decide_eq_true hr; omega, ?_, by omega, fun k hk => ?_⟩⟩
      · rcases hx with ⟨e, h⟩ | ⟨e, h⟩ | ⟨e, h⟩
        · exact .inl ⟨by omega, h⟩
        · exact .inr (.inl ⟨by omega, h⟩)
        · exact .inr (.inr ⟨by omega, h⟩)
      · have := d3 k hk
        rwa [Int.natCast_add] at this
    simp only [spec_reader_number.j2, if_true]
    by_cases c : p < s.size ∧ bt s (p : Int) = 43
    · rw [take_yes hs c.1 c.2]
      simp only [Option.bind_some, if_true]
      obtain ⟨r, q, h1, h2⟩ := fin (p + 1) 1 (.inr (.inl ⟨rfl, c.2, rfl⟩))
      exact ⟨r, q, by rw [h1]; rfl, h2⟩
    · rw [take_no c]
      simp only [Option.bind_some, Bool.false_eq_true, if_false]
      by_cases c2 : p < s.size ∧ bt s (p : Int) = 45
      · rw [take_yes hs c2.1 c2.2]
        simp only [Option.bind_some]
        obtain ⟨r, q, h1, h2⟩ := fin (p + 1) (-1) (.inr (.inr ⟨rfl, c2.2, rfl⟩))
        exact ⟨r, q, by rw [h1]; rfl, h2⟩
      · rw [take_no c2]
        simp only [Option.bind_some]
        obtain ⟨r, q, h1, h2⟩ := fin p 1 (.inl ⟨rfl, rfl⟩)
        exact ⟨r, q, by rw [h1]; rfl, h2⟩
  have J1 : ∀ (p : Nat), ∃ (r : Bool) (q : Nat), spec_reader_number.j1 (K + 2) false s (p : Int) = some (r, s, (q : Int)) ∧ (r = true → q = s.size → p = s.size ∨ ∃ (x esg : Int) (N : Nat), (bt s (p : Int) = 69 ∨ bt s (p : Int) = 101) ∧ 1 ≤ N ∧
      ((x = (p : Int) + 1 ∧ esg = 1) ∨ (x = (p : Int) + 1 + 1 ∧ bt s ((p : Int) + 1) = 43 ∧ esg = 1) ∨ (x = (p : Int) + 1 + 1 ∧ bt s ((p : Int) + 1) = 45 ∧ esg = -1)) ∧ x + N = (s.size : Int) ∧ ∀ k : Nat, k < N → 48 ≤ bt s (x + k) ∧ bt s (x + k) ≤ 57) := by
    intro p
    have e1 : ((p + 1 : Nat) : Int) = (p : Int) + 1 := by omega
    have yes : (bt s (p : Int) = 69 ∨ bt s (p : Int) = 101) → ∃ (r : Bool) (q : Nat), spec_reader_number.j2 (K + 1) true s ((p + 1 : Nat) : Int) = some (r, s, (q : Int)) ∧ (r = true → q = s.size → p = s.size ∨ ∃ (x esg : Int) (N : Nat), (bt s (p : Int) = 69 ∨ bt s (p : Int) = 101) ∧ 1 ≤ N ∧
      ((x = (p : Int) + 1 ∧ esg = 1) ∨ (x = (p : Int) + 1 + 1 ∧ bt s ((p : Int) + 1) = 43 ∧ esg = 1) ∨ (x = (p : Int) + 1 + 1 ∧ bt s ((p : Int) + 1) = 45 ∧ esg = -1)) ∧ x + N = (s.size : Int) ∧ ∀ k : Nat, k < N → 48 ≤ bt s (x + k) ∧ bt s (x + k) ≤ 57) := by
      intro hl
      obtain ⟨r, q, h1, h2⟩ := J2 (p + 1)
      refine ⟨r, q, h1, fun hr hq => ?_⟩
      obtain ⟨x, esg, N, k1, k2, k3, k4⟩ := h2 hr hq
      rw [e1] at k2
      exact .inr ⟨x, esg, N, hl, k1, k2, k3, k4⟩
    simp only [spec_reader_number.j1, Bool.false_eq_true, if_false]
    by_cases c : p < s.size ∧ bt s (p : Int) = 101
    · rw [take_yes hs c.1 c.2]
      simp only [Option.bind_some, if_true]
      exact yes (.inr c.2)
    · rw [take_no c]
      simp only [Option.bind_some, Bool.false_eq_true, if_false]
      by_cases c2 : p < s.size ∧ bt s (p : Int) = 69
      · rw [take_yes hs c2.1 c2.2]
        simp only [Option.bind_some]
        exact yes (.inl c2.2)
      · rw [take_no c2]
        simp only [Option.bind_some, spec_reader_number.j2, Bool.false_eq_true, if_false]
        exact ⟨true, p, rfl, fun _ h => .inl h⟩
  have J0 : ∀ (p : Nat), ∃ (r : Bool) (q : Nat), spec_reader_number.j0 (K + 3) false s (p : Int) = some (r, s, (q : Int)) ∧ (r = true → q = s.size → ∃ (F : Nat) (x esg : Int) (N : Nat),
      (F ≠ 0 → bt s (p : Int) = 46 ∧ p + 1 + F ≤ s.size ∧ ∀ k < F, 48 ≤ bt s ((p + 1 + k : Nat) : Int) ∧ bt s ((p + 1 + k : Nat) : Int) ≤ 57) ∧
      ((N = 0 ∧ p + (if F = 0 then 0 else 1 + F) = s.size) ∨ (1 ≤ N ∧ ∃ q : Nat, q = p + (if F = 0 then 0 else 1 + F) ∧ (bt s q = 69 ∨ bt s q = 101) ∧
        ((x = (q : Int) + 1 ∧ esg = 1) ∨ (x = (q : Int) + 1 + 1 ∧ bt s ((q : Int) + 1) = 43 ∧ esg = 1) ∨ (x = (q : Int) + 1 + 1 ∧ bt s ((q : Int) + 1) = 45 ∧ esg = -1)) ∧ x + N = (s.size : Int) ∧ ∀ k : Nat, k < N → 48 ≤ bt s (x + k) ∧ bt s (x + k) ≤ 57))) := by
    intro p
    simp only [spec_reader_number.j0, Bool.false_eq_true, if_false]
    by_cases c : p < s.size ∧ bt s (p : Int) = 46
    · rw [take_yes hs c.1 c.2]
      simp only [Option.bind_some, if_true]
      obtain ⟨n, d1, d2, d3, d4⟩ := digits_run s hs (K + 2) (p + 1) (by omega)
      rw [d1]
      simp only [Option.bind_some]
      by_cases hn : n = 0
      · subst hn
        simp only [spec_reader_number.j1, Nat.lt_irrefl, decide_false, Bool.not_false, if_true]
        exact ⟨false, _, rfl, fun h => absurd h (by decide)⟩
      · have e : (!decide (0 < n)) = false := by simp; omega
        rw [e]
        obtain ⟨r, q, h1, h2⟩ := J1 (p + 1 + n)
        refine ⟨r, q, h1, fun hr hq => ?_⟩
        have hp1 : p + 1 + n ≤ s.size := by rcases d2 with d2 | d2 <;> omega
        have hq0 : p + 1 + n = p + (if n = 0 then 0 else 1 + n) := by rw [if_neg hn]; omega
        rcases h2 hr hq with h3 | ⟨x, esg, N, k1, k2, k3, k4, k5⟩
        · exact ⟨n, 0, 0, 0, fun _ => ⟨c.2, hp1, d3⟩, .inl ⟨rfl, by rw [← hq0]; exact h3⟩⟩
        · exact ⟨n, x, esg, N, fun _ => ⟨c.2, hp1, d3⟩, .inr ⟨k2, p + 1 + n, hq0, k1, k3, k4, k5⟩⟩
    · rw [take_no c]
      simp only [Option.bind_some, Bool.false_eq_true, if_false]
      obtain ⟨r, q, h1, h2⟩ := J1 p
      refine ⟨r, q, h1, fun hr hq => ?_⟩
      rcases h2 hr hq with h3 | ⟨x, esg, N, k1, k2, k3, k4, k5⟩
      · exact ⟨0, 0, 0, 0, fun h => absurd rfl h, .inl ⟨rfl, h3⟩⟩
      · exact ⟨0, x, esg, N, fun h => absurd rfl h, .inr ⟨k2, p, rfl, k1, k3, k4, k5⟩⟩
  have fin : ∀ W : Nat, 1 ≤ W → st + W ≤ s.size → (∀ k < W, 48 ≤ bt s ((st + k : Nat) : Int) ∧ bt s ((st + k : Nat) : Int) ≤ 57) → (bt s (st : Int) = 48 → W = 1) →
      ∃ (r : Bool) (q : Nat), spec_reader_number.j0 (K + 3) false s ((st + W : Nat) : Int) = some (r, s, (q : Int)) ∧ (r = true → q = s.size → ∃ neg W F x esg N, Num0 s neg W F x esg N) := by
    intro W w1 w2 w3 w4
    obtain ⟨r, q, h1, h2⟩ := J0 (st + W)
    refine ⟨r, q, h1, fun hr hq => ?_⟩
    obtain ⟨F, x, esg, N, k1, k2⟩ := h2 hr hq
    subst hst
    exact ⟨neg, W, F, x, esg, N, hneg, w1, w2, w3, w4, k1, k2⟩
  by_cases c : st < s.size ∧ bt s (st : Int) = 48
  · obtain ⟨r, q, h1, h2⟩ := fin 1 (Nat.le_refl _) c.1 (fun k hk => by
      have : k = 0 := by omega
      subst this
      rw [Nat.add_zero, c.2]; omega) (fun _ => rfl)
    refine ⟨K + 3, r, q, ?_, h2⟩
    unfold spec_reader_number.f
    rw [t0]
    simp only [Option.bind_some]
    rw [take_yes hs c.1 c.2]
    simp only [Option.bind_some, if_true]
    exact h1
  · obtain ⟨n, d1, d2, d3, d4⟩ := digits_run s hs (K + 3) st (by omega)
    have go : spec_reader_number.f (K + 3) s 0 = spec_reader_number.j0 (K + 3) (!decide (0 < n)) s ((st + n : Nat) : Int) := by
      unfold spec_reader_number.f
      rw [t0]
      simp only [Option.bind_some]
      rw [take_no c]
      simp only [Option.bind_some, Bool.false_eq_true, if_false]
      rw [d1]
      simp only [Option.bind_some]
    by_cases hn : n = 0
    · refine ⟨K + 3, false, st + n, ?_, fun h => absurd h (by decide)⟩
      rw [go, hn]
      simp only [spec_reader_number.j0, Nat.lt_irrefl, decide_false, Bool.not_false, if_true]
    · have hp1 : st + n ≤ s.size := by rcases d2 with d2 | d2 <;> omega
      obtain ⟨r, q, h1, h2⟩ := fin n (by omega) hp1 d3 (fun h => absurd ⟨by omega, h⟩ c)
      refine ⟨K + 3, r, q, ?_, h2⟩
      have e : (!decide (0 < n)) = false := by simp; omega
      rw [go, e]
      exact h1

end Go.Proofs.YtodbjojglibniaaGreatDoor

set_option linter.unusedVariables false
set_option linter.unusedSimpArgs false
namespace Go.Proofs.YtodbjojglibniaaGreatDoor
open Go.RowKit Go.Proofs.YtodbjojglibniaaGreatDoorW.PrintWords Go.Proofs.YtodbjojglibniaaGreatDoorW.PrintLast

/-- Whatever it says: if yes, the text is a number. -/
def IsNumPost (w : World) (s : ByteArray) (e : Ending) (w' : World) : Prop :=
  ∃ b : Bool, e = .returned (.bool b) ∧ Below w.heap.size w w' ∧ (b = true → ∃ neg W F x esg N, Num0 s neg W F x esg N)
set_option maxRecDepth 100000 in
theorem isNumber_calls (s : ByteArray) (hs : s.size < 2 ^ 62) (w : World) : Calls Tryz.prog 8 #[.string s] w (IsNumPost w s) := by
  obtain ⟨R, hR⟩ : ∃ R, R = IsNumPost w s := ⟨_, rfl⟩
  rw [← hR]
  have HR := Aside0.mk hR
  obtain ⟨k, r, q, h1, h2⟩ := number_run s hs
  have H1 := Aside0.mk h1
  have H2 := Aside0.mk h2
  clear hR h1 h2 hs
  cases r with
  | false =>
    go_enter Tryz.func8, Tryz.ntmps8
    go_wp2_with (go_at_call 16; refine (spec_reader_number.calls k w.heap.size s 0 false s q w _ (IsS51.new w w s 0 (Below.refl _ _)) ((Below.refl _ _).alloc (Nat.le_refl _) _) H1.out).mono ?_; rintro e w1 ⟨rfl, hI, hB, hK⟩; have hc1 := cellS51_1 hI.1)
    rw [HR.out]
    exact ⟨false, rfl, hB, fun h => absurd h (by decide)⟩
  | true =>
    by_cases hq : q = s.size
    · have t1 : ((q : Int) == (s.size : Int)) = true := by rw [beq_iff_eq]; omega
      have t1n : (q == s.size) = true := by rw [beq_iff_eq]; omega
      have HQ := Aside0.mk hq
      clear hq
      go_enter Tryz.func8, Tryz.ntmps8
      go_wp2_with (go_at_call 16; refine (spec_reader_number.calls k w.heap.size s 0 true s q w _ (IsS51.new w w s 0 (Below.refl _ _)) ((Below.refl _ _).alloc (Nat.le_refl _) _) H1.out).mono ?_; rintro e w1 ⟨rfl, hI, hB, hK⟩; have hc1 := cellS51_1 hI.1)
      rw [HR.out]
      exact ⟨true, rfl, hB, fun _ => H2.out (by first | trivial | rfl) HQ.out⟩
    · have t1 : ((q : Int) == (s.size : Int)) = false := by rw [beq_eq_false_iff_ne]; omega
      have t1n : (q == s.size) = false := by rw [beq_eq_false_iff_ne]; omega
      clear hq
      go_enter Tryz.func8, Tryz.ntmps8
      go_wp2_with (go_at_call 16; refine (spec_reader_number.calls k w.heap.size s 0 true s q w _ (IsS51.new w w s 0 (Below.refl _ _)) ((Below.refl _ _).alloc (Nat.le_refl _) _) H1.out).mono ?_; rintro e w1 ⟨rfl, hI, hB, hK⟩; have hc1 := cellS51_1 hI.1)
      rw [HR.out]
      exact ⟨false, rfl, hB, fun h => absurd h (by decide)⟩

end Go.Proofs.YtodbjojglibniaaGreatDoor
