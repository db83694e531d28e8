/- Walks of functions of FnJpGetFloat (A2, A3, A4); conditions stand ahead of each theorem. -/
import Derived.Test.YtbimfhaokgigkaaGreatDoorTA1
import Derived.Handy
set_option linter.unusedVariables false
set_option linter.unusedSimpArgs false
set_option maxRecDepth 100000
namespace Go.Proofs.YtbimfhaokgigkaaGreatDoor
open Go.RowKit Go.Proofs.YtbimfhaokgigkaaGreatDoorW.PrintWords Go.Proofs.YtbimfhaokgigkaaGreatDoorW.PrintLast
def lenTab : ByteArray := ⟨#[0, 1, 2, 2, 3, 3, 3, 3, 4, 4, 4, 4, 4, 4, 4, 4, 5, 5, 5, 5, 5, 5, 5, 5, 5, 5, 5, 5, 5, 5, 5, 5, 6, 6, 6, 6, 6, 6, 6, 6, 6, 6, 6, 6, 6, 6, 6, 6, 6, 6, 6, 6, 6, 6, 6, 6, 6, 6, 6, 6, 6, 6, 6, 6, 7, 7, 7, 7, 7, 7, 7, 7, 7, 7, 7, 7, 7, 7, 7, 7, 7, 7, 7, 7, 7, 7, 7, 7, 7, 7, 7, 7, 7, 7, 7, 7, 7, 7, 7, 7, 7, 7, 7, 7, 7, 7, 7, 7, 7, 7, 7, 7, 7, 7, 7, 7, 7, 7, 7, 7, 7, 7, 7, 7, 7, 7, 7, 7, 8, 8, 8, 8, 8, 8, 8, 8, 8, 8, 8, 8, 8, 8, 8, 8, 8, 8, 8, 8, 8, 8, 8, 8, 8, 8, 8, 8, 8, 8, 8, 8, 8, 8, 8, 8, 8, 8, 8, 8, 8, 8, 8, 8, 8, 8, 8, 8, 8, 8, 8, 8, 8, 8, 8, 8, 8, 8, 8, 8, 8, 8, 8, 8, 8, 8, 8, 8, 8, 8, 8, 8, 8, 8, 8, 8, 8, 8, 8, 8, 8, 8, 8, 8, 8, 8, 8, 8, 8, 8, 8, 8, 8, 8, 8, 8, 8, 8, 8, 8, 8, 8, 8, 8, 8, 8, 8, 8, 8, 8, 8, 8, 8, 8, 8, 8, 8, 8, 8, 8, 8, 8, 8, 8, 8, 8, 8, 8]⟩
theorem lenTab_ok : ∀ i : Fin 256, 1 ≤ i.1 → 1 ≤ (lenTab.data[i.1]'(by simp [lenTab])).toNat ∧ (lenTab.data[i.1]'(by simp [lenTab])).toNat ≤ 8 ∧
  2 ^ ((lenTab.data[i.1]'(by simp [lenTab])).toNat - 1) ≤ i.1 ∧ i.1 < 2 ^ (lenTab.data[i.1]'(by simp [lenTab])).toNat := by decide +kernel
theorem lenTab_size : lenTab.size = 256 := by decide +kernel
theorem at_tab (S : Nat) (hS : S ≤ 56) (i : Int) (Y : Nat) (h : i.toNat = Y) (h1 : 1 ≤ Y) (hY : Y < 256) (hi : i.toNat < lenTab.size) :
  ∃ l : Nat, wrap64 ((S : Int) + wrap64 ((lenTab[i.toNat]'hi).toNat : Int)) = ((S + l : Nat) : Int) ∧ 1 ≤ l ∧ l ≤ 8 ∧ 2 ^ (l - 1) ≤ Y ∧ Y < 2 ^ l := by
 subst h
 obtain ⟨a, b, c, d⟩ := lenTab_ok ⟨i.toNat, hY⟩ h1
 refine ⟨(lenTab[i.toNat]'hi).toNat, ?_, a, b, c, d⟩
 have : (lenTab[i.toNat]'hi).toNat ≤ 8 := b
 unfold wrap64
 omega
theorem len_fin {x Y s l : Nat} (hY : Y = x / 2 ^ s) (h1 : 1 ≤ l) (h2 : 2 ^ (l - 1) ≤ Y) (h3 : Y < 2 ^ l) : 2 ^ (s + l - 1) ≤ x ∧ x < 2 ^ (s + l) := by
 subst hY
 have hp := Nat.two_pow_pos s
 constructor
 ·rw [show s + l - 1 = l - 1 + s by omega, Nat.pow_add]
  exact (Nat.le_div_iff_mul_le hp).mp h2
 ·rw [Nat.add_comm, Nat.pow_add]
  exact (Nat.div_lt_iff_lt_mul hp).mp h3
theorem len64_000 (x : Nat) (h1 : 1 ≤ x) (hx : x < 2 ^ 64) (w : World) (t1 : decide (4294967296 ≤ (x : Int)) = false) (t2 : decide (65536 ≤ (x : Int)) = false) (t3 : decide (256 ≤ (x : Int)) = false) :
  Calls Tryz.prog 114 #[.int .u64 x] w fun e w' => (∃ b : Nat, e = .returned (.int .i64 b) ∧ 1 ≤ b ∧ b ≤ 64 ∧ 2 ^ (b - 1) ≤ x ∧ x < 2 ^ b) ∧ w' = w := by
 have hi : (((x : Int)) % 256).toNat < lenTab.size := by rw [lenTab_size]; omega
 have q1 := t1
 have q2 := t2
 have q3 := t3
 simp only [decide_eq_true_eq, decide_eq_false_iff_not] at q1 q2 q3
 have Q := az (at_tab 0 (by omega) (((x : Int)) % 256) (x / 2 ^ 0) (by omega) (by omega) (by omega) hi)
 clear q1 q2 q3 h1 hx
 go_enter Tryz.func114, Tryz.ntmps114
 go_wp2
 go_ret
 obtain ⟨l, q0, q1, q2, q3, q4⟩ := Q.out
 obtain ⟨r1, r2⟩ := len_fin rfl q1 q3 q4
 exact ⟨⟨0 + l, (congrArg (fun z : Int => Ending.returned (.int .i64 z)) ((congrArg wrap64 (Int.zero_add _).symm).trans q0)), by omega, by omega, r1, r2⟩, rfl⟩
theorem len64_001 (x : Nat) (h1 : 1 ≤ x) (hx : x < 2 ^ 64) (w : World) (t1 : decide (4294967296 ≤ (x : Int)) = false) (t2 : decide (65536 ≤ (x : Int)) = false) (t3 : decide (256 ≤ (x : Int)) = true) :
  Calls Tryz.prog 114 #[.int .u64 x] w fun e w' => (∃ b : Nat, e = .returned (.int .i64 b) ∧ 1 ≤ b ∧ b ≤ 64 ∧ 2 ^ (b - 1) ≤ x ∧ x < 2 ^ b) ∧ w' = w := by
 have hi : (((x : Int) / 256) % 256).toNat < lenTab.size := by rw [lenTab_size]; omega
 have q1 := t1
 have q2 := t2
 have q3 := t3
 simp only [decide_eq_true_eq, decide_eq_false_iff_not] at q1 q2 q3
 have Q := az (at_tab 8 (by omega) (((x : Int) / 256) % 256) (x / 2 ^ 8) (by omega) (by omega) (by omega) hi)
 clear q1 q2 q3 h1 hx
 go_enter Tryz.func114, Tryz.ntmps114
 go_wp2
 go_ret
 obtain ⟨l, q0, q1, q2, q3, q4⟩ := Q.out
 obtain ⟨r1, r2⟩ := len_fin rfl q1 q3 q4
 exact ⟨⟨8 + l, (congrArg (fun z : Int => Ending.returned (.int .i64 z)) q0), by omega, by omega, r1, r2⟩, rfl⟩
theorem len64_010 (x : Nat) (h1 : 1 ≤ x) (hx : x < 2 ^ 64) (w : World) (t1 : decide (4294967296 ≤ (x : Int)) = false) (t2 : decide (65536 ≤ (x : Int)) = true) (t3 : decide (256 ≤ (x : Int) / 65536) = false) :
  Calls Tryz.prog 114 #[.int .u64 x] w fun e w' => (∃ b : Nat, e = .returned (.int .i64 b) ∧ 1 ≤ b ∧ b ≤ 64 ∧ 2 ^ (b - 1) ≤ x ∧ x < 2 ^ b) ∧ w' = w := by
 have hi : (((x : Int) / 65536) % 256).toNat < lenTab.size := by rw [lenTab_size]; omega
 have q1 := t1
 have q2 := t2
 have q3 := t3
 simp only [decide_eq_true_eq, decide_eq_false_iff_not] at q1 q2 q3
 have Q := az (at_tab 16 (by omega) (((x : Int) / 65536) % 256) (x / 2 ^ 16) (by omega) (by omega) (by omega) hi)
 clear q1 q2 q3 h1 hx
 go_enter Tryz.func114, Tryz.ntmps114
 go_wp2
 go_ret
 obtain ⟨l, q0, q1, q2, q3, q4⟩ := Q.out
 obtain ⟨r1, r2⟩ := len_fin rfl q1 q3 q4
 exact ⟨⟨16 + l, (congrArg (fun z : Int => Ending.returned (.int .i64 z)) q0), by omega, by omega, r1, r2⟩, rfl⟩
theorem len64_011 (x : Nat) (h1 : 1 ≤ x) (hx : x < 2 ^ 64) (w : World) (t1 : decide (4294967296 ≤ (x : Int)) = false) (t2 : decide (65536 ≤ (x : Int)) = true) (t3 : decide (256 ≤ (x : Int) / 65536) = true) :
  Calls Tryz.prog 114 #[.int .u64 x] w fun e w' => (∃ b : Nat, e = .returned (.int .i64 b) ∧ 1 ≤ b ∧ b ≤ 64 ∧ 2 ^ (b - 1) ≤ x ∧ x < 2 ^ b) ∧ w' = w := by
 have hi : (((x : Int) / 65536 / 256) % 256).toNat < lenTab.size := by rw [lenTab_size]; omega
 have q1 := t1
 have q2 := t2
 have q3 := t3
 simp only [decide_eq_true_eq, decide_eq_false_iff_not] at q1 q2 q3
 have Q := az (at_tab 24 (by omega) (((x : Int) / 65536 / 256) % 256) (x / 2 ^ 24) (by omega) (by omega) (by omega) hi)
 clear q1 q2 q3 h1 hx
 go_enter Tryz.func114, Tryz.ntmps114
 go_wp2
 go_ret
 obtain ⟨l, q0, q1, q2, q3, q4⟩ := Q.out
 obtain ⟨r1, r2⟩ := len_fin rfl q1 q3 q4
 exact ⟨⟨24 + l, (congrArg (fun z : Int => Ending.returned (.int .i64 z)) q0), by omega, by omega, r1, r2⟩, rfl⟩
theorem len64_100 (x : Nat) (h1 : 1 ≤ x) (hx : x < 2 ^ 64) (w : World) (t1 : decide (4294967296 ≤ (x : Int)) = true) (t2 : decide (65536 ≤ (x : Int) / 4294967296) = false) (t3 : decide (256 ≤ (x : Int) / 4294967296) = false) :
  Calls Tryz.prog 114 #[.int .u64 x] w fun e w' => (∃ b : Nat, e = .returned (.int .i64 b) ∧ 1 ≤ b ∧ b ≤ 64 ∧ 2 ^ (b - 1) ≤ x ∧ x < 2 ^ b) ∧ w' = w := by
 have hi : (((x : Int) / 4294967296) % 256).toNat < lenTab.size := by rw [lenTab_size]; omega
 have q1 := t1
 have q2 := t2
 have q3 := t3
 simp only [decide_eq_true_eq, decide_eq_false_iff_not] at q1 q2 q3
 have Q := az (at_tab 32 (by omega) (((x : Int) / 4294967296) % 256) (x / 2 ^ 32) (by omega) (by omega) (by omega) hi)
 clear q1 q2 q3 h1 hx
 go_enter Tryz.func114, Tryz.ntmps114
 go_wp2
 go_ret
 obtain ⟨l, q0, q1, q2, q3, q4⟩ := Q.out
 obtain ⟨r1, r2⟩ := len_fin rfl q1 q3 q4
 exact ⟨⟨32 + l, (congrArg (fun z : Int => Ending.returned (.int .i64 z)) q0), by omega, by omega, r1, r2⟩, rfl⟩
theorem len64_101 (x : Nat) (h1 : 1 ≤ x) (hx : x < 2 ^ 64) (w : World) (t1 : decide (4294967296 ≤ (x : Int)) = true) (t2 : decide (65536 ≤ (x : Int) / 4294967296) = false) (t3 : decide (256 ≤ (x : Int) / 4294967296) = true) :
  Calls Tryz.prog 114 #[.int .u64 x] w fun e w' => (∃ b : Nat, e = .returned (.int .i64 b) ∧ 1 ≤ b ∧ b ≤ 64 ∧ 2 ^ (b - 1) ≤ x ∧ x < 2 ^ b) ∧ w' = w := by
 have hi : (((x : Int) / 4294967296 / 256) % 256).toNat < lenTab.size := by rw [lenTab_size]; omega
 have q1 := t1
 have q2 := t2
 have q3 := t3
 simp only [decide_eq_true_eq, decide_eq_false_iff_not] at q1 q2 q3
 have Q := az (at_tab 40 (by omega) (((x : Int) / 4294967296 / 256) % 256) (x / 2 ^ 40) (by omega) (by omega) (by omega) hi)
 clear q1 q2 q3 h1 hx
 go_enter Tryz.func114, Tryz.ntmps114
 go_wp2
 go_ret
 obtain ⟨l, q0, q1, q2, q3, q4⟩ := Q.out
 obtain ⟨r1, r2⟩ := len_fin rfl q1 q3 q4
 exact ⟨⟨40 + l, (congrArg (fun z : Int => Ending.returned (.int .i64 z)) q0), by omega, by omega, r1, r2⟩, rfl⟩
theorem len64_110 (x : Nat) (h1 : 1 ≤ x) (hx : x < 2 ^ 64) (w : World) (t1 : decide (4294967296 ≤ (x : Int)) = true) (t2 : decide (65536 ≤ (x : Int) / 4294967296) = true) (t3 : decide (256 ≤ (x : Int) / 4294967296 / 65536) = false) :
  Calls Tryz.prog 114 #[.int .u64 x] w fun e w' => (∃ b : Nat, e = .returned (.int .i64 b) ∧ 1 ≤ b ∧ b ≤ 64 ∧ 2 ^ (b - 1) ≤ x ∧ x < 2 ^ b) ∧ w' = w := by
 have hi : (((x : Int) / 4294967296 / 65536) % 256).toNat < lenTab.size := by rw [lenTab_size]; omega
 have q1 := t1
 have q2 := t2
 have q3 := t3
 simp only [decide_eq_true_eq, decide_eq_false_iff_not] at q1 q2 q3
 have Q := az (at_tab 48 (by omega) (((x : Int) / 4294967296 / 65536) % 256) (x / 2 ^ 48) (by omega) (by omega) (by omega) hi)
 clear q1 q2 q3 h1 hx
 go_enter Tryz.func114, Tryz.ntmps114
 go_wp2
 go_ret
 obtain ⟨l, q0, q1, q2, q3, q4⟩ := Q.out
 obtain ⟨r1, r2⟩ := len_fin rfl q1 q3 q4
 exact ⟨⟨48 + l, (congrArg (fun z : Int => Ending.returned (.int .i64 z)) q0), by omega, by omega, r1, r2⟩, rfl⟩
theorem len64_111 (x : Nat) (h1 : 1 ≤ x) (hx : x < 2 ^ 64) (w : World) (t1 : decide (4294967296 ≤ (x : Int)) = true) (t2 : decide (65536 ≤ (x : Int) / 4294967296) = true) (t3 : decide (256 ≤ (x : Int) / 4294967296 / 65536) = true) :
  Calls Tryz.prog 114 #[.int .u64 x] w fun e w' => (∃ b : Nat, e = .returned (.int .i64 b) ∧ 1 ≤ b ∧ b ≤ 64 ∧ 2 ^ (b - 1) ≤ x ∧ x < 2 ^ b) ∧ w' = w := by
 have hi : (((x : Int) / 4294967296 / 65536 / 256) % 256).toNat < lenTab.size := by rw [lenTab_size]; omega
 have q1 := t1
 have q2 := t2
 have q3 := t3
 simp only [decide_eq_true_eq, decide_eq_false_iff_not] at q1 q2 q3
 have Q := az (at_tab 56 (by omega) (((x : Int) / 4294967296 / 65536 / 256) % 256) (x / 2 ^ 56) (by omega) (by omega) (by omega) hi)
 clear q1 q2 q3 h1 hx
 go_enter Tryz.func114, Tryz.ntmps114
 go_wp2
 go_ret
 obtain ⟨l, q0, q1, q2, q3, q4⟩ := Q.out
 obtain ⟨r1, r2⟩ := len_fin rfl q1 q3 q4
 exact ⟨⟨56 + l, (congrArg (fun z : Int => Ending.returned (.int .i64 z)) q0), by omega, by omega, r1, r2⟩, rfl⟩
theorem len64_calls (x : Nat) (h1 : 1 ≤ x) (hx : x < 2 ^ 64) (w : World) :
  Calls Tryz.prog 114 #[.int .u64 x] w fun e w' => (∃ b : Nat, e = .returned (.int .i64 b) ∧ 1 ≤ b ∧ b ≤ 64 ∧ 2 ^ (b - 1) ≤ x ∧ x < 2 ^ b) ∧ w' = w := by
 cases t0 : decide (4294967296 ≤ (x : Int)) with
 | false =>
  cases t1 : decide (65536 ≤ (x : Int)) with
  | false =>
   cases t2 : decide (256 ≤ (x : Int)) with
   | false =>
    exact len64_000 x h1 hx w t0 t1 t2
   | true =>
    exact len64_001 x h1 hx w t0 t1 t2
  | true =>
   cases t2 : decide (256 ≤ (x : Int) / 65536) with
   | false =>
    exact len64_010 x h1 hx w t0 t1 t2
   | true =>
    exact len64_011 x h1 hx w t0 t1 t2
 | true =>
  cases t1 : decide (65536 ≤ (x : Int) / 4294967296) with
  | false =>
   cases t2 : decide (256 ≤ (x : Int) / 4294967296) with
   | false =>
    exact len64_100 x h1 hx w t0 t1 t2
   | true =>
    exact len64_101 x h1 hx w t0 t1 t2
  | true =>
   cases t2 : decide (256 ≤ (x : Int) / 4294967296 / 65536) with
   | false =>
    exact len64_110 x h1 hx w t0 t1 t2
   | true =>
    exact len64_111 x h1 hx w t0 t1 t2
structure Only (g : Nat) (w w' : World) : Prop where
 os : w'.os = w.os
 tape : w'.tape = w.tape
 output : w'.output = w.output
 size : w.heap.size ≤ w'.heap.size
 block : ∀ k, k < w.heap.size → k ≠ g → w'.heap[k]? = w.heap[k]?
theorem Only.refl (g : Nat) (w : World) : Only g w w := ⟨rfl, rfl, rfl, Nat.le_refl _, fun _ _ _ => rfl⟩
theorem Only.trans {g : Nat} {a b c : World} (h : Only g a b) (k : Only g b c) : Only g a c :=
 ⟨k.os.trans h.os, k.tape.trans h.tape, k.output.trans h.output, Nat.le_trans h.size k.size, fun i hi hg => (k.block i (Nat.lt_of_lt_of_le hi h.size) hg).trans (h.block i hi hg)⟩
theorem Only.of_below {g : Nat} {a b : World} (h : Below a.heap.size a b) : Only g a b := ⟨h.os, h.tape, h.output, h.size, fun k hk _ => h.block k hk⟩
theorem Only.set {g : Nat} {a w : World} (h : Only g a w) (i : Nat) (u : Value) : Only g a (w.setCell ⟨g, i, none⟩ u) := by
 have hb := Below.setCell (B := 0) (a := w) (Below.refl 0 w) (p := ⟨g, i, none⟩) (Nat.zero_le _) u
 exact ⟨hb.os.trans h.os, hb.tape.trans h.tape, hb.output.trans h.output, Nat.le_trans h.size hb.size, fun k hk hg => (Below.heap_setCell w ⟨g, i, none⟩ u k hg).trans (h.block k hk hg)⟩
theorem Only.below {g : Nat} {w0 a b : World} (h : Below w0.heap.size w0 a) (k : Only g a b) (hg : w0.heap.size ≤ g) : Below w0.heap.size w0 b :=
 ⟨k.os.trans h.os, k.tape.trans h.tape, k.output.trans h.output, Nat.le_trans h.size k.size, fun i hi => (k.block i (Nat.lt_of_lt_of_le hi h.size) (by omega)).trans (h.block i hi)⟩
def Scaler (w : World) (g : Nat) (hi lo s : Int) : Prop := w.heap[g]? = some (.cells #[.int .u64 hi, .int .u64 lo, .int .i64 s] 180 (0, 0))
def PowAt (w : World) (p : Int) (hi lo : Int) : Prop := w.cell? ⟨22, (p + 348).toNat * 2, none⟩ = some (.int .u64 hi) ∧ w.cell? ⟨22, (p + 348).toNat * 2 + 1, none⟩ = some (.int .u64 lo)
theorem prescale_calls (g : Nat) (a b c e p lp hi lo : Int) (w : World) (h1 : -348 ≤ p) (h2 : p ≤ 347) (he : -5000 ≤ e) (he2 : e ≤ 5000) (hl : -5000 ≤ lp) (hl2 : lp ≤ 5000)
  (hg : w.heap[g]? = some (.cells #[.int .u64 a, .int .u64 b, .int .i64 c] 180 (0, 0))) (hp : PowAt w p hi lo) (hgt : g ≠ 22) :
  Calls Tryz.prog 116 #[.pointer (some ⟨g, 0, none⟩), .int .i64 e, .int .i64 p, .int .i64 lp] w fun e1 w' => e1 = .returned (.tuple #[]) ∧ Scaler w' g hi lo (-(e + lp + 3)) ∧ Only g w w' := by
 obtain ⟨hp1, hp2⟩ := hp
 have c0 : w.cell? ⟨g, 0, none⟩ = some (.int .u64 a) := (blk_cell hg 0).trans rfl
 have c1 : w.cell? ⟨g, 1, none⟩ = some (.int .u64 b) := (blk_cell hg 1).trans rfl
 have c2 : w.cell? ⟨g, 2, none⟩ = some (.int .i64 c) := (blk_cell hg 2).trans rfl
 have f0 := blk_frozen hg 0
 have f1 := blk_frozen hg 1
 have f2 := blk_frozen hg 2
 have HG := az hg
 clear hg
 go_enter Tryz.func116, Tryz.ntmps116
 go_wp2
 go_end0
 have HG := HG.out
 refine ⟨rfl, ?_, (((Only.refl g w).set 0 _).set 1 _).set 2 _⟩
 have b1 := blk_set HG 0 (.int .u64 hi)
 have b2 := blk_set b1 1 (.int .u64 lo)
 have b3 := blk_set b2 2 (.int .i64 (-(e + lp + 3)))
 simpa [Scaler] using b3
theorem mask63 {s : Int} (h0 : 0 ≤ s) (h1 : s < 64) : Go.bits .and .i64 s 63 = s := by
 obtain ⟨n, rfl⟩ := Int.eq_ofNat_of_zero_le h0
 have : ∀ n : Fin 64, Go.bits .and .i64 (n.1 : Int) 63 = n.1 := by decide +kernel
 exact this ⟨n, by omega⟩
section
variable (g S : Nat) (x hi lo : Int) (w : World)
theorem uscale_odd (hg : Scaler w g hi lo S) (hs1 : S < 64) (hx0 : 0 ≤ x) (hx : x < 2 ^ 64) (hh0 : 0 ≤ hi) (hh : hi < 2 ^ 64) (ht : (IntKind.u64.wrap (x * hi / 18446744073709551616 / 2 ^ S * 2 ^ S) != x * hi / 18446744073709551616) = true) :
  Calls Tryz.prog 117 #[.int .u64 x, .pointer (some ⟨g, 0, none⟩)] w fun e1 w' => e1 = .returned (.int .u64 (Go.bits .or .u64 (x * hi / 18446744073709551616 / 2 ^ S) 1)) ∧ ∃ n, w' = w.drewN n := by
 have c0 : w.cell? ⟨g, 0, none⟩ = some (.int .u64 hi) := (blk_cell hg 0).trans rfl
 have c1 : w.cell? ⟨g, 1, none⟩ = some (.int .u64 lo) := (blk_cell hg 1).trans rfl
 have c2 : w.cell? ⟨g, 2, none⟩ = some (.int .i64 S) := (blk_cell hg 2).trans rfl
 have hm := mask63 (s := S) (by omega) (by omega)
 have hn : min S 64 = S := by omega
 clear hg
 go_enter Tryz.func117, Tryz.ntmps117
 go_wp2_with fail
 go_call (mul64_calls x hi hx0 hx hh0 hh _) as e w' ⟨rfl, rfl⟩
 go_wp2_with fail
 go_ret
 exact ⟨rfl, 0, rfl⟩
theorem uscale_even (b1 b2 : Bool) (hg : Scaler w g hi lo S) (hs1 : S < 64) (hx0 : 0 ≤ x) (hx : x < 2 ^ 64) (hh0 : 0 ≤ hi) (hh : hi < 2 ^ 64) (hl0 : 0 ≤ lo) (hl : lo < 2 ^ 64) (ht : (IntKind.u64.wrap (x * hi / 18446744073709551616 / 2 ^ S * 2 ^ S) != x * hi / 18446744073709551616) = false)
  (hb1 : decide (x * hi % 18446744073709551616 < x * lo / 18446744073709551616) = b1) (hb2 : decide (1 < IntKind.u64.wrap (x * hi % 18446744073709551616 - x * lo / 18446744073709551616)) = b2) :
  Calls Tryz.prog 117 #[.int .u64 x, .pointer (some ⟨g, 0, none⟩)] w fun e1 w' => e1 = .returned (.int .u64 (Go.bits .or .u64 (IntKind.u64.wrap (x * hi / 18446744073709551616 - (if b1 then 1 else 0)) / 2 ^ S) (if b2 then 1 else 0))) ∧ ∃ n, w' = w.drewN n := by
 have c0 : w.cell? ⟨g, 0, none⟩ = some (.int .u64 hi) := (blk_cell hg 0).trans rfl
 have c1 : w.cell? ⟨g, 1, none⟩ = some (.int .u64 lo) := (blk_cell hg 1).trans rfl
 have c2 : w.cell? ⟨g, 2, none⟩ = some (.int .i64 S) := (blk_cell hg 2).trans rfl
 have hm := mask63 (s := S) (by omega) (by omega)
 have hn : min S 64 = S := by omega
 clear hg
 generalize hz1 : (if b1 then (1 : Int) else 0) = z1
 generalize hz2 : (if b2 then (1 : Int) else 0) = z2
 have B1 : ∀ w, Calls Tryz.prog 99 #[.bool b1] w fun e w' => e = .returned (.int .u64 z1) ∧ w' = w := fun w => by rw [← hz1]; exact bool64_calls b1 w
 have B2 : ∀ w, Calls Tryz.prog 99 #[.bool b2] w fun e w' => e = .returned (.int .u64 z2) ∧ w' = w := fun w => by rw [← hz2]; exact bool64_calls b2 w
 clear hz1 hz2
 go_enter Tryz.func117, Tryz.ntmps117
 go_wp2_with fail
 go_call (mul64_calls x hi hx0 hx hh0 hh _) as e w' ⟨rfl, rfl⟩
 go_wp2_with fail
 go_call (mul64_calls x lo hx0 hx hl0 hl _) as e w' ⟨rfl, rfl⟩
 go_wp2_with fail
 go_call (B1 _) as e w' ⟨rfl, rfl⟩
 go_wp2_with fail
 go_quiet (exact Calls.quiet_of_same (B2 _))
 go_wp2
 go_ret
 exact ⟨rfl, _, rfl⟩
end
theorem uscale_calls (g S : Nat) (x hi lo : Nat) (w : World) (hg : Scaler w g hi lo S) (hs1 : S < 64) (hx : x < 2 ^ 64) (hh : hi < 2 ^ 64) (hl : lo < 2 ^ 64) (hpos : 1 ≤ x * hi / 2 ^ 64) :
  Calls Tryz.prog 117 #[.int .u64 x, .pointer (some ⟨g, 0, none⟩)] w fun e1 w' => e1 = .returned (.int .u64 (FP.uscaleN x hi lo S : Int)) ∧ ∃ n, w' = w.drewN n := by
 have eh : (x : Int) * hi / 18446744073709551616 = ((x * hi / 2 ^ 64 : Nat) : Int) := by rw [Int.natCast_ediv, Int.natCast_mul]; rfl
 have em : (x : Int) * hi % 18446744073709551616 = ((x * hi % 2 ^ 64 : Nat) : Int) := by rw [Int.natCast_emod, Int.natCast_mul]; rfl
 have em2 : (x : Int) * lo / 18446744073709551616 = ((x * lo / 2 ^ 64 : Nat) : Int) := by rw [Int.natCast_ediv, Int.natCast_mul]; rfl
 have lim : ∀ {p q : Nat}, p < 2 ^ 64 → q < 2 ^ 64 → p * q / 2 ^ 64 < 2 ^ 64 := by
  intro p q h1 h2
  rw [Nat.div_lt_iff_lt_mul (by decide)]
  exact Nat.mul_lt_mul'' h1 h2
 have l1 := lim hx hh
 have l2 := lim hx hl
 have l3 : x * hi % 2 ^ 64 < 2 ^ 64 := Nat.mod_lt _ (by decide)
 have hp := Nat.two_pow_pos S
 have hdiv : x * hi / 2 ^ 64 / 2 ^ S * 2 ^ S ≤ x * hi / 2 ^ 64 := Nat.div_mul_le_self _ _
 have ew : IntKind.u64.wrap ((x : Int) * hi / 18446744073709551616 / 2 ^ S * 2 ^ S) = ((x * hi / 2 ^ 64 / 2 ^ S * 2 ^ S : Nat) : Int) := by
  rw [eh]
  have : ((x * hi / 2 ^ 64 : Nat) : Int) / 2 ^ S * 2 ^ S = ((x * hi / 2 ^ 64 / 2 ^ S * 2 ^ S : Nat) : Int) := by rw [Int.natCast_mul, Int.natCast_ediv (x * hi / 2 ^ 64) (2 ^ S), Int.natCast_pow]; rfl
  rw [this]
  exact wrapU_lt (by omega)
 have hq : ∀ n : Nat, n < 2 ^ 64 → n / 2 ^ S < 2 ^ 64 := fun n hn => Nat.lt_of_le_of_lt (Nat.div_le_self _ _) hn
 by_cases c : x * hi / 2 ^ 64 / 2 ^ S * 2 ^ S ≠ x * hi / 2 ^ 64
 ·have hr : FP.uscaleN x hi lo S = x * hi / 2 ^ 64 / 2 ^ S ||| 1 := by unfold FP.uscaleN; simp only; rw [if_pos c]
  have := uscale_odd g S x hi lo w hg hs1 (by omega) (by omega) (by omega) (by omega) (by rw [ew, eh]; simp only [bne_iff_ne, ne_eq, Int.ofNat_inj]; exact c)
  rw [eh] at this
  have e2 : ((x * hi / 2 ^ 64 : Nat) : Int) / 2 ^ S = ((x * hi / 2 ^ 64 / 2 ^ S : Nat) : Int) := by rw [Int.natCast_ediv (x * hi / 2 ^ 64) (2 ^ S), Int.natCast_pow]; rfl
  rw [e2, show (1 : Int) = ((1 : Nat) : Int) from rfl, or64 (hq _ l1) (by decide), ← hr] at this
  exact this
 ·have hr : FP.uscaleN x hi lo S = (x * hi / 2 ^ 64 - (if x * hi % 2 ^ 64 < x * lo / 2 ^ 64 then 1 else 0)) / 2 ^ S ||| (if 1 < (x * hi % 2 ^ 64 + 2 ^ 64 - x * lo / 2 ^ 64) % 2 ^ 64 then 1 else 0) := by
   unfold FP.uscaleN; simp only; rw [if_neg c]
  have hw2 : IntKind.u64.wrap ((x : Int) * hi % 18446744073709551616 - (x : Int) * lo / 18446744073709551616) = (((x * hi % 2 ^ 64 + 2 ^ 64 - x * lo / 2 ^ 64) % 2 ^ 64 : Nat) : Int) := by
   rw [em, em2]
   have : IntKind.u64.wrap (((x * hi % 2 ^ 64 : Nat) : Int) - ((x * lo / 2 ^ 64 : Nat) : Int)) = (((x * hi % 2 ^ 64 : Nat) : Int) - ((x * lo / 2 ^ 64 : Nat) : Int)) % 18446744073709551616 := by simp [IntKind.wrap, IntKind.bits, IntKind.signed]
   rw [this]
   omega
  have := uscale_even g S x hi lo w (decide (x * hi % 2 ^ 64 < x * lo / 2 ^ 64)) (decide (1 < (x * hi % 2 ^ 64 + 2 ^ 64 - x * lo / 2 ^ 64) % 2 ^ 64)) hg hs1 (by omega) (by omega) (by omega) (by omega) (by omega) (by omega)
   (by rw [ew, eh]; simp only [bne_eq_false_iff_eq, Int.ofNat_inj]; exact Decidable.not_not.mp c)
   (by rw [em, em2, decide_eq_decide]; omega)
   (by rw [hw2, decide_eq_decide]; omega)
  rw [eh] at this
  have e3 : IntKind.u64.wrap (((x * hi / 2 ^ 64 : Nat) : Int) - (if decide (x * hi % 2 ^ 64 < x * lo / 2 ^ 64) = true then 1 else 0)) = ((x * hi / 2 ^ 64 - (if x * hi % 2 ^ 64 < x * lo / 2 ^ 64 then 1 else 0) : Nat) : Int) := by
   split
   ·rename_i h; rw [decide_eq_true_eq] at h; rw [if_pos h]
    have : ((x * hi / 2 ^ 64 : Nat) : Int) - 1 = ((x * hi / 2 ^ 64 - 1 : Nat) : Int) := by omega
    rw [this]; exact wrapU_lt (by omega)
   ·rename_i h; rw [decide_eq_true_eq] at h; rw [if_neg h, Int.sub_zero, Nat.sub_zero]; exact wrapU_lt l1
  rw [e3] at this
  have e4 : ((x * hi / 2 ^ 64 - (if x * hi % 2 ^ 64 < x * lo / 2 ^ 64 then 1 else 0) : Nat) : Int) / 2 ^ S = (((x * hi / 2 ^ 64 - (if x * hi % 2 ^ 64 < x * lo / 2 ^ 64 then 1 else 0)) / 2 ^ S : Nat) : Int) := by rw [Int.natCast_ediv _ (2 ^ S), Int.natCast_pow]; rfl
  have e5 : (if decide (1 < (x * hi % 2 ^ 64 + 2 ^ 64 - x * lo / 2 ^ 64) % 2 ^ 64) = true then (1 : Int) else 0) = ((if 1 < (x * hi % 2 ^ 64 + 2 ^ 64 - x * lo / 2 ^ 64) % 2 ^ 64 then 1 else 0 : Nat) : Int) := by
   simp only [decide_eq_true_eq]; split <;> rfl
  rw [e4, e5, or64 (hq _ (by omega)) (by split <;> decide), ← hr] at this
  exact this
theorem frombits_run (x : Int) (w : World) : (callFunc 100 #[.int .u64 x]).run Tryz.prog w = .ok (.value (.float .f64 x.toNat)) w := by kernel_rfl
theorem pack64_small (m e : Int) (w : World) (h : (Go.bits .and .u64 m 4503599627370496 == 0) = true) :
  Calls Tryz.prog 124 #[.int .u64 m, .int .i64 e] w fun e w' => e = .returned (.tuple #[.float .f64 m.toNat, .nilIface]) ∧ w' = w := by
 have hf := frombits_run
 go_enter Tryz.func124, Tryz.ntmps124
 go_wp2
 go_ret2
 exact ⟨rfl, rfl⟩
theorem pack64_inf (m e : Int) (w : World) (h : (Go.bits .and .u64 m 4503599627370496 == 0) = false) (he : 972 ≤ e) :
  Calls Tryz.prog 124 #[.int .u64 m, .int .i64 e] w fun e w' => e = .returned (.tuple #[.float .f64 (Go.bits .or .u64 (Go.bits .and .u64 m 9223372036854775808) 9218868437227405312).toNat, .iface 121 (.int .i64 1)]) ∧ w' = w := by
 have hf := frombits_run
 go_enter Tryz.func124, Tryz.ntmps124
 go_wp2
 go_ret2
 exact ⟨rfl, rfl⟩
theorem pack64_big (m e : Int) (w : World) (h : (Go.bits .and .u64 m 4503599627370496 == 0) = false) (he : decide (972 ≤ e) = false) (he0 : -1074 ≤ e) (he1 : e < 972) :
  Calls Tryz.prog 124 #[.int .u64 m, .int .i64 e] w fun e1 w' => e1 = .returned (.tuple #[.float .f64 (Go.bits .or .u64 (Go.bits .andNot .u64 m 4503599627370496) ((1075 + e) * 4503599627370496)).toNat, .nilIface]) ∧ w' = w := by
 have hf := frombits_run
 go_enter Tryz.func124, Tryz.ntmps124
 go_wp2
 go_ret2
 exact ⟨rfl, rfl⟩
theorem andnot64 {a b : Nat} (ha : a < 2 ^ 64) (hb : b < 2 ^ 64) : Go.bits .andNot .u64 (a : Int) (b : Int) = ((a &&& (2 ^ 64 - 1 - b) : Nat) : Int) := by
 have h : Go.bits .andNot .u64 (a : Int) (b : Int) = IntKind.u64.wrap (((BitVec.ofNat 64 a &&& ~~~BitVec.ofNat 64 b).toNat : Nat) : Int) := by
  simp only [Go.bits, BitVec.ofInt_natCast]; rfl
 have h2 : (BitVec.ofNat 64 a &&& ~~~BitVec.ofNat 64 b).toNat = a &&& (2 ^ 64 - 1 - b) := by
  rw [BitVec.toNat_and, BitVec.toNat_not, BitVec.toNat_ofNat, BitVec.toNat_ofNat, Nat.mod_eq_of_lt ha, Nat.mod_eq_of_lt hb]
 rw [h, h2]
 exact wrapU_lt (Nat.and_lt_two_pow _ (by omega))
theorem and_bit (n i : Nat) : n &&& 2 ^ i = n / 2 ^ i % 2 * 2 ^ i := by
 have hlt : n / 2 ^ i % 2 < 2 := Nat.mod_lt _ (by decide)
 apply Nat.eq_of_testBit_eq
 intro j
 rw [Nat.testBit_and, Nat.testBit_two_pow]
 by_cases h : n / 2 ^ i % 2 = 1
 ·rw [h, Nat.one_mul, Nat.testBit_two_pow]
  by_cases e : i = j
  ·subst e; rw [Nat.testBit_eq_decide_div_mod_eq, h]; simp
  ·simp [e]
 ·rw [show n / 2 ^ i % 2 = 0 by omega, Nat.zero_mul, Nat.zero_testBit]
  by_cases e : i = j
  ·subst e; rw [Nat.testBit_eq_decide_div_mod_eq]; simp [h]
  ·simp [e]
theorem sign_or (s : Bool) {n : Nat} (h : n < 2 ^ 63) : (if s then 2 ^ 63 else 0) ||| n = FP.wordOf s n := by
 unfold FP.wordOf
 cases s
 ·simp
 ·simp only [if_true]
  have := Nat.two_pow_add_eq_or_of_lt h 1
  rw [Nat.mul_one] at this
  exact this.symm
theorem place_or (s : Bool) {lo K : Nat} (h1 : lo < 2 ^ 52) (h2 : K < 2 ^ 11) : FP.wordOf s lo ||| K * 2 ^ 52 = FP.wordOf s (lo + K * 2 ^ 52) := by
 rw [← sign_or s (by omega), ← sign_or s (by omega), Nat.or_assoc]
 congr 1
 rw [Nat.or_comm, Nat.mul_comm, ← Nat.two_pow_add_eq_or_of_lt h1]
 omega
theorem clear_bit (s : Bool) {lo : Nat} (h1 : lo < 2 ^ 52) : FP.wordOf s (2 ^ 52 + lo) &&& (2 ^ 64 - 1 - 2 ^ 52) = FP.wordOf s lo := by
 rw [← sign_or s (by omega), ← sign_or s (by omega)]
 have e : 2 ^ 52 + lo = 2 ^ 52 ||| lo := by
  have := Nat.two_pow_add_eq_or_of_lt h1 1
  rw [Nat.mul_one] at this; exact this
 rw [e, Nat.and_or_distrib_right, Nat.and_or_distrib_right]
 have a1 : (if s then 2 ^ 63 else 0) &&& (2 ^ 64 - 1 - 2 ^ 52) = (if s then 2 ^ 63 else 0) := by cases s <;> decide +kernel
 have a2 : 2 ^ 52 &&& (2 ^ 64 - 1 - 2 ^ 52) = 0 := by decide +kernel
 have a3 : lo &&& (2 ^ 64 - 1 - 2 ^ 52) = lo := by
  have b : (2 ^ 64 - 1 - 2 ^ 52 : Nat) = 2 ^ 52 * 4094 + (2 ^ 52 - 1) := by decide +kernel
  rw [b, Nat.two_pow_add_eq_or_of_lt (by decide +kernel) 4094, Nat.and_or_distrib_left, Nat.and_two_pow_sub_one_eq_mod, Nat.mod_eq_of_lt h1]
  have c : lo &&& 2 ^ 52 * 4094 = 0 := by
   have := Nat.and_two_pow_sub_one_eq_mod lo 52
   rw [Nat.mod_eq_of_lt h1] at this
   rw [← this, Nat.and_assoc]
   have : (2 ^ 52 - 1) &&& 2 ^ 52 * 4094 = 0 := by decide +kernel
   rw [this, Nat.and_zero]
  rw [c, Nat.zero_or]
 rw [a1, a2, a3, Nat.zero_or]
def errOf (r : Nat) : Value := if r = FP.INF then .iface 121 (.int .i64 1) else .nilIface
theorem wordOf_lt (s : Bool) {n : Nat} (h : n < 2 ^ 63) : FP.wordOf s n < 2 ^ 64 := by unfold FP.wordOf; split <;> omega
theorem pack64_calls (s : Bool) (r : Nat) (e : Int) (hr : r < 2 ^ 53) (he0 : -1074 ≤ e) (he1 : e ≤ 5000) (w : World) :
  Calls Tryz.prog 124 #[.int .u64 (FP.wordOf s r), .int .i64 e] w fun e1 w' => e1 = .returned (.tuple #[.float .f64 (FP.wordOf s (FP.packN r e)), errOf (FP.packN r e)]) ∧ w' = w := by
 have hm := wordOf_lt s (n := r) (by omega)
 have hand : Go.bits .and .u64 (FP.wordOf s r : Int) 4503599627370496 = ((FP.wordOf s r / 2 ^ 52 % 2 * 2 ^ 52 : Nat) : Int) := by
  rw [← and_bit]; exact and64 hm (by decide)
 have hbit : FP.wordOf s r / 2 ^ 52 % 2 = r / 2 ^ 52 := by unfold FP.wordOf; split <;> omega
 rw [hbit] at hand
 by_cases c : r < 2 ^ 52
 ·have hp : FP.packN r e = r := by unfold FP.packN; rw [if_pos c]
  have he : errOf r = .nilIface := by unfold errOf; rw [if_neg (by unfold FP.INF; omega)]
  have := pack64_small (FP.wordOf s r) e w (by rw [hand, show r / 2 ^ 52 = 0 by omega]; rfl)
  rw [hp, he]
  exact this
 ·have ht : (Go.bits .and .u64 (FP.wordOf s r : Int) 4503599627370496 == 0) = false := by rw [hand, show r / 2 ^ 52 = 1 by omega]; rfl
  by_cases c2 : 972 ≤ e
  ·have hp : FP.packN r e = FP.INF := by unfold FP.packN; rw [if_neg c, if_pos c2]
   have he : errOf FP.INF = .iface 121 (.int .i64 1) := by unfold errOf; rw [if_pos rfl]
   have := pack64_inf (FP.wordOf s r) e w ht c2
   have e1 : Go.bits .and .u64 (FP.wordOf s r : Int) 9223372036854775808 = ((FP.wordOf s 0 : Nat) : Int) := by
    have h1 : Go.bits .and .u64 (FP.wordOf s r : Int) 9223372036854775808 = ((FP.wordOf s r / 2 ^ 63 % 2 * 2 ^ 63 : Nat) : Int) := by
     rw [← and_bit]; exact and64 hm (by decide)
    rw [h1]; congr 1; unfold FP.wordOf; split <;> omega
   have e2 : Go.bits .or .u64 (FP.wordOf s 0 : Int) 9218868437227405312 = ((FP.wordOf s FP.INF : Nat) : Int) := by
    have h1 : Go.bits .or .u64 (FP.wordOf s 0 : Int) 9218868437227405312 = ((FP.wordOf s 0 ||| 2047 * 2 ^ 52 : Nat) : Int) := or64 (wordOf_lt s (by decide)) (by decide)
    rw [h1, place_or s (by decide) (by decide)]; simp [FP.INF]
   rw [e1, e2] at this
   rw [hp, he]
   exact this
  ·have hp : FP.packN r e = r - 2 ^ 52 + (1075 + e).toNat * 2 ^ 52 := by unfold FP.packN; rw [if_neg c, if_neg c2]
   have he : errOf (r - 2 ^ 52 + (1075 + e).toNat * 2 ^ 52) = .nilIface := by unfold errOf; rw [if_neg (by unfold FP.INF; omega)]
   have := pack64_big (FP.wordOf s r) e w ht (decide_eq_false c2) he0 (by omega)
   have e1 : Go.bits .andNot .u64 (FP.wordOf s r : Int) 4503599627370496 = ((FP.wordOf s (r - 2 ^ 52) : Nat) : Int) := by
    have h1 : Go.bits .andNot .u64 (FP.wordOf s r : Int) 4503599627370496 = ((FP.wordOf s r &&& (2 ^ 64 - 1 - 2 ^ 52) : Nat) : Int) := andnot64 hm (by decide)
    rw [h1]
    have := clear_bit s (lo := r - 2 ^ 52) (by omega)
    rw [show 2 ^ 52 + (r - 2 ^ 52) = r by omega] at this
    rw [this]
   have e2 : Go.bits .or .u64 (FP.wordOf s (r - 2 ^ 52) : Int) ((1075 + e) * 4503599627370496) = ((FP.wordOf s (r - 2 ^ 52 + (1075 + e).toNat * 2 ^ 52) : Nat) : Int) := by
    rw [← place_or s (by omega) (by omega)]
    have h1 : (1075 + e) * 4503599627370496 = (((1075 + e).toNat * 2 ^ 52 : Nat) : Int) := by omega
    rw [h1]
    exact or64 (wordOf_lt s (by omega)) (by omega)
   rw [e1, e2] at this
   rw [hp, he]
   exact this
end Go.Proofs.YtbimfhaokgigkaaGreatDoor
