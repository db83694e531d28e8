/- Walks of functions of FnJpGetFloat (B10, B11); conditions stand ahead of each theorem. -/
import Derived.Test.YtbimfhaokgigkaaGreatDoorT12
import Derived.Test.YtbimfhaokgigkaaGreatDoorT03
import Derived.ScopeJumps
set_option linter.unusedVariables false
set_option linter.unusedSimpArgs false
set_option maxRecDepth 1000000
namespace Go.Proofs.YtbimfhaokgigkaaGreatDoor
open Go.RowKit Go.Proofs.YtbimfhaokgigkaaGreatDoorW.PrintWords Go.Proofs.YtbimfhaokgigkaaGreatDoorW.PrintLast
structure FEnv (n : Nat) (w : World) : Prop where
 le : n ≤ w.heap.size
 i0 : 17 < n
 mant : w.cell? ⟨17, 0, none⟩ = some (.int .u64 52)
 expb : w.cell? ⟨17, 1, none⟩ = some (.int .u64 11)
 bias : w.cell? ⟨17, 2, none⟩ = some (.int .i64 (-1023))
 p0 : 20 < n
 pow : ∃ B O C, B < n ∧ w.cell? ⟨20, 0, none⟩ = some (.slice (some ⟨B, O, none⟩) 9 C) ∧ ∀ i, i < 9 → w.cell? ⟨B, O + i, none⟩ = some (.int .i64 (FP.stepN i : Int))
 l0 : 23 < n
 cheats : ∃ B O C, B < n ∧ Cheats w B O C
theorem FEnv.below {n : Nat} {w w' : World} (h : FEnv n w) (hb : Below n w w') : FEnv n w' := by
 have hc : ∀ b o, b < n → w'.cell? ⟨b, o, none⟩ = w.cell? ⟨b, o, none⟩ := fun b o hbn => hb.cell (p := ⟨b, o, none⟩) hbn
 obtain ⟨h1, h2, h3, h4, h5, h6, ⟨B, O, C, h7, h8, h9⟩, h10, ⟨B2, O2, C2, h11, h12, h13⟩⟩ := h
 refine ⟨Nat.le_trans h1 hb.size, h2, by rw [hc _ _ h2, h3], by rw [hc _ _ h2, h4], by rw [hc _ _ h2, h5], h6, ⟨B, O, C, h7, by rw [hc _ _ h6, h8], fun i hi => by rw [hc _ _ h7, h9 i hi]⟩, h10, ⟨B2, O2, C2, h11, by rw [hc _ _ h10, h12], fun k k1 k2 => ?_⟩⟩
 obtain ⟨dl, cs, ⟨e1, s, e2, e3⟩, e4⟩ := h13 k k1 k2
 exact ⟨dl, cs, ⟨by rw [hc _ _ h11, e1], s, by rw [hc _ _ h11, e2], e3⟩, e4⟩
theorem Only.to_below {g n : Nat} {w w' : World} (h : Only g w w') (hg : n ≤ g) (hn : n ≤ w.heap.size) : Below n w w' :=
 ⟨h.os, h.tape, h.output, h.size, fun k hk => h.block k (by omega) (by omega)⟩
theorem FEnv.only {n g : Nat} {w w' : World} (h : FEnv n w) (hO : Only g w w') (hg : n ≤ g) : FEnv n w' := h.below (hO.to_below hg h.le)
theorem DecL.drewN {w : World} {g : Nat} {s : List Nat × Int × Bool} {neg : Bool} (h : DecL w g s neg) (n : Nat) : DecL (w.drewN n) g s neg := h
theorem FEnv.drewN {n : Nat} {w : World} (h : FEnv n w) (m : Nat) : FEnv n (w.drewN m) := h.below ⟨rfl, rfl, rfl, Nat.le_refl _, fun _ _ => rfl⟩
structure DecV (w : World) (g : Nat) (X : Rat) (E t : Int) (s : List Nat × Int × Bool) (neg : Bool) : Prop where
 mem : DecL w g s neg
 val : FP.DW X E t s.1 s.2.1 s.2.2
theorem DecV.drewN {w : World} {g : Nat} {X : Rat} {E t : Int} {s : List Nat × Int × Bool} {neg : Bool} (h : DecV w g X E t s neg) (n : Nat) : DecV (w.drewN n) g X E t s neg := ⟨h.mem, h.val⟩
section
variable {w : World} {g n : Nat} {X : Rat} {E t : Int} {s : List Nat × Int × Bool} {neg : Bool}
theorem shift_left (hD : DecV w g X E t s neg) (hE : FEnv n w) (hg : n ≤ g) (h1 : -3000 ≤ E + t) (h2 : E + t ≤ 3000) (k : Nat) (hk1 : 1 ≤ k) (hk : k ≤ 60) (hr : FP.Range E (t + k)) :
  Calls Tryz.prog 122 #[.pointer (some ⟨g, 0, none⟩), .int .i64 (k : Int)] w fun e w' => e = .returned (.tuple #[]) ∧ DecV w' g X E (t + k) (FP.shlD k s) neg ∧ Only g w w' := by
 obtain ⟨ds, dp, tr⟩ := s
 obtain ⟨⟨d, m1, m2⟩, v⟩ := hD
 have hb := v.bounds h1 h2
 have hl := v.len
 obtain ⟨B, O, C, _, hC⟩ := hE.cheats
 have LC := az (left_calls (g := g) (ds := ds) (dp := dp) (neg := neg) (tr := tr) ⟨d, m1, m2⟩ v.digs v.lead hl k hk1 hk (by have := hb.1; simp only at this; omega) (by have := hb.2; simp only at this; omega) hC)
 have V := az (v.shl k hr).weak
 have cnd := m1.cnd
 have hne : ((ds.length : Int) == 0) = false := by
  obtain ⟨x, u, e, _⟩ := v.lead
  simp only at e
  rw [e, beq_eq_false_iff_ne]; simp; omega
 have tk : decide (0 < (k : Int)) = true := dT
 have tkn : decide (0 < k) = true := dT
 have t60 : decide (60 < (k : Int)) = false := dF
 have t60n : decide (60 < k) = false := dF
 have hk6 : (k : Int) ≤ 60 := by omega
 simp only at cnd hne
 clear m1 m2 v hb hl hC hk1 h1 h2 hE hr
 go_enter Tryz.func122, Tryz.ntmps122
 go_wp2_with fail
 refine wp_loop_rounds 1 ?_
 rw [rounds_succ]
 go_wp2_with fail
 refine LC.out.mono ?_
 rintro e w1 ⟨rfl, a1, a2⟩
 go_wp2_with fail
 go_end0
 exact ⟨rfl, ⟨a1, V.out⟩, a2⟩
theorem shift_right (hD : DecV w g X E t s neg) (h1 : -3000 ≤ E + t) (h2 : E + t ≤ 3000) (k : Nat) (hk1 : 1 ≤ k) (hk : k ≤ 60) (hr : FP.Range E (t - k)) :
  Calls Tryz.prog 122 #[.pointer (some ⟨g, 0, none⟩), .int .i64 (-(k : Int))] w fun e w' => e = .returned (.tuple #[]) ∧ DecV w' g X E (t - k) (FP.shrD k s) neg ∧ Only g w w' := by
 obtain ⟨ds, dp, tr⟩ := s
 obtain ⟨⟨d, m1, m2⟩, v⟩ := hD
 have hb := v.bounds h1 h2
 have hl := v.len
 have LC := az (right_calls (g := g) (ds := ds) (dp := dp) (neg := neg) (tr := tr) ⟨d, m1, m2⟩ v.digs v.lead hl k hk1 hk (by have := hb.1; simp only at this; omega) (by have := hb.2; simp only at this; omega))
 have V := az (v.shr k hr).weak
 have cnd := m1.cnd
 have hne : ((ds.length : Int) == 0) = false := by
  obtain ⟨x, u, e, _⟩ := v.lead
  simp only at e
  rw [e, beq_eq_false_iff_ne]; simp; omega
 have tk : decide (0 < -(k : Int)) = false := dF
 have tk2 : decide (-(k : Int) < 0) = true := dT
 have tk3 : decide (0 < (k : Int)) = true := dT
 have tkn : decide (0 < k) = true := dT
 have t60 : decide (-(k : Int) < -60) = false := dF
 have t60b : decide (60 < (k : Int)) = false := dF
 have t60n : decide (60 < k) = false := dF
 have hk6 : (k : Int) ≤ 60 := by omega
 simp only at cnd hne
 clear m1 m2 v hb hl hk1 h1 h2 hr
 go_enter Tryz.func122, Tryz.ntmps122
 go_wp2_with fail
 refine wp_loop_rounds 1 ?_
 rw [rounds_succ]
 go_wp2_with fail
 refine LC.out.mono ?_
 rintro e w1 ⟨rfl, a1, a2⟩
 go_wp2_with fail
 go_end0
 exact ⟨rfl, ⟨a1, V.out⟩, a2⟩
theorem shift_right2 (hD : DecV w g X E t s neg) (h1 : -2000 ≤ E + t) (h2 : E + t ≤ 3000) (k : Nat) (hk1 : 60 < k) (hk : k ≤ 120) (hr0 : FP.Range E (t - 60)) (hr : FP.Range E (t - k)) :
  Calls Tryz.prog 122 #[.pointer (some ⟨g, 0, none⟩), .int .i64 (-(k : Int))] w fun e w' => e = .returned (.tuple #[]) ∧ DecV w' g X E (t - k) (FP.shrD (k - 60) (FP.shrD 60 s)) neg ∧ Only g w w' := by
 obtain ⟨ds, dp, tr⟩ := s
 obtain ⟨⟨d, m1, m2⟩, v⟩ := hD
 have hb := v.bounds (by omega) h2
 have hl := v.len
 have LC := az (right_calls (g := g) (ds := ds) (dp := dp) (neg := neg) (tr := tr) ⟨d, m1, m2⟩ v.digs v.lead hl 60 (by omega) (by omega) (by have := hb.1; simp only at this; omega) (by have := hb.2; simp only at this; omega))
 have v' := (v.shr 60 hr0).weak
 have hb' := v'.bounds (by omega) (by omega)
 have V := az (v'.shr (k - 60) (by rw [show t - ((60 : Nat) : Int) - ((k - 60 : Nat) : Int) = t - k by omega]; exact hr)).weak
 have LC2 := az (fun w1 (a1 : DecL w1 g ((FP.shrD 60 (ds, dp, tr)).1, (FP.shrD 60 (ds, dp, tr)).2.1, (FP.shrD 60 (ds, dp, tr)).2.2) neg) => right_calls (g := g) (neg := neg) a1 v'.digs v'.lead v'.len (k - 60) (by omega) (by omega) (by have := hb'.1; simp only at this ⊢; omega) (by have := hb'.2; simp only at this ⊢; omega))
 have cnd := m1.cnd
 have hne : ((ds.length : Int) == 0) = false := by
  obtain ⟨x, u, e, _⟩ := v.lead
  simp only at e
  rw [e, beq_eq_false_iff_ne]; simp; omega
 obtain ⟨k, rfl⟩ : ∃ k', k = k' + 60 := ⟨k - 60, by omega⟩
 have hk6 : (k : Int) ≤ 60 := by omega
 have TT := az (show t - ((60 : Nat) : Int) - ((k + 60 - 60 : Nat) : Int) = t - ((k + 60 : Nat) : Int) by omega)
 rw [Nat.add_sub_cancel] at LC2 V TT
 obtain ⟨z, hK⟩ : ∃ z : Int, z = -((k + 60 : Nat) : Int) := ⟨_, rfl⟩
 rw [← hK]
 have tk : decide (0 < z) = false := dF
 have tk2 : decide (z < 0) = true := dT
 have t60 : decide (z < -60) = true := dT
 have t61 : decide (z + 60 < -60) = false := dF
 have hK1 : z ≤ -60 := by omega
 have hK2 : -120 ≤ z := by omega
 have HK := az (show -(z + 60) = (k : Int) by omega)
 simp only at cnd hne
 clear m1 m2 v v' hb hb' hl hk1 h1 h2 hr hK
 go_enter Tryz.func122, Tryz.ntmps122
 go_wp2_with fail
 refine wp_loop_rounds 2 ?_
 rw [rounds_succ]
 go_wp2_with fail
 refine LC.out.mono ?_
 rintro e w1 ⟨rfl, a1, a2⟩
 go_wp2_with fail
 rw [rounds_succ]
 go_wp2_with fail
 rw [HK.out]
 refine (LC2.out _ a1).mono ?_
 rintro e w2 ⟨rfl, b1, b2⟩
 go_wp2_with fail
 go_end0
 refine ⟨rfl, ⟨b1, ?_⟩, a2.trans b2⟩
 have V := V.out
 rw [TT.out] at V
 exact V
end
def scopeOf : Code → Option Code
 | .scope c => some c
 | .seq a b => match scopeOf a with
  | some c => some c
  | none => scopeOf b
 | _ => none
noncomputable def fbC : Code := (Tryz.f98.body.bind scopeOf).getD .skip
noncomputable def fbR0 : Code := (findLabel fbC 0).getD .skip
def dropSkip : Code → Code
 | .seq .skip c => c
 | c => c
noncomputable def fbT0 : Code := dropSkip fbR0
noncomputable def fbR1 : Code := (findLabel fbC 1).getD .skip
theorem and_2047 {e : Nat} (h : e < 2 ^ 11) : Go.bits .and .i64 (e : Int) 2047 = (e : Int) := by
 have : ∀ n : Fin 2048, Go.bits .and .i64 (n.1 : Int) 2047 = n.1 := by decide +kernel
 exact this ⟨e, by omega⟩
theorem or_rung {m e : Nat} (he : e < 2 ^ 11) : Go.bits .or .u64 ((m : Int) % 4503599627370496) (IntKind.u64.wrap (IntKind.u64.wrap (Go.bits .and .i64 (e : Int) 2047) * 4503599627370496)) = (FP.rung e m : Int) := by
 rw [and_2047 he, wraps_u64 (e : Int) (by omega) (by omega), wraps_u64 _ (by omega) (by omega), show (m : Int) % 4503599627370496 = ((m % 2 ^ 52 : Nat) : Int) by omega, show (e : Int) * 4503599627370496 = ((e * 2 ^ 52 : Nat) : Int) by omega,
  or64 (by omega) (by omega)]
 have := place_or false (lo := m % 2 ^ 52) (K := e) (by omega) (by omega)
 unfold FP.wordOf at this
 simp only [Bool.false_eq_true, if_false] at this
 rw [this]
 unfold FP.rung
 omega
theorem or_sign {r : Nat} (hr : r < 2 ^ 63) : Go.bits .or .u64 (r : Int) 9223372036854775808 = (FP.wordOf true r : Int) := by
 rw [show (9223372036854775808 : Int) = ((2 ^ 63 : Nat) : Int) by decide, or64 (by omega) (by omega), Nat.or_comm]
 have := sign_or true hr
 simp only [if_true] at this
 rw [this]
def ffr (v0 v1 v4 v5 v6 v7 : Value) (u : Nat → Value) : Array Value := #[v0, v1, u 2, u 3, v4, v5, v6, v7, u 8, u 9, u 10, u 11, u 12, u 13, u 14, u 15, u 16, u 17, u 18, u 19, u 20, u 21, u 22, u 23, u 24, u 25, u 26, u 27, u 28, u 29, u 30, u 31, u 32, u 33, u 34, u 35, u 36, u 37, u 38, u 39, u 40, u 41, u 42, u 43, u 44, u 45, u 46, u 47, u 48, u 49, u 50, u 51, u 52, u 53, u 54, u 55, u 56, u 57, u 58, u 59, u 60, u 61, u 62, u 63, u 64, u 65, u 66, u 67, u 68, u 69, u 70, u 71, u 72, u 73, u 74, u 75, u 76, u 77, u 78, u 79, u 80, u 81, u 82, u 83, u 84, u 85, u 86, u 87, u 88, u 89, u 90, u 91, u 92, u 93, u 94, u 95, u 96, u 97, u 98, u 99, u 100, u 101, u 102, u 103, u 104, u 105, u 106, u 107, u 108, u 109, u 110, u 111, u 112, u 113, u 114, u 115, u 116, u 117, u 118, u 119, u 120, u 121, u 122, u 123, u 124, u 125, u 126, u 127, u 128, u 129, u 130, u 131, u 132, u 133, u 134, u 135, u 136, u 137, u 138, u 139, u 140, u 141, u 142, u 143, u 144, u 145, u 146, u 147, u 148, u 149, u 150, u 151, u 152, u 153, u 154, u 155, u 156, u 157, u 158, u 159, u 160, u 161, u 162, u 163, u 164, u 165, u 166, u 167, u 168, u 169, u 170, u 171, u 172, u 173, u 174, u 175, u 176, u 177, u 178, u 179, u 180, u 181, u 182, u 183, u 184, u 185, u 186, u 187, u 188, u 189, u 190, u 191, u 192, u 193, u 194, u 195, u 196, u 197, u 198, u 199, u 200, u 201, u 202, u 203, u 204, u 205, u 206, u 207, u 208, u 209, u 210, u 211, u 212, u 213, u 214, u 215, u 216, u 217, u 218, u 219, u 220, u 221, u 222, u 223, u 224, u 225, u 226, u 227, u 228, u 229, u 230, u 231, u 232, u 233, u 234, u 235, u 236, u 237, u 238, u 239, u 240, u 241, u 242]
theorem fb_out_true {w : World} {g n : Nat} (hE : FEnv n w) (cneg : w.cell? ⟨g, 802, none⟩ = some (.bool true)) (m e : Nat) (x : Int) (hm : m < 2 ^ 53) (he : e < 2 ^ 11) (hx : x = (e : Int) - 1023) (ovf : Bool) (u : Nat → Value) (R : Ending → World → Prop)
  (hR : ∀ w', Drew w w' → R (.returned (.tuple #[.int .u64 (FP.wordOf true (FP.rung e m) : Int), .bool ovf])) w') :
  Code.wp Tryz.prog fbT0 (Exit.noGoto (bodyPost Tryz.prog Tryz.f98 R)) ⟨ffr (.pointer (some ⟨g, 0, none⟩)) (.pointer (some ⟨17, 0, none⟩)) (.int .u64 0) (.bool ovf) (.int .i64 x) (.int .u64 (m : Int)) u, []⟩ w := by
 have c0 := hE.mant
 have c1 := hE.expb
 have c2 := hE.bias
 have E1 : Go.bits .and .u64 (m : Int) 4503599627370495 = ((m % 2 ^ 52 : Nat) : Int) := by
  have := mask64 (x := (m : Int)) 52 (by decide) (by omega) (by omega)
  rw [show (2 ^ 52 - 1 : Int) = 4503599627370495 by decide] at this
  rw [this]; omega
 have hx0 : -1023 ≤ x := by omega
 have hx1 : x ≤ 1024 := by omega
 have E3 := or_rung (m := m) he
 have hr : FP.rung e m < 2 ^ 63 := by unfold FP.rung; omega
 have E4 := or_sign hr
 have HR := az hR
 clear hE hR
 unfold ffr
 conv => arg 2; whnf
 go_wp2_with fail
 go_quiet (fail)
 go_wp2_with fail
 go_quiet (fail)
 go_wp2_with fail
 exact HR.out _ ((Drew.step w _).trans (Drew.step _ _))
theorem fb_out_false {w : World} {g n : Nat} (hE : FEnv n w) (cneg : w.cell? ⟨g, 802, none⟩ = some (.bool false)) (m e : Nat) (x : Int) (hm : m < 2 ^ 53) (he : e < 2 ^ 11) (hx : x = (e : Int) - 1023) (ovf : Bool) (u : Nat → Value) (R : Ending → World → Prop)
  (hR : ∀ w', Drew w w' → R (.returned (.tuple #[.int .u64 (FP.wordOf false (FP.rung e m) : Int), .bool ovf])) w') :
  Code.wp Tryz.prog fbT0 (Exit.noGoto (bodyPost Tryz.prog Tryz.f98 R)) ⟨ffr (.pointer (some ⟨g, 0, none⟩)) (.pointer (some ⟨17, 0, none⟩)) (.int .u64 0) (.bool ovf) (.int .i64 x) (.int .u64 (m : Int)) u, []⟩ w := by
 have c0 := hE.mant
 have c1 := hE.expb
 have c2 := hE.bias
 have E1 : Go.bits .and .u64 (m : Int) 4503599627370495 = ((m % 2 ^ 52 : Nat) : Int) := by
  have := mask64 (x := (m : Int)) 52 (by decide) (by omega) (by omega)
  rw [show (2 ^ 52 - 1 : Int) = 4503599627370495 by decide] at this
  rw [this]; omega
 have hx0 : -1023 ≤ x := by omega
 have hx1 : x ≤ 1024 := by omega
 have E3 := or_rung (m := m) he
 have hr : FP.rung e m < 2 ^ 63 := by unfold FP.rung; omega
 have E4 := or_sign hr
 have HR := az hR
 clear hE hR
 unfold ffr
 conv => arg 2; whnf
 go_wp2_with fail
 go_quiet (fail)
 go_wp2_with fail
 exact HR.out _ (Drew.step w _)
theorem fb_out {w : World} {g n : Nat} (hE : FEnv n w) {neg : Bool} (cneg : w.cell? ⟨g, 802, none⟩ = some (.bool neg)) (m e : Nat) (x : Int) (hm : m < 2 ^ 53) (he : e < 2 ^ 11) (hx : x = (e : Int) - 1023) (ovf : Bool) (R : Ending → World → Prop)
  (hR : ∀ w', Drew w w' → R (.returned (.tuple #[.int .u64 (FP.wordOf neg (FP.rung e m) : Int), .bool ovf])) w') {c : Code} {a : Act} {Q : Exit → Act → World → Prop} (hc : fbT0 = c) (hQ : Q = Exit.noGoto (bodyPost Tryz.prog Tryz.f98 R)) (ha : a = ⟨ffr (.pointer (some ⟨g, 0, none⟩)) (.pointer (some ⟨17, 0, none⟩)) (.int .u64 0) (.bool ovf) (.int .i64 x) (.int .u64 (m : Int)) (fun n => a.tmps.getD n undef), []⟩) :
  Code.wp Tryz.prog c Q a w := by
 subst hc hQ
 rw [ha]
 cases neg with
 | true => exact fb_out_true hE cneg m e x hm he hx ovf _ R hR
 | false => exact fb_out_false hE cneg m e x hm he hx ovf _ R hR
theorem fb_over {w : World} {g n : Nat} (hE : FEnv n w) {neg : Bool} (cneg : w.cell? ⟨g, 802, none⟩ = some (.bool neg)) (p6 p7 : Int) (u : Nat → Value) (R : Ending → World → Prop)
  (hR : ∀ w', Drew w w' → R (.returned (.tuple #[.int .u64 (FP.wordOf neg FP.INF : Int), .bool true])) w') :
  Code.wp Tryz.prog fbR1 (Exit.noGoto (bodyPost Tryz.prog Tryz.f98 R)) ⟨ffr (.pointer (some ⟨g, 0, none⟩)) (.pointer (some ⟨17, 0, none⟩)) (.int .u64 0) (.bool false) (.int .i64 p6) (.int .u64 p7) u, []⟩ w := by
 have c1 := hE.expb
 have c2 := hE.bias
 have HR := az hR
 have HE := az hE
 clear hE hR
 unfold ffr
 conv => arg 2; whnf
 go_wp2_with fail
 go_quiet (fail)
 go_wp2_with fail
 go_step3
 simp only [Exit.then]
 go_step
 refine fb_out (g := g) (HE.out.drewN nq) (neg := neg) ?_ 0 2047 1024 (by decide) (by decide) (by decide) true R ?_ (by kernel_rfl) rfl rfl
 ·exact cneg
 ·intro w' h
  exact HR.out w' ((Drew.step w nq).trans h)
end Go.Proofs.YtbimfhaokgigkaaGreatDoor
