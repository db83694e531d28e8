/- Walks of functions of FnJpGetFloat (C1, C2); conditions stand ahead of each theorem. -/
import Derived.Test.YtbimfhaokgigkaaGreatDoorT08
import Derived.Test.YtbimfhaokgigkaaGreatDoorT16
import Derived.Test.YtbimfhaokgigkaaGreatDoorT18
import Derived.Test.YtbimfhaokgigkaaGreatDoorT03
set_option maxRecDepth 1000000
set_option maxHeartbeats 1000000
namespace Go.Proofs.YtbimfhaokgigkaaGreatDoor
open Go.RowKit Go.Proofs.YtbimfhaokgigkaaGreatDoorW.PrintWords Go.Proofs.YtbimfhaokgigkaaGreatDoorW.PrintLast
theorem cpl_calls (s t : ByteArray) (w : World) (hs : 1 ≤ s.size) (hs8 : s.size ≤ 1000) (ht : 1 ≤ t.size) (ht8 : t.size ≤ 1000) (h0 : 48 ≤ bt s 0) (h1 : bt s 0 ≤ 57) (hne : bt s 0 ≠ bt t 0) :
  Calls Tryz.prog 109 #[.string s, .string t] w fun e w' => e = .returned (.int .i64 0) ∧ w' = w := by
 have b0 := bt_0 s
 have c0 := bt_0 t
 have hmin : decide (0 < min (t.size : Int) (s.size : Int)) = true := dT
 have hminn : decide (0 < min t.size s.size) = true := dT
 have t65 : decide (65 ≤ bt s 0) = false := dF
 have tne : (bt s 0 != bt t 0) = true := by rw [bne_iff_ne]; exact hne
 have hsi : (s.size : Int) ≤ 1000 := by omega
 have hti : (t.size : Int) ≤ 1000 := by omega
 have p1 : (0 < s.size) = True := eT
 have p2 : (0 < t.size) = True := eT
 have e1 : (s = ByteArray.empty) = False := by
  refine eq_false (fun e => ?_)
  rw [e] at hs; exact absurd hs (by decide)
 have e2 : (t = ByteArray.empty) = False := by
  refine eq_false (fun e => ?_)
  rw [e] at ht; exact absurd ht (by decide)
 clear hne h0 h1
 go_enter Tryz.func109, Tryz.ntmps109
 go_wp2_with fail
 all_goals (refine wp_loop_rounds 1 ?_; rw [rounds_succ]; go_wp2_with fail; go_ret; exact ⟨rfl, rfl⟩)
def infTxt : ByteArray := ⟨#[105, 110, 102, 105, 110, 105, 116, 121]⟩
theorem ext_bt (s : ByteArray) (h : 1 < s.size) : bt (s.extract 1 s.size) 0 = bt s 1 := by
 have h1 : (0 : Int).toNat < (s.extract 1 s.size).size := by rw [ByteArray.size_extract]; omega
 have h2 : (1 : Int).toNat < s.size := h
 unfold bt
 rw [dif_pos h1, dif_pos h2]
 congr 2
 exact (ByteArray.getElem_extract (b := s) (start := 1) (stop := s.size) (i := 0) h1)
theorem special_neg (s : ByteArray) (w : World) (hs : 1 < s.size) (hs8 : s.size ≤ 1000) (h45 : bt s 0 = 45) (h0 : 48 ≤ bt s 1) (h1 : bt s 1 ≤ 57) :
  Calls Tryz.prog 90 #[.string s] w fun e w' => e = .returned (.tuple #[.float .f64 0, .int .i64 0, .bool false]) ∧ w' = w := by
 have b0 := bt_0 s
 have he := ext_bt s hs
 have CPL := az (cpl_calls (s.extract 1 s.size) infTxt w (by rw [ByteArray.size_extract]; omega) (by rw [ByteArray.size_extract]; omega) (by decide) (by decide) (by omega) (by omega) (by rw [he, show bt infTxt 0 = 105 by decide]; omega))
 have t43 : (bt s 0 == 43) = false := by rw [h45]; decide
 have t45 : (bt s 0 == 45) = true := by rw [h45]; decide
 have c1 : ((s.size : Int) == 0) = false := bF
 have hs1 : 1 < (s.size : Int) := by omega
 have hsi : (s.size : Int) ≤ 1000 := by omega
 have p1 : (0 < s.size) = True := eT
 have p2 : (1 ≤ s.size) = True := eT
 have p3 : (1 ≤ (s.size : Int)) = True := eT
 have e1 : (s = ByteArray.empty) = False := by
  refine eq_false (fun e => ?_)
  rw [e] at hs; exact absurd hs (by decide)
 clear he h45 h0 h1
 go_enter Tryz.func90, Tryz.ntmps90
 go_wp2_with fail
 go_call CPL.out as e w1 ⟨rfl, rfl⟩
 go_wp2_with fail
 go_returns
 exact ⟨rfl, rfl⟩
theorem special_pos (s : ByteArray) (w : World) (hs : 0 < s.size) (hs8 : s.size ≤ 1000) (h0 : 48 ≤ bt s 0) (h1 : bt s 0 ≤ 57) :
  Calls Tryz.prog 90 #[.string s] w fun e w' => e = .returned (.tuple #[.float .f64 0, .int .i64 0, .bool false]) ∧ w' = w := by
 have b0 := bt_0 s
 have t43 : (bt s 0 == 43) = false := bF
 have t45 : (bt s 0 == 45) = false := bF
 have t1 : (bt s 0 == 105) = false := bF
 have t2 : (bt s 0 == 73) = false := bF
 have t3 : (bt s 0 == 110) = false := bF
 have t4 : (bt s 0 == 78) = false := bF
 have c1 : ((s.size : Int) == 0) = false := bF
 have hsi : (s.size : Int) ≤ 1000 := by omega
 have p1 : (0 < s.size) = True := eT
 have e1 : (s = ByteArray.empty) = False := by
  refine eq_false (fun e => ?_)
  rw [e] at hs; exact absurd hs (by decide)
 clear h0 h1
 go_enter Tryz.func90, Tryz.ntmps90
 go_wp2_with fail
 go_returns
 exact ⟨rfl, rfl⟩
structure AEnv (n : Nat) (w : World) : Prop where
 f : FEnv n w
 o0 : 16 < n
 opt : w.cell? ⟨16, 0, none⟩ = some (.bool true)
 t0 : 21 < n
 tens : ∃ B O C, B < n ∧ Tens w B O C
 p0 : 22 < n
 pow : ∀ p : Int, -345 ≤ p → p ≤ 310 → PowAt w p ((FP.rowAt p).1 : Int) ((FP.rowAt p).2 : Int)
theorem AEnv.below {n : Nat} {w w' : World} (h : AEnv n w) (hb : Below n w w') : AEnv n w' := by
 have hc : ∀ b o, b < n → w'.cell? ⟨b, o, none⟩ = w.cell? ⟨b, o, none⟩ := fun b o hbn => hb.cell (p := ⟨b, o, none⟩) hbn
 obtain ⟨h1, h2, h3, h4, ⟨B, O, C, h5, ⟨h6, h7⟩⟩, h8, h9⟩ := h
 exact ⟨h1.below hb, h2, by rw [hc _ _ h2, h3], h4, ⟨B, O, C, h5, ⟨by rw [hc _ _ h4, h6], fun k hk => by rw [hc _ _ h5, h7 k hk]⟩⟩, h8, fun p p1 p2 => ⟨by rw [hc _ _ h8, (h9 p p1 p2).1], by rw [hc _ _ h8, (h9 p p1 p2).2]⟩⟩
structure NumIn (s : ByteArray) (neg : Bool) (m : Nat) (p : Int) (tr : Bool) (L : List Nat) (dp : Int) : Prop where
 sz : s.size ≤ 800
 pos : 0 < s.size
 spec : ∀ w, Calls Tryz.prog 90 #[.string s] w fun e w' => e = .returned (.tuple #[.float .f64 0, .int .i64 0, .bool false]) ∧ w' = w
 read : ∀ w, Calls Tryz.prog 91 #[.string s] w fun e w' => e = .returned (.tuple #[.int .u64 (m : Int), .int .i64 p, .bool neg, .bool tr, .bool false, .int .i64 (s.size : Int), .bool true]) ∧ w' = w
 set : ∀ w gb d0, Dec w gb d0 0 0 false false → Calls Tryz.prog 97 #[.pointer (some ⟨gb, 0, none⟩), .string s] w (SetPost w gb L dp neg)
 len : L.length ≤ 800
 dig : ∀ d ∈ L, d < 10
 lead : L = [] ∨ FP.Lead L
 m19 : m < 10 ^ 19
 plo : -200000 ≤ p
 phi : p ≤ 200000
 zero : m = 0 → FP.dval L dp = 0
 lo : (m : Rat) * FP.p10 p ≤ FP.dval L dp
 hi : FP.dval L dp ≤ ((m + 1 : Nat) : Rat) * FP.p10 p
 ex : tr = false → FP.dval L dp = (m : Rat) * FP.p10 p
def AtofPost (w0 : World) (s : ByteArray) (neg : Bool) (X : Rat) (e : Ending) (w' : World) : Prop := ∃ r, FP.Near X r ∧ e = .returned (.tuple #[.float .f64 (FP.wordOf neg r), .int .i64 (s.size : Int), errOf r]) ∧ Below w0.heap.size w0 w'
theorem errOf_fin {r : Nat} (h : r < FP.INF) : errOf r = .nilIface := by unfold errOf; rw [if_neg (by omega)]
theorem errOf_inf : errOf FP.INF = .iface 121 (.int .i64 1) := by unfold errOf; rw [if_pos rfl]
theorem near_small {V : Rat} (h : V ≤ FP.p10 (-327)) : FP.Near V 0 := by
 have h1 : FP.p10 (-327) < FP.mid 0 := by decide +kernel
 exact ⟨by decide, .inl rfl, .inr (.inl (by grind))⟩
theorem p10_one {p : Int} {m : Nat} (hm : 1 ≤ m) : FP.p10 p ≤ (m : Rat) * FP.p10 p := by
 have h1 := Rat.mul_le_mul_of_nonneg_right (FP.cast_le hm) (Rat.le_of_lt (FP.p10_pos p))
 simpa using h1
theorem p10_m19 {p : Int} {m : Nat} (hm : m < 10 ^ 19) : ((m + 1 : Nat) : Rat) * FP.p10 p ≤ FP.p10 (19 + p) := by
 have h1 := Rat.mul_le_mul_of_nonneg_right (FP.cast_le (show m + 1 ≤ 10 ^ 19 by omega)) (Rat.le_of_lt (FP.p10_pos p))
 rw [← FP.p10_nat, ← FP.p10_add] at h1
 exact h1
theorem zero_dec : Tryz.zeroCells160 = Array.replicate 800 (.int .u8 0) ++ #[.int .i64 0, .int .i64 0, .bool false, .bool false] := by kernel_rfl
theorem dec_new (w : World) : Dec (w.alloc (Obj.cells Tryz.zeroCells160 160)) w.heap.size (fun _ => 0) 0 0 false false := by
 refine ⟨Tryz.zeroCells160, (show (w.heap.push (Obj.cells Tryz.zeroCells160 160))[w.heap.size]? = _ from Array.getElem?_push_size), ?_⟩
 rw [zero_dec]
 refine ⟨by simp, ?_, ?_, ?_, ?_, ?_⟩
 ·intro i hi
  rw [Array.getElem?_append_left (by simpa using hi), Array.getElem?_replicate, if_pos hi]; rfl
 all_goals (rw [Array.getElem?_append_right (by simp)]; simp)
theorem ex_calls_true (m : Nat) (hm : m < 10 ^ 19) (exp : Int) (hX : -400 ≤ exp ∧ exp ≤ 400) (w : World) (B O C : Nat) (c0 : w.cell? ⟨17, 0, none⟩ = some (.int .u64 52)) (T : Tens w B O C) :
  Calls Tryz.prog 101 #[.int .u64 (m : Int), .int .i64 exp, .bool true] w fun e w' => ((∃ v, e = .returned (.tuple #[.float .f64 v, .bool false])) ∨ ∃ r, FP.Near ((m : Rat) * FP.p10 exp) r ∧ r < FP.INF ∧ e = .returned (.tuple #[.float .f64 (FP.wordOf true r), .bool true])) ∧ w' = w := by
 by_cases h37 : exp ≤ 37
 ·refine (exact_calls_true m (by omega) exp w B O C c0 T).mono ?_
  rintro e w' ⟨h | ⟨r, h1, h2⟩, h3⟩
  ·exact ⟨.inl h, h3⟩
  ·refine ⟨.inr ⟨r, h1, FP.near_fin h1 ?_, h2⟩, h3⟩
   have a1 := p10_m19 (p := exp) hm
   have a2 := Rat.mul_lt_mul_of_pos_right (FP.cast_lt (show m < m + 1 by omega)) (FP.p10_pos exp)
   have a3 := FP.p10_le (show 19 + exp ≤ 308 by omega)
   grind
 ·by_cases h53 : m < 2 ^ 53
  ·obtain ⟨a, a1, a2, a3⟩ := FP.of_nat h53
   have h0 : ((m : Int) / 4503599627370496 != 0) = false ∨ ((m : Int) / 4503599627370496 != 0) = true := by cases ((m : Int) / 4503599627370496 != 0) <;> simp
   rcases h0 with h0 | h0
   ·exact (exact_none_true (m : Int) exp w h0 c0 a (by unfold FP.INF at a1; omega) a3 (by rw [beq_eq_false_iff_ne]; omega) (.inr (by omega))).mono fun e w' h => ⟨.inl ⟨_, h.1⟩, h.2⟩
   ·exact (exact_large (m : Int) exp w true h0 c0).mono fun e w' h => ⟨.inl ⟨_, h.1⟩, h.2⟩
  ·exact (exact_large (m : Int) exp w true (by rw [bne_iff_ne]; omega) c0).mono fun e w' h => ⟨.inl ⟨_, h.1⟩, h.2⟩
theorem ex_calls_false (m : Nat) (hm : m < 10 ^ 19) (exp : Int) (hX : -400 ≤ exp ∧ exp ≤ 400) (w : World) (B O C : Nat) (c0 : w.cell? ⟨17, 0, none⟩ = some (.int .u64 52)) (T : Tens w B O C) :
  Calls Tryz.prog 101 #[.int .u64 (m : Int), .int .i64 exp, .bool false] w fun e w' => ((∃ v, e = .returned (.tuple #[.float .f64 v, .bool false])) ∨ ∃ r, FP.Near ((m : Rat) * FP.p10 exp) r ∧ r < FP.INF ∧ e = .returned (.tuple #[.float .f64 (FP.wordOf false r), .bool true])) ∧ w' = w := by
 by_cases h37 : exp ≤ 37
 ·refine (exact_calls_false m (by omega) exp w B O C c0 T).mono ?_
  rintro e w' ⟨h | ⟨r, h1, h2⟩, h3⟩
  ·exact ⟨.inl h, h3⟩
  ·refine ⟨.inr ⟨r, h1, FP.near_fin h1 ?_, h2⟩, h3⟩
   have a1 := p10_m19 (p := exp) hm
   have a2 := Rat.mul_lt_mul_of_pos_right (FP.cast_lt (show m < m + 1 by omega)) (FP.p10_pos exp)
   have a3 := FP.p10_le (show 19 + exp ≤ 308 by omega)
   grind
 ·by_cases h53 : m < 2 ^ 53
  ·obtain ⟨a, a1, a2, a3⟩ := FP.of_nat h53
   have h0 : ((m : Int) / 4503599627370496 != 0) = false ∨ ((m : Int) / 4503599627370496 != 0) = true := by cases ((m : Int) / 4503599627370496 != 0) <;> simp
   rcases h0 with h0 | h0
   ·exact (exact_none_false (m : Int) exp w h0 c0 a (by unfold FP.INF at a1; omega) a3 (by rw [beq_eq_false_iff_ne]; omega) (.inr (by omega))).mono fun e w' h => ⟨.inl ⟨_, h.1⟩, h.2⟩
   ·exact (exact_large (m : Int) exp w false h0 c0).mono fun e w' h => ⟨.inl ⟨_, h.1⟩, h.2⟩
  ·exact (exact_large (m : Int) exp w false (by rw [bne_iff_ne]; omega) c0).mono fun e w' h => ⟨.inl ⟨_, h.1⟩, h.2⟩
theorem at_zero_true {s : ByteArray} {m : Nat} {p : Int} {tr : Bool} {L : List Nat} {dp : Int} (h : NumIn s true m p tr L dp) {n : Nat} {w : World} (hE : AEnv n w) (hm : m = 0) :
  Calls Tryz.prog 83 #[.string s] w (AtofPost w s true (FP.dval L dp)) := by
 have SP := az h.spec
 have RD := az h.read
 have H := az h
 have HE := az hE
 have copt := hE.opt
 have hs8 : (s.size : Int) ≤ 800 := by have := h.sz; omega
 have hplo := h.plo
 have hphi := h.phi
 have B2 := fun w => bool64_calls true w
 simp only [if_true] at B2
 have B2 := az B2
 refine byR fun R hR => ?_
 have HR := az hR
 have hfb := fun (x : Int) (w : World) => frombits_run x w
 clear hR h hE
 have em : ((m : Int) == 0) = true := bT
 have eor : Go.bits .or .u64 9223372036854775808 0 = 9223372036854775808 := by decide +kernel
 have HN := az (show FP.Near (FP.dval L dp) 0 by rw [H.out.zero hm]; exact FP.near_zero)
 clear hm
 go_enter Tryz.func83, Tryz.ntmps83
 go_wp2_with fail
 go_call (SP.out _) as e w1 ⟨rfl, rfl⟩
 go_wp2_with fail
 go_call (RD.out _) as e w1 ⟨rfl, rfl⟩
 go_wp2_with fail
 go_call (B2.out _) as e w1 ⟨rfl, rfl⟩
 go_wp2_with fail
 rw [HR.out]
 exact ⟨0, HN.out, by rw [errOf_fin (by decide)]; rfl, Below.refl _ _⟩
theorem at_over_true {s : ByteArray} {m : Nat} {p : Int} {tr : Bool} {L : List Nat} {dp : Int} (h : NumIn s true m p tr L dp) {n : Nat} {w : World} (hE : AEnv n w) (hm : m ≠ 0) (hp : 310 < p) :
  Calls Tryz.prog 83 #[.string s] w (AtofPost w s true (FP.dval L dp)) := by
 have SP := az h.spec
 have RD := az h.read
 have H := az h
 have HE := az hE
 have copt := hE.opt
 have hs8 : (s.size : Int) ≤ 800 := by have := h.sz; omega
 have hplo := h.plo
 have hphi := h.phi
 have B2 := fun w => bool64_calls true w
 simp only [if_true] at B2
 have B2 := az B2
 refine byR fun R hR => ?_
 have HR := az hR
 have hfb := fun (x : Int) (w : World) => frombits_run x w
 clear hR h hE
 have em : ((m : Int) == 0) = false := bF
 have tp : decide (310 < p) = true := decide_eq_true hp
 have eor : Go.bits .or .u64 9223372036854775808 9218868437227405312 = 18442240474082181120 := by decide +kernel
 have HN := az (show FP.Near (FP.dval L dp) FP.INF from FP.near_huge (Rat.le_trans (FP.p10_le (show (310 : Int) ≤ p by omega)) (Rat.le_trans (p10_one (show 1 ≤ m by omega)) H.out.lo)))
 clear hm hp
 go_enter Tryz.func83, Tryz.ntmps83
 go_wp2_with fail
 go_call (SP.out _) as e w1 ⟨rfl, rfl⟩
 go_wp2_with fail
 go_call (RD.out _) as e w1 ⟨rfl, rfl⟩
 go_wp2_with fail
 go_call (B2.out _) as e w1 ⟨rfl, rfl⟩
 go_wp2_with fail
 rw [HR.out]
 exact ⟨FP.INF, HN.out, by rw [errOf_inf]; rfl, Below.refl _ _⟩
theorem at_under_true {s : ByteArray} {m : Nat} {p : Int} {tr : Bool} {L : List Nat} {dp : Int} (h : NumIn s true m p tr L dp) {n : Nat} {w : World} (hE : AEnv n w) (hm : m ≠ 0) (hp : p < -345) :
  Calls Tryz.prog 83 #[.string s] w (AtofPost w s true (FP.dval L dp)) := by
 have SP := az h.spec
 have RD := az h.read
 have H := az h
 have HE := az hE
 have copt := hE.opt
 have hs8 : (s.size : Int) ≤ 800 := by have := h.sz; omega
 have hplo := h.plo
 have hphi := h.phi
 have B2 := fun w => bool64_calls true w
 simp only [if_true] at B2
 have B2 := az B2
 refine byR fun R hR => ?_
 have HR := az hR
 have hfb := fun (x : Int) (w : World) => frombits_run x w
 clear hR h hE
 have em : ((m : Int) == 0) = false := bF
 have tp : decide (310 < p) = false := dF
 have tp2 : decide (p < -345) = true := decide_eq_true hp
 have eor : Go.bits .or .u64 9223372036854775808 0 = 9223372036854775808 := by decide +kernel
 have HN := az (show FP.Near (FP.dval L dp) 0 from near_small (Rat.le_trans H.out.hi (Rat.le_trans (p10_m19 H.out.m19) (FP.p10_le (by omega)))))
 clear hm hp
 go_enter Tryz.func83, Tryz.ntmps83
 go_wp2_with fail
 go_call (SP.out _) as e w1 ⟨rfl, rfl⟩
 go_wp2_with fail
 go_call (RD.out _) as e w1 ⟨rfl, rfl⟩
 go_wp2_with fail
 go_call (B2.out _) as e w1 ⟨rfl, rfl⟩
 go_wp2_with fail
 rw [HR.out]
 exact ⟨0, HN.out, by rw [errOf_fin (by decide)]; rfl, Below.refl _ _⟩
theorem at_plain_true {s : ByteArray} {m : Nat} {p : Int} {tr : Bool} {L : List Nat} {dp : Int} (h : NumIn s true m p tr L dp) {n : Nat} {w : World} (hE : AEnv n w) (hm : m ≠ 0) (hp0 : -345 ≤ p) (hp1 : p ≤ 310) (ht : tr = false) :
  Calls Tryz.prog 83 #[.string s] w (AtofPost w s true (FP.dval L dp)) := by
 have SP := az h.spec
 have RD := az h.read
 have H := az h
 have HE := az hE
 have copt := hE.opt
 have hs8 : (s.size : Int) ≤ 800 := by have := h.sz; omega
 have hplo := h.plo
 have hphi := h.phi
 have B2 := fun w => bool64_calls true w
 simp only [if_true] at B2
 have B2 := az B2
 refine byR fun R hR => ?_
 have HR := az hR
 have hfb := fun (x : Int) (w : World) => frombits_run x w
 clear hR h hE
 have em : ((m : Int) == 0) = false := bF
 have tp : decide (310 < p) = false := dF
 have tp2 : decide (p < -345) = false := dF
 have hm19 := H.out.m19
 have PC := fun (d : Nat) (hd0 : 1 ≤ d) (hd1 : d < 2 ^ 64) (w1 : World) (hw : AEnv n w1) => parse_calls d p true w1 hd0 hd1 hp0 hp1 (hw.pow p hp0 hp1) (Nat.lt_of_lt_of_le hw.p0 hw.f.le)
 simp only [show ((FP.wordOf true 0 : Nat) : Int) = 9223372036854775808 from rfl] at PC
 have PC := az PC
 have HM := az (show 1 ≤ m by omega)
 have HM2 := az (show m + 1 < 2 ^ 64 by omega)
 have hm64 : (m : Int) + 1 ≤ 18446744073709551615 := by omega
 obtain ⟨B, O, C, _, hT⟩ := HE.out.tens
 have EX := az (ex_calls_true m hm19 p (by omega) w B O C HE.out.f.mant hT)
 have HX := az (H.out.ex ht)
 subst ht
 clear hm hm19 hp0 hp1 hT
 go_enter Tryz.func83, Tryz.ntmps83
 go_wp2_with fail
 go_call (SP.out _) as e w1 ⟨rfl, rfl⟩
 go_wp2_with fail
 go_call (RD.out _) as e w1 ⟨rfl, rfl⟩
 go_wp2_with fail
 go_call (B2.out _) as e w1 ⟨rfl, rfl⟩
 go_wp2_with fail
 refine EX.out.mono ?_
 rintro e w2 ⟨⟨v, rfl⟩ | ⟨r, h1, h2, rfl⟩, rfl⟩
 ·go_wp2_with fail
  refine (PC.out m HM.out (by have := HM2.out; omega) w2 HE.out).mono ?_
  rintro e w3 ⟨⟨r, h1, rfl⟩, h2⟩
  have H1 := az h1
  have H2 := az h2
  clear h1 h2
  go_wp2_with fail
  rw [HR.out]
  exact ⟨r, by rw [HX.out]; exact H1.out, rfl, H2.out⟩
 ·have H1 := az h1
  have H2 := az h2
  clear h1 h2
  go_wp2_with fail
  rw [HR.out]
  exact ⟨r, by rw [HX.out]; exact H1.out, by rw [errOf_fin H2.out]; rfl, Below.refl _ _⟩
theorem at_trunc_true {s : ByteArray} {m : Nat} {p : Int} {tr : Bool} {L : List Nat} {dp : Int} (h : NumIn s true m p tr L dp) {n : Nat} {w : World} (hE : AEnv n w) (hm : m ≠ 0) (hp0 : -345 ≤ p) (hp1 : p ≤ 310) (ht : tr = true) :
  Calls Tryz.prog 83 #[.string s] w (AtofPost w s true (FP.dval L dp)) := by
 have SP := az h.spec
 have RD := az h.read
 have H := az h
 have HE := az hE
 have copt := hE.opt
 have hs8 : (s.size : Int) ≤ 800 := by have := h.sz; omega
 have hplo := h.plo
 have hphi := h.phi
 have B2 := fun w => bool64_calls true w
 simp only [if_true] at B2
 have B2 := az B2
 refine byR fun R hR => ?_
 have HR := az hR
 have hfb := fun (x : Int) (w : World) => frombits_run x w
 clear hR h hE
 have em : ((m : Int) == 0) = false := bF
 have tp : decide (310 < p) = false := dF
 have tp2 : decide (p < -345) = false := dF
 have hm19 := H.out.m19
 have PC := fun (d : Nat) (hd0 : 1 ≤ d) (hd1 : d < 2 ^ 64) (w1 : World) (hw : AEnv n w1) => parse_calls d p true w1 hd0 hd1 hp0 hp1 (hw.pow p hp0 hp1) (Nat.lt_of_lt_of_le hw.p0 hw.f.le)
 simp only [show ((FP.wordOf true 0 : Nat) : Int) = 9223372036854775808 from rfl] at PC
 have PC := az PC
 have HM := az (show 1 ≤ m by omega)
 have HM2 := az (show m + 1 < 2 ^ 64 by omega)
 have hm64 : (m : Int) + 1 ≤ 18446744073709551615 := by omega
 have HLO := az H.out.lo
 have HHI := az H.out.hi
 subst ht
 clear hm hm19 hp0 hp1
 go_enter Tryz.func83, Tryz.ntmps83
 go_wp2_with fail
 go_call (SP.out _) as e w1 ⟨rfl, rfl⟩
 go_wp2_with fail
 go_call (RD.out _) as e w1 ⟨rfl, rfl⟩
 go_wp2_with fail
 go_call (B2.out _) as e w1 ⟨rfl, rfl⟩
 go_wp2_with fail
 refine (PC.out m HM.out (by have := HM2.out; omega) _ HE.out).mono ?_
 rintro e w3 ⟨⟨r, h1, rfl⟩, h2⟩
 have H1 := az h1
 have H2 := az h2
 have HE2 := az (HE.out.below (h2.mono HE.out.f.le))
 clear h1 h2
 go_wp2_with fail
 refine (PC.out (m + 1) (by omega) HM2.out _ HE2.out).mono ?_
 rintro e w4 ⟨⟨r2, h1, rfl⟩, h2⟩
 have H3 := az h1
 have H4 := az (h2.mono H2.out.size)
 have HE3 := az (HE2.out.below (h2.mono HE2.out.f.le))
 clear h1 h2
 have hord := FP.order_same true H1.out.1 H3.out.1
 change (FloatKind.f64.format.order _ _ == some .eq) = _ at hord
 generalize hr1 : FP.wordOf true r = a1 at hord
 generalize hr2 : FP.wordOf true r2 = a2 at hord
 have HA := az hr1
 have HB := az hr2
 clear hr1 hr2
 by_cases hr : r = r2
 ·rw [decide_eq_true hr] at hord
  have HRR := az hr
  clear hr
  go_wp2_with fail
  rw [HR.out]
  refine ⟨r, ?_, by rw [HA.out]; rfl, H2.out.trans H4.out⟩
  refine H1.out.between (W := ((m + 1 : Nat) : Rat) * FP.p10 p) ?_ HLO.out HHI.out
  rw [HRR.out]; exact H3.out
 ·rw [decide_eq_false hr] at hord
  clear hr
  go_wp2_with fail
  refine (H.out.set _ w4.heap.size (fun _ => 0) (dec_new w4)).mono ?_
  rintro e w5 ⟨rfl, s1, s2⟩
  have hB5 : Below w1.heap.size w1 w5 := (s2.below ((H2.out.trans H4.out).alloc (Nat.le_trans H2.out.size H4.out.size) _) (Nat.le_trans H2.out.size H4.out.size))
  have HB5 := az hB5
  have HE5 := az (HE.out.below (hB5.mono HE.out.f.le))
  have S1 := az s1
  have HG := az (show n ≤ w4.heap.size from HE3.out.f.le)
  clear s1 s2 hB5
  go_wp2_with fail
  refine (fb_calls (g := w4.heap.size) HE5.out.f HG.out (L := L) (dp := dp) (neg := true) H.out.dig H.out.lead ?_).mono ?_
  ·rw [List.take_of_length_le H.out.len, List.drop_of_length_le H.out.len]
   exact S1.out
  ·rintro e w6 ⟨r3, n1, rfl, n2⟩
   have N1 := az n1
   have HB6 := az (n2.below HB5.out (Nat.le_trans H2.out.size H4.out.size))
   clear n1 n2
   generalize hr3 : FP.wordOf true r3 = a3
   have HC := az hr3
   clear hr3
   by_cases hi : r3 = FP.INF
   ·rw [decide_eq_true hi]
    have HI := az hi
    clear hi
    go_wp2_with fail
    rw [HR.out]
    exact ⟨r3, N1.out, by rw [HC.out, HI.out, errOf_inf]; rfl, HB6.out⟩
   ·rw [decide_eq_false hi]
    have HI := az (show r3 < FP.INF by have := N1.out.1; omega)
    clear hi
    go_wp2_with fail
    rw [HR.out]
    exact ⟨r3, N1.out, by rw [HC.out, errOf_fin HI.out]; rfl, HB6.out⟩
theorem at_zero_false {s : ByteArray} {m : Nat} {p : Int} {tr : Bool} {L : List Nat} {dp : Int} (h : NumIn s false m p tr L dp) {n : Nat} {w : World} (hE : AEnv n w) (hm : m = 0) :
  Calls Tryz.prog 83 #[.string s] w (AtofPost w s false (FP.dval L dp)) := by
 have SP := az h.spec
 have RD := az h.read
 have H := az h
 have HE := az hE
 have copt := hE.opt
 have hs8 : (s.size : Int) ≤ 800 := by have := h.sz; omega
 have hplo := h.plo
 have hphi := h.phi
 have B2 := fun w => bool64_calls false w
 simp only [Bool.false_eq_true, if_false] at B2
 have B2 := az B2
 refine byR fun R hR => ?_
 have HR := az hR
 have hfb := fun (x : Int) (w : World) => frombits_run x w
 clear hR h hE
 have em : ((m : Int) == 0) = true := bT
 have eor : Go.bits .or .u64 0 0 = 0 := by decide +kernel
 have HN := az (show FP.Near (FP.dval L dp) 0 by rw [H.out.zero hm]; exact FP.near_zero)
 clear hm
 go_enter Tryz.func83, Tryz.ntmps83
 go_wp2_with fail
 go_call (SP.out _) as e w1 ⟨rfl, rfl⟩
 go_wp2_with fail
 go_call (RD.out _) as e w1 ⟨rfl, rfl⟩
 go_wp2_with fail
 go_call (B2.out _) as e w1 ⟨rfl, rfl⟩
 go_wp2_with fail
 rw [HR.out]
 exact ⟨0, HN.out, by rw [errOf_fin (by decide)]; rfl, Below.refl _ _⟩
theorem at_over_false {s : ByteArray} {m : Nat} {p : Int} {tr : Bool} {L : List Nat} {dp : Int} (h : NumIn s false m p tr L dp) {n : Nat} {w : World} (hE : AEnv n w) (hm : m ≠ 0) (hp : 310 < p) :
  Calls Tryz.prog 83 #[.string s] w (AtofPost w s false (FP.dval L dp)) := by
 have SP := az h.spec
 have RD := az h.read
 have H := az h
 have HE := az hE
 have copt := hE.opt
 have hs8 : (s.size : Int) ≤ 800 := by have := h.sz; omega
 have hplo := h.plo
 have hphi := h.phi
 have B2 := fun w => bool64_calls false w
 simp only [Bool.false_eq_true, if_false] at B2
 have B2 := az B2
 refine byR fun R hR => ?_
 have HR := az hR
 have hfb := fun (x : Int) (w : World) => frombits_run x w
 clear hR h hE
 have em : ((m : Int) == 0) = false := bF
 have tp : decide (310 < p) = true := decide_eq_true hp
 have eor : Go.bits .or .u64 0 9218868437227405312 = 9218868437227405312 := by decide +kernel
 have HN := az (show FP.Near (FP.dval L dp) FP.INF from FP.near_huge (Rat.le_trans (FP.p10_le (show (310 : Int) ≤ p by omega)) (Rat.le_trans (p10_one (show 1 ≤ m by omega)) H.out.lo)))
 clear hm hp
 go_enter Tryz.func83, Tryz.ntmps83
 go_wp2_with fail
 go_call (SP.out _) as e w1 ⟨rfl, rfl⟩
 go_wp2_with fail
 go_call (RD.out _) as e w1 ⟨rfl, rfl⟩
 go_wp2_with fail
 go_call (B2.out _) as e w1 ⟨rfl, rfl⟩
 go_wp2_with fail
 rw [HR.out]
 exact ⟨FP.INF, HN.out, by rw [errOf_inf]; rfl, Below.refl _ _⟩
theorem at_under_false {s : ByteArray} {m : Nat} {p : Int} {tr : Bool} {L : List Nat} {dp : Int} (h : NumIn s false m p tr L dp) {n : Nat} {w : World} (hE : AEnv n w) (hm : m ≠ 0) (hp : p < -345) :
  Calls Tryz.prog 83 #[.string s] w (AtofPost w s false (FP.dval L dp)) := by
 have SP := az h.spec
 have RD := az h.read
 have H := az h
 have HE := az hE
 have copt := hE.opt
 have hs8 : (s.size : Int) ≤ 800 := by have := h.sz; omega
 have hplo := h.plo
 have hphi := h.phi
 have B2 := fun w => bool64_calls false w
 simp only [Bool.false_eq_true, if_false] at B2
 have B2 := az B2
 refine byR fun R hR => ?_
 have HR := az hR
 have hfb := fun (x : Int) (w : World) => frombits_run x w
 clear hR h hE
 have em : ((m : Int) == 0) = false := bF
 have tp : decide (310 < p) = false := dF
 have tp2 : decide (p < -345) = true := decide_eq_true hp
 have eor : Go.bits .or .u64 0 0 = 0 := by decide +kernel
 have HN := az (show FP.Near (FP.dval L dp) 0 from near_small (Rat.le_trans H.out.hi (Rat.le_trans (p10_m19 H.out.m19) (FP.p10_le (by omega)))))
 clear hm hp
 go_enter Tryz.func83, Tryz.ntmps83
 go_wp2_with fail
 go_call (SP.out _) as e w1 ⟨rfl, rfl⟩
 go_wp2_with fail
 go_call (RD.out _) as e w1 ⟨rfl, rfl⟩
 go_wp2_with fail
 go_call (B2.out _) as e w1 ⟨rfl, rfl⟩
 go_wp2_with fail
 rw [HR.out]
 exact ⟨0, HN.out, by rw [errOf_fin (by decide)]; rfl, Below.refl _ _⟩
theorem at_plain_false {s : ByteArray} {m : Nat} {p : Int} {tr : Bool} {L : List Nat} {dp : Int} (h : NumIn s false m p tr L dp) {n : Nat} {w : World} (hE : AEnv n w) (hm : m ≠ 0) (hp0 : -345 ≤ p) (hp1 : p ≤ 310) (ht : tr = false) :
  Calls Tryz.prog 83 #[.string s] w (AtofPost w s false (FP.dval L dp)) := by
 have SP := az h.spec
 have RD := az h.read
 have H := az h
 have HE := az hE
 have copt := hE.opt
 have hs8 : (s.size : Int) ≤ 800 := by have := h.sz; omega
 have hplo := h.plo
 have hphi := h.phi
 have B2 := fun w => bool64_calls false w
 simp only [Bool.false_eq_true, if_false] at B2
 have B2 := az B2
 refine byR fun R hR => ?_
 have HR := az hR
 have hfb := fun (x : Int) (w : World) => frombits_run x w
 clear hR h hE
 have em : ((m : Int) == 0) = false := bF
 have tp : decide (310 < p) = false := dF
 have tp2 : decide (p < -345) = false := dF
 have hm19 := H.out.m19
 have PC := fun (d : Nat) (hd0 : 1 ≤ d) (hd1 : d < 2 ^ 64) (w1 : World) (hw : AEnv n w1) => parse_calls d p false w1 hd0 hd1 hp0 hp1 (hw.pow p hp0 hp1) (Nat.lt_of_lt_of_le hw.p0 hw.f.le)
 simp only [show ((FP.wordOf false 0 : Nat) : Int) = 0 from rfl] at PC
 have PC := az PC
 have HM := az (show 1 ≤ m by omega)
 have HM2 := az (show m + 1 < 2 ^ 64 by omega)
 have hm64 : (m : Int) + 1 ≤ 18446744073709551615 := by omega
 obtain ⟨B, O, C, _, hT⟩ := HE.out.tens
 have EX := az (ex_calls_false m hm19 p (by omega) w B O C HE.out.f.mant hT)
 have HX := az (H.out.ex ht)
 subst ht
 clear hm hm19 hp0 hp1 hT
 go_enter Tryz.func83, Tryz.ntmps83
 go_wp2_with fail
 go_call (SP.out _) as e w1 ⟨rfl, rfl⟩
 go_wp2_with fail
 go_call (RD.out _) as e w1 ⟨rfl, rfl⟩
 go_wp2_with fail
 go_call (B2.out _) as e w1 ⟨rfl, rfl⟩
 go_wp2_with fail
 refine EX.out.mono ?_
 rintro e w2 ⟨⟨v, rfl⟩ | ⟨r, h1, h2, rfl⟩, rfl⟩
 ·go_wp2_with fail
  refine (PC.out m HM.out (by have := HM2.out; omega) w2 HE.out).mono ?_
  rintro e w3 ⟨⟨r, h1, rfl⟩, h2⟩
  have H1 := az h1
  have H2 := az h2
  clear h1 h2
  go_wp2_with fail
  rw [HR.out]
  exact ⟨r, by rw [HX.out]; exact H1.out, rfl, H2.out⟩
 ·have H1 := az h1
  have H2 := az h2
  clear h1 h2
  go_wp2_with fail
  rw [HR.out]
  exact ⟨r, by rw [HX.out]; exact H1.out, by rw [errOf_fin H2.out]; rfl, Below.refl _ _⟩
theorem at_trunc_false {s : ByteArray} {m : Nat} {p : Int} {tr : Bool} {L : List Nat} {dp : Int} (h : NumIn s false m p tr L dp) {n : Nat} {w : World} (hE : AEnv n w) (hm : m ≠ 0) (hp0 : -345 ≤ p) (hp1 : p ≤ 310) (ht : tr = true) :
  Calls Tryz.prog 83 #[.string s] w (AtofPost w s false (FP.dval L dp)) := by
 have SP := az h.spec
 have RD := az h.read
 have H := az h
 have HE := az hE
 have copt := hE.opt
 have hs8 : (s.size : Int) ≤ 800 := by have := h.sz; omega
 have hplo := h.plo
 have hphi := h.phi
 have B2 := fun w => bool64_calls false w
 simp only [Bool.false_eq_true, if_false] at B2
 have B2 := az B2
 refine byR fun R hR => ?_
 have HR := az hR
 have hfb := fun (x : Int) (w : World) => frombits_run x w
 clear hR h hE
 have em : ((m : Int) == 0) = false := bF
 have tp : decide (310 < p) = false := dF
 have tp2 : decide (p < -345) = false := dF
 have hm19 := H.out.m19
 have PC := fun (d : Nat) (hd0 : 1 ≤ d) (hd1 : d < 2 ^ 64) (w1 : World) (hw : AEnv n w1) => parse_calls d p false w1 hd0 hd1 hp0 hp1 (hw.pow p hp0 hp1) (Nat.lt_of_lt_of_le hw.p0 hw.f.le)
 simp only [show ((FP.wordOf false 0 : Nat) : Int) = 0 from rfl] at PC
 have PC := az PC
 have HM := az (show 1 ≤ m by omega)
 have HM2 := az (show m + 1 < 2 ^ 64 by omega)
 have hm64 : (m : Int) + 1 ≤ 18446744073709551615 := by omega
 have HLO := az H.out.lo
 have HHI := az H.out.hi
 subst ht
 clear hm hm19 hp0 hp1
 go_enter Tryz.func83, Tryz.ntmps83
 go_wp2_with fail
 go_call (SP.out _) as e w1 ⟨rfl, rfl⟩
 go_wp2_with fail
 go_call (RD.out _) as e w1 ⟨rfl, rfl⟩
 go_wp2_with fail
 go_call (B2.out _) as e w1 ⟨rfl, rfl⟩
 go_wp2_with fail
 refine (PC.out m HM.out (by have := HM2.out; omega) _ HE.out).mono ?_
 rintro e w3 ⟨⟨r, h1, rfl⟩, h2⟩
 have H1 := az h1
 have H2 := az h2
 have HE2 := az (HE.out.below (h2.mono HE.out.f.le))
 clear h1 h2
 go_wp2_with fail
 refine (PC.out (m + 1) (by omega) HM2.out _ HE2.out).mono ?_
 rintro e w4 ⟨⟨r2, h1, rfl⟩, h2⟩
 have H3 := az h1
 have H4 := az (h2.mono H2.out.size)
 have HE3 := az (HE2.out.below (h2.mono HE2.out.f.le))
 clear h1 h2
 have hord := FP.order_same false H1.out.1 H3.out.1
 change (FloatKind.f64.format.order _ _ == some .eq) = _ at hord
 generalize hr1 : FP.wordOf false r = a1 at hord
 generalize hr2 : FP.wordOf false r2 = a2 at hord
 have HA := az hr1
 have HB := az hr2
 clear hr1 hr2
 by_cases hr : r = r2
 ·rw [decide_eq_true hr] at hord
  have HRR := az hr
  clear hr
  go_wp2_with fail
  rw [HR.out]
  refine ⟨r, ?_, by rw [HA.out]; rfl, H2.out.trans H4.out⟩
  refine H1.out.between (W := ((m + 1 : Nat) : Rat) * FP.p10 p) ?_ HLO.out HHI.out
  rw [HRR.out]; exact H3.out
 ·rw [decide_eq_false hr] at hord
  clear hr
  go_wp2_with fail
  refine (H.out.set _ w4.heap.size (fun _ => 0) (dec_new w4)).mono ?_
  rintro e w5 ⟨rfl, s1, s2⟩
  have hB5 : Below w1.heap.size w1 w5 := (s2.below ((H2.out.trans H4.out).alloc (Nat.le_trans H2.out.size H4.out.size) _) (Nat.le_trans H2.out.size H4.out.size))
  have HB5 := az hB5
  have HE5 := az (HE.out.below (hB5.mono HE.out.f.le))
  have S1 := az s1
  have HG := az (show n ≤ w4.heap.size from HE3.out.f.le)
  clear s1 s2 hB5
  go_wp2_with fail
  refine (fb_calls (g := w4.heap.size) HE5.out.f HG.out (L := L) (dp := dp) (neg := false) H.out.dig H.out.lead ?_).mono ?_
  ·rw [List.take_of_length_le H.out.len, List.drop_of_length_le H.out.len]
   exact S1.out
  ·rintro e w6 ⟨r3, n1, rfl, n2⟩
   have N1 := az n1
   have HB6 := az (n2.below HB5.out (Nat.le_trans H2.out.size H4.out.size))
   clear n1 n2
   generalize hr3 : FP.wordOf false r3 = a3
   have HC := az hr3
   clear hr3
   by_cases hi : r3 = FP.INF
   ·rw [decide_eq_true hi]
    have HI := az hi
    clear hi
    go_wp2_with fail
    rw [HR.out]
    exact ⟨r3, N1.out, by rw [HC.out, HI.out, errOf_inf]; rfl, HB6.out⟩
   ·rw [decide_eq_false hi]
    have HI := az (show r3 < FP.INF by have := N1.out.1; omega)
    clear hi
    go_wp2_with fail
    rw [HR.out]
    exact ⟨r3, N1.out, by rw [HC.out, errOf_fin HI.out]; rfl, HB6.out⟩
theorem atof_calls {s : ByteArray} {neg : Bool} {m : Nat} {p : Int} {tr : Bool} {L : List Nat} {dp : Int} (h : NumIn s neg m p tr L dp) {n : Nat} {w : World} (hE : AEnv n w) :
  Calls Tryz.prog 83 #[.string s] w (AtofPost w s neg (FP.dval L dp)) := by
 by_cases hm : m = 0
 ·cases neg with
  | true => exact at_zero_true h hE hm
  | false => exact at_zero_false h hE hm
 by_cases h1 : 310 < p
 ·cases neg with
  | true => exact at_over_true h hE hm h1
  | false => exact at_over_false h hE hm h1
 by_cases h2 : p < -345
 ·cases neg with
  | true => exact at_under_true h hE hm h2
  | false => exact at_under_false h hE hm h2
 cases tr with
 | true =>
  cases neg with
  | true => exact at_trunc_true h hE hm (by omega) (by omega) rfl
  | false => exact at_trunc_false h hE hm (by omega) (by omega) rfl
 | false =>
  cases neg with
  | true => exact at_plain_true h hE hm (by omega) (by omega) rfl
  | false => exact at_plain_false h hE hm (by omega) (by omega) rfl
end Go.Proofs.YtbimfhaokgigkaaGreatDoor
