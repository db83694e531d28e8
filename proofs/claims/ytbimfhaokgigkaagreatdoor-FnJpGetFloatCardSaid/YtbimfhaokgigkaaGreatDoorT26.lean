/- Walks of functions of FnJpGetFloat (X3, X4); conditions stand ahead of each theorem. -/
import Derived.Test.YtbimfhaokgigkaaGreatDoorT25
import Derived.IntWalk
set_option maxRecDepth 100000
set_option maxHeartbeats 4000000
namespace Go.Proofs.YtbimfhaokgigkaaGreatDoor
open Go.RowKit Go.Proofs.YtbimfhaokgigkaaGreatDoorW.PrintWords Go.Proofs.YtbimfhaokgigkaaGreatDoorW.PrintLast
namespace JS
theorem BC.inv {s : ByteArray} {o c hi E n i L : Nat} (h : BC s o c hi E n i L) : i < hi ∧
  ((bn s i = c ∧ i + 1 = E ∧ L = 1 ∧ n = 0) ∨ ∃ m, n = m + 1 ∧ ((Neu o c (bn s i) ∧ BC s o c hi E m (i + 1) L) ∨ (∃ e, Str s i e ∧ e ≤ hi ∧ BC s o c hi E m e L) ∨ (bn s i = o ∧ BC s o c hi E m (i + 1) (L + 1)) ∨ ∃ L', L = L' + 1 ∧ bn s i = c ∧ 1 ≤ L' ∧ BC s o c hi E m (i + 1) L')) := by
 cases h with
 | fin i h1 h2 h3 => exact ⟨h1, .inl ⟨h2, h3, rfl, rfl⟩⟩
 | one n i L h1 h2 h3 => exact ⟨h1, .inr ⟨n, rfl, .inl ⟨h2, h3⟩⟩⟩
 | str n i e L h1 h2 h3 => exact ⟨by have := h1.2.1; omega, .inr ⟨n, rfl, .inr (.inl ⟨e, h1, h2, h3⟩)⟩⟩
 | opn n i L h1 h2 h3 => exact ⟨h1, .inr ⟨n, rfl, .inr (.inr (.inl ⟨h2, h3⟩))⟩⟩
 | cls n i L h1 h2 h3 h4 => exact ⟨h1, .inr ⟨n, rfl, .inr (.inr (.inr ⟨L, rfl, h2, h3, h4⟩))⟩⟩
theorem below1 {w w' : World} (o : Obj) (h : Below (w.heap.size + 1) (w.alloc o) w') : Below w.heap.size w w' :=
 (((Below.refl w.heap.size w).alloc (Nat.le_refl _) o)).trans (h.mono (Nat.le_succ _))
theorem box_at {w w' : World} {cs : Array Value} {t : TypeId} (h : Below (w.heap.size + 1) (w.alloc (.cells cs t)) w') : w'.heap[w.heap.size]? = some (.cells cs t (0, 0)) :=
 (h.block _ (Nat.lt_succ_self _)).trans (heap_alloc_new w _)
theorem blockEnd_calls {w : World} {s : ByteArray} {lo n cp o c E m0 : Nat} {A : Option Addr} (h : Dat w s lo n A) (hn : n ≤ cp) (hp : Pair o c) (hbc : BC s o c (lo + n) E m0 lo 0) :
  Calls Tryz.prog 67 #[.agg #[.bool false, .bool false, .int .i64 0], .slice A n cp, .int .u8 o, .int .u8 c] w (NumPost w ((E - lo : Nat) : Int)) := by
 refine byR fun R hR => ?_
 have HR := az hR
 have hsz : (n : Int) ≤ 65536 := by have := h.1; have := h.2.1; omega
 have HX := az3 hbc hp hn
 have HD := az (h.alloc (.cells #[.bool false, .bool false, .int .i64 0] 93))
 have HC : Aside0 (∀ (W : World) (j d : Nat) (A' : Option Addr), Dat W s (lo + (j + 1)) (n - (j + 1)) A' → j + 1 + d < n → bn s (lo + (j + 1) + d) = 34 → Inner s (lo + (j + 1)) (lo + (j + 1) + d) →
   Calls Tryz.prog 64 #[.agg #[.bool false, .bool false, .int .i64 0], .slice A' (n - (j + 1)) (cp - (j + 1)), .int .u8 34] W (SePost W s (lo + (j + 1)) d)) :=
  ⟨fun W j d A' h1 h2 h3 h4 => strEnd_calls h1 (by omega) (by omega) h3 h4⟩
 clear hR h hn hp hbc
 go_enter Tryz.func67, Tryz.ntmps67
 go_wp2_with fail
 go_loopg [9, 10] m0 (fun q v9 v10 w' => ∃ j L : Nat, v9 = .int .i64 (L : Int) ∧ v10 = .int .i64 (j : Int) ∧ Aside0 (BC s o c (lo + n) E q (lo + j) L ∧ L ≤ j) ∧ Aside0 (Below (w.heap.size + 1) (w.alloc (.cells #[.bool false, .bool false, .int .i64 0] 93)) w'))
 case atStart => exact ⟨0, 0, rfl, rfl, ⟨HX.out.1, Nat.le_refl _⟩, ⟨Below.refl _ _⟩⟩
 case round =>
  obtain ⟨j0, L, rfl, rfl, hj0, hw⟩ := hrel
  have hj0n : j0 < n := by have := hj0.out.1.inv.1; omega
  have hL : (L : Int) ≤ 65536 := by have := hj0.out.2; omega
  obtain ⟨q0, rfl⟩ : ∃ q0 : Nat, q0 = gk := ⟨_, rfl⟩
  obtain ⟨wo, rfl⟩ : ∃ wo : World, wo = wr := ⟨_, rfl⟩
  go_wp2_with fail
  go_loopg [10] q0 (fun q v10 w' => ∃ j : Nat, v10 = .int .i64 (j : Int) ∧ Aside0 (BC s o c (lo + n) E q (lo + j) L ∧ q ≤ q0 ∧ L ≤ j) ∧ Aside0 (w' = wo))
  case atStart => exact ⟨j0, rfl, ⟨⟨hj0.out.1, Nat.le_refl _, hj0.out.2⟩⟩, ⟨rfl⟩⟩
  case round =>
   obtain ⟨j, rfl, hj, hwr⟩ := hrel
   have e := hwr.out
   subst e
   obtain ⟨hi1, hinv⟩ := hj.out.1.inv
   have hjn : j < n := by omega
   have hjn6 : (j : Int) < (n : Int) := by omega
   have hjg : ¬ n ≤ j := by omega
   obtain ⟨g, o1, rfl, hg, hc⟩ := (HD.out.below (hw.out.mono (by simp))).2.2 (show 0 < n by omega)
   have hcj := hc j hjn
   obtain ⟨c0, hc0⟩ : ∃ c0, c0 = bn s (lo + j) := ⟨_, rfl⟩
   rw [← hc0] at hcj hinv
   have H0 := az hc0
   have HP := az HX.out.2.1
   clear hc0 hc hg hj0n hi1
   rcases hinv with ⟨h1, h2, h3, h4⟩ | ⟨m, rfl, ⟨h1, h2⟩ | ⟨e, h1, h2, h3⟩ | ⟨h1, h2⟩ | ⟨L', rfl, h1, h2, h3⟩⟩
   ·
    have HH := az2 h2 h4
    subst h3
    subst h1
    have hcn : c0 = 93 ∨ c0 = 125 := by rcases HP.out with ⟨_, e⟩ | ⟨_, e⟩ <;> omega
    have hon : o = 91 ∨ o = 123 := by rcases HP.out with ⟨e, _⟩ | ⟨e, _⟩ <;> omega
    clear h2 h4
    have t1 : decide ((c0 : Int) ≤ 32) = false := dF
    have t1n : decide (c0 ≤ 32) = false := dF
    have t2 : decide ((92 : Int) < (c0 : Int)) = true := dT
    have t2n : decide (92 < c0) = true := dT
    have t3 : ((c0 : Int) != (o : Int)) = true := bneT
    have t3n : (c0 != o) = true := bneTn
    have t4 : ((c0 : Int) == 34) = false := beqF
    have t4n : (c0 == 34) = false := beqFn
    have t5 : ((c0 : Int) == 39) = false := beqF
    have t5n : (c0 == 39) = false := beqFn
    have t6 : ((c0 : Int) == (o : Int)) = false := beqF
    have t6n : (c0 == o) = false := beqFn
    clear hcn hon
    go_wp2_with fail
    rw [HR.out]
    exact ⟨by rw [← HH.out.1]; congr 2; omega, below1 _ hw.out⟩
   ·
    obtain ⟨n34, no, nc⟩ := h1
    have HH := az2 h2 hj.out.2
    clear h2
    have t3 : ((c0 : Int) != (o : Int)) = true := bneT
    have t3n : (c0 != o) = true := bneTn
    have t4 : ((c0 : Int) != (c : Int)) = true := bneT
    have t4n : (c0 != c) = true := bneTn
    have t5 : ((c0 : Int) == 34) = false := beqF
    have t5n : (c0 == 34) = false := beqFn
    have t6 : ((c0 : Int) == (o : Int)) = false := beqF
    have t6n : (c0 == o) = false := beqFn
    have t7 : ((c0 : Int) == (c : Int)) = false := beqF
    have t7n : (c0 == c) = false := beqFn
    by_cases h32 : c0 ≤ 32
    ·have t1 : decide ((c0 : Int) ≤ 32) = true := dT
     have t1n : decide (c0 ≤ 32) = true := decide_eq_true h32
     clear h32 n34 no nc
     go_wp2_with fail
     go_roundg m
     case measure => omega
     case rel => exact ⟨j + 1, by go_num, ⟨⟨HH.out.1, by have := HH.out.2; omega, by have := HH.out.2; omega⟩⟩, ⟨rfl⟩⟩
    ·have t1 : decide ((c0 : Int) ≤ 32) = false := dF
     have t1n : decide (c0 ≤ 32) = false := decide_eq_false h32
     by_cases h92 : 92 < c0
     ·have t2 : decide ((92 : Int) < (c0 : Int)) = true := dT
      have t2n : decide (92 < c0) = true := decide_eq_true h92
      clear h32 h92 n34 no nc
      go_wp2_with fail
      go_roundg m
      case measure => omega
      case rel => exact ⟨j + 1, by go_num, ⟨⟨HH.out.1, by have := HH.out.2; omega, by have := HH.out.2; omega⟩⟩, ⟨rfl⟩⟩
     ·have t2 : decide ((92 : Int) < (c0 : Int)) = false := dF
      have t2n : decide (92 < c0) = false := decide_eq_false h92
      clear h32 h92 n34 no nc
      by_cases h39 : c0 = 39
      ·have hb := box_at hw.out
       have hb0 := (blk_cell hb 0).trans rfl
       subst h39
       clear hb
       go_wp2_with fail
       go_roundg m
       case measure => have := HH.out.2; omega
       case rel => exact ⟨j + 1, L, rfl, by go_num, ⟨⟨HH.out.1, by have := HH.out.2; omega⟩⟩, hw⟩
      ·have t8 : ((c0 : Int) == 39) = false := beqF
       have t8n : (c0 == 39) = false := beqFn h39
       clear h39
       go_wp2_with fail
       go_roundg m
       case measure => have := HH.out.2; omega
       case rel => exact ⟨j + 1, L, rfl, by go_num, ⟨⟨HH.out.1, by have := HH.out.2; omega⟩⟩, hw⟩
   ·
    obtain ⟨x1, x2, x3, x4, x5⟩ := h1
    obtain rfl : c0 = 34 := H0.out.trans x1
    obtain ⟨d, rfl⟩ : ∃ d, e = lo + (j + 1) + d + 1 := ⟨e - (lo + (j + 1) + 1), by omega⟩
    have hb := box_at hw.out
    have hb0 := (blk_cell hb 0).trans rfl
    have hb1 := (blk_cell hb 1).trans rfl
    have hb2 := (blk_cell hb 2).trans rfl
    have HDr := az ((HD.out.below (hw.out.mono (by simp))).cutS (k := j + 1) (by omega))
    have hcp : ¬ cp = j + 1 := by have := HX.out.2.2; omega
    have hcp1 : (j : Int) + 1 ≤ (cp : Int) := by have := HX.out.2.2; omega
    have hnc : (n : Int) ≤ (cp : Int) := by have := HX.out.2.2; omega
    have hj1 : (j : Int) + 1 ≤ (n : Int) := by omega
    have hd6 : (d : Int) ≤ 65536 := by omega
    have HS := az5 (show j + 1 + d < n by omega) (show bn s (lo + (j + 1) + d) = 34 from x4) (show Inner s (lo + (j + 1)) (lo + (j + 1) + d) from x5) h3 hj.out.2
    clear hb x1 x2 x3 x4 x5 h2 h3
    go_wp2_with fail
    have s1 : IntKind.i64.wrap ((j : Int) + 1) = (j : Int) + 1 := IntWalk.i64_in _ (by omega)
    have s2 : 0 ≤ (j : Int) + 1 := by omega
    have s3 : ((j : Int) + 1).toNat = j + 1 := by omega
    go_region_with (go_at_call 64; refine Calls.mono (HC.out _ j d _ ?_ HS.out.1 HS.out.2.1 HS.out.2.2.1) ?_; exact HDr.out; rintro e w1 ⟨b1, rfl, hb1, hbl⟩; have HB1 := az hbl; clear hb1 hbl)
    all_goals
     go_wp2_with fail
     go_roundg m
     case measure => have := HS.out.2.2.2.2; omega
     case rel => exact ⟨j + d + 2, L, rfl, by go_num, ⟨⟨by rw [show lo + (j + d + 2) = lo + (j + 1) + d + 1 by omega]; exact HS.out.2.2.2.1, by have := HS.out.2.2.2.2.2; omega⟩⟩, ⟨hw.out.trans (undrew (HB1.out.mono (Nat.le_trans (by simp) hw.out.size)))⟩⟩
   ·
    have HH := az2 h2 hj.out.2
    clear h2
    obtain rfl := h1
    have hon : c0 = 91 ∨ c0 = 123 := by rcases HP.out with ⟨e, _⟩ | ⟨e, _⟩ <;> omega
    have t1 : decide ((c0 : Int) ≤ 32) = false := dF
    have t1n : decide (c0 ≤ 32) = false := dF
    have t4 : ((c0 : Int) == 34) = false := beqF
    have t4n : (c0 == 34) = false := beqFn
    have t5 : ((c0 : Int) == 39) = false := beqF
    have t5n : (c0 == 39) = false := beqFn
    have t6 : ((c0 : Int) != (c0 : Int)) = false := by simp
    by_cases h92 : 92 < c0
    all_goals
     have t2 : decide ((92 : Int) < (c0 : Int)) = decide (92 < c0) := by rw [decide_eq_decide]; omega
     simp only [h92, decide_true, decide_false] at t2
     clear hon
     go_wp2_with fail
     go_roundg m
     case measure => have := HH.out.2; omega
     case rel => exact ⟨j + 1, L + 1, by go_num, by go_num, ⟨⟨HH.out.1, by have := HH.out.2; omega⟩⟩, hw⟩
   ·
    have HH := az2 h3 hj.out.2
    obtain rfl := h1
    have hcn : c0 = 93 ∨ c0 = 125 := by rcases HP.out with ⟨_, e⟩ | ⟨_, e⟩ <;> omega
    have hon : o = 91 ∨ o = 123 := by rcases HP.out with ⟨e, _⟩ | ⟨e, _⟩ <;> omega
    have t0 : ((L' : Int) == 0) = false := beqF
    have t0n : (L' == 0) = false := beqFn
    have t1 : decide ((c0 : Int) ≤ 32) = false := dF
    have t1n : decide (c0 ≤ 32) = false := dF
    have t2 : decide ((92 : Int) < (c0 : Int)) = true := dT
    have t2n : decide (92 < c0) = true := dT
    have t3 : ((c0 : Int) != (o : Int)) = true := bneT
    have t3n : (c0 != o) = true := bneTn
    have t4 : ((c0 : Int) == 34) = false := beqF
    have t4n : (c0 == 34) = false := beqFn
    have t5 : ((c0 : Int) == 39) = false := beqF
    have t5n : (c0 == 39) = false := beqFn
    have t6 : ((c0 : Int) == (o : Int)) = false := beqF
    have t6n : (c0 == o) = false := beqFn
    clear hcn hon h2 h3
    go_wp2_with fail
    go_roundg m
    case measure => have := HH.out.2; omega
    case rel => exact ⟨j + 1, L', by go_num, by go_num, ⟨⟨HH.out.1, by have := HH.out.2; omega⟩⟩, hw⟩
theorem res4 {fn : Func} {t u v x : Tmp} (h : fn.results = #[.tmp t, .tmp u, .tmp v, .tmp x]) (tmps : Array Value) (P : Program) (w : World) :
  (results fn tmps).run P w = .ok (.tuple #[tmps.getD t undef, tmps.getD u undef, tmps.getD v undef, tmps.getD x undef]) w := by simp [results, h]
theorem res5 {fn : Func} {t u v x y : Tmp} (h : fn.results = #[.tmp t, .tmp u, .tmp v, .tmp x, .tmp y]) (tmps : Array Value) (P : Program) (w : World) :
  (results fn tmps).run P w = .ok (.tuple #[tmps.getD t undef, tmps.getD u undef, tmps.getD v undef, tmps.getD x undef, tmps.getD y undef]) w := by simp [results, h]
def jk (k : Nat) : Nat := if k = 0 then 6 else if k ≤ 2 then 5 else if k = 3 then 2 else if k = 4 then 1 else if k = 5 then 4 else 3
def DelimIn (s : ByteArray) (hi e : Nat) : Prop := e < hi → dlm (bn s e)
def TyPost (w : World) (s : ByteArray) (lo b e k : Nat) (x : Ending) (w' : World) : Prop :=
 ∃ (A : Option Addr) (c : Nat), x = .returned (.tuple #[.slice A (e - b) c, .int .i64 (jk k : Int), .int .i64 ((e - lo : Nat) : Int), .nilIface]) ∧ Dat w' s b (e - b) A ∧ e - b ≤ c ∧ Below w.heap.size w w'
theorem ty_fin {w W w1 : World} {s : ByteArray} {lo n cp p L g o k e : Nat} {E K : Int} {ob : Obj} (hW : W = w.alloc ob) (hD : Dat W s lo n (some ⟨g, o, none⟩)) (hb : Below W.heap.size W w1) (hn : n ≤ cp) (he : e ≤ lo + n) (hp : lo + p < e) (hl : L = e - (lo + p)) (hE : E = ((e - lo : Nat) : Int)) (hK : K = (jk k : Int)) :
  TyPost w s lo (lo + p) e k (.returned (.tuple #[.slice (some ⟨g, o + p, none⟩) L (cp - p), .int .i64 K, .int .i64 E, .nilIface])) w1 := by
 subst hW hl hE hK
 exact ⟨_, _, rfl, ((hD.below hb).cutS (by omega)).front (by omega), by omega, below1 _ (hb.mono (by simp))⟩
theorem getType_str {w : World} {s : ByteArray} {lo n cp p e : Nat} {A : Option Addr} (h : Dat w s lo n A) (hn : n ≤ cp) (he : e ≤ lo + n) (hs : Str s (lo + p) e) :
  Calls Tryz.prog 60 #[.agg #[.bool false, .bool false, .int .i64 0], .slice A n cp, .int .i64 (p : Int)] w (TyPost w s lo (lo + p) e 4) := by
 refine byR fun R hR => ?_
 have HR := az hR
 have hsz : (n : Int) ≤ 65536 := by have := h.1; have := h.2.1; omega
 obtain ⟨x1, x2, x3, x4, x5⟩ := hs
 obtain ⟨d, rfl⟩ : ∃ d, e = lo + (p + 1) + d + 1 := ⟨e - (lo + (p + 1) + 1), by omega⟩
 have hpn : p < n := by omega
 have hpn6 : (p : Int) < (n : Int) := by omega
 have hD := h.alloc (.cells #[.bool false, .bool false, .int .i64 0] 93)
 obtain ⟨g, o, rfl, hc⟩ := hD.at_ hpn
 rw [x1] at hc
 have HDc := az2 hD (hD.cutS (k := p + 1) (by omega))
 have HS := az4 (show d < n - (p + 1) by omega) (show bn s (lo + (p + 1) + d) = 34 from x4) (show Inner s (lo + (p + 1)) (lo + (p + 1) + d) from x5) hn
 have hcp : ¬ cp = p + 1 := by omega
 have hcp1 : (p : Int) + 1 ≤ (cp : Int) := by omega
 have hnc : (n : Int) ≤ (cp : Int) := by omega
 have hj1 : (p : Int) + 1 ≤ (n : Int) := by omega
 have hd6 : (d : Int) ≤ 65536 := by omega
 have hd7 : (p : Int) + ((d : Int) + 1 + 1) ≤ (n : Int) := by omega
 clear hR h hn he x1 x2 x3 x4 x5 hD
 go_enter Tryz.func60, Tryz.ntmps60
 go_wp2_with fail
 have s1 : IntKind.i64.wrap ((p : Int) + 1) = (p : Int) + 1 := IntWalk.i64_in _ (by omega)
 have s2 : 0 ≤ (p : Int) + 1 := by omega
 have s3 : ((p : Int) + 1).toNat = p + 1 := by omega
 go_region_with (go_at_call 64; refine Calls.mono (strEnd_calls (d := d) HDc.out.2 ?_ HS.out.1 HS.out.2.1 HS.out.2.2.1) ?_; (have := HS.out.2.2.2; omega); rintro e w1 ⟨b1, rfl, hb1, hbl⟩; have HB1 := az hbl; clear hb1 hbl)
 all_goals
  go_wp2_with fail
  refine bodyPost_ret (res4 rfl _ _ _) rfl ?_
  rw [HR.out]
  exact ty_fin (g := g) (o := o) rfl HDc.out.1 (undrew HB1.out) HS.out.2.2.2 (by omega) (by omega) (by omega) (by omega) rfl
theorem getType_blk {w : World} {s : ByteArray} {lo n cp p : Nat} {A : Option Addr} {t : JT} (h : Dat w s lo n A) (hn : n ≤ cp) (hv : V s t) (hk : t.kind = 5 ∨ t.kind = 6) (hb : t.b = lo + p) (he : t.e ≤ lo + n) :
  Calls Tryz.prog 60 #[.agg #[.bool false, .bool false, .int .i64 0], .slice A n cp, .int .i64 (p : Int)] w (TyPost w s lo (lo + p) t.e t.kind) := by
 refine byR fun R hR => ?_
 have HR := az hR
 have hsz : (n : Int) ≤ 65536 := by have := h.1; have := h.2.1; omega
 have hle := V.le hv
 rw [hb] at hle
 have hpn : p < n := by omega
 obtain ⟨oc, cc, x1, m, x2, hoc⟩ : ∃ oc cc : Nat, bn s t.b = oc ∧ ∃ m, BC s oc cc (lo + p + (n - p)) t.e m t.b 0 ∧ ((oc = 91 ∧ cc = 93 ∧ 5 = t.kind) ∨ (oc = 123 ∧ cc = 125 ∧ 6 = t.kind)) := by
  rcases hk with hk | hk
  ·obtain ⟨x1, m, x2⟩ := V.arrBlock (hi := lo + p + (n - p)) hv hk (by omega)
   exact ⟨91, 93, x1, m, x2, .inl ⟨rfl, rfl, hk.symm⟩⟩
  ·obtain ⟨x1, m, x2⟩ := V.objBlock (hi := lo + p + (n - p)) hv hk (by omega)
   exact ⟨123, 125, x1, m, x2, .inr ⟨rfl, rfl, hk.symm⟩⟩
 rw [hb] at x1 x2
 have hpn6 : (p : Int) < (n : Int) := by omega
 have hD := h.alloc (.cells #[.bool false, .bool false, .int .i64 0] 93)
 obtain ⟨g, o, rfl, hc⟩ := hD.at_ hpn
 rw [x1] at hc
 have HDc := az2 hD (hD.cutS (k := p) hpn)
 have HS := az4 x2 hle he hn
 have hcp : ¬ cp = p := by omega
 have hcp1 : (p : Int) ≤ (cp : Int) := by omega
 have hnc : (n : Int) ≤ (cp : Int) := by omega
 have hj1 : (p : Int) ≤ (n : Int) := by omega
 obtain ⟨E, hE⟩ : ∃ E : Nat, E = t.e - (lo + p) := ⟨_, rfl⟩
 have hd6 : (E : Int) ≤ 65536 := by omega
 have hd7 : (E : Int) + (p : Int) ≤ (n : Int) := by omega
 have HE := az hE
 have HC : Aside0 (∀ W : World, Dat W s (lo + p) (n - p) (some ⟨g, o + p, none⟩) → Calls Tryz.prog 67 #[.agg #[.bool false, .bool false, .int .i64 0], .slice (some ⟨g, o + p, none⟩) (n - p) (cp - p), .int .u8 oc, .int .u8 cc] W (NumPost W (E : Int))) := ⟨fun W hW => hE ▸ blockEnd_calls hW (by omega) (by rcases hoc with ⟨a, b, _⟩ | ⟨a, b, _⟩; exact .inl ⟨a, b⟩; exact .inr ⟨a, b⟩) x2⟩
 obtain ⟨kk, hkk⟩ : ∃ kk, kk = t.kind := ⟨_, rfl⟩
 rw [← hkk] at hoc HR
 clear hR h hn he x1 x2 hD hE hle hb hk hv hkk
 rcases hoc with ⟨rfl, rfl, rfl⟩ | ⟨rfl, rfl, rfl⟩
 all_goals
  go_enter Tryz.func60, Tryz.ntmps60
  go_wp2_with fail
  go_region_with (go_at_call 67; refine Calls.mono (HC.out _ ?_) ?_; exact HDc.out.2; rintro e w1 ⟨rfl, hbl⟩; have HB1 := az hbl; clear hbl)
  all_goals
   go_wp2_with fail
   refine bodyPost_ret (res4 rfl _ _ _) rfl ?_
   rw [HR.out]
   obtain ⟨q1, q2, q3, q4⟩ := HS.out
   have q5 := HE.out
   exact ty_fin (g := g) (o := o) rfl HDc.out.1 (undrew HB1.out) q4 q3 (by omega) (by omega) (by omega) rfl
end JS
end Go.Proofs.YtbimfhaokgigkaaGreatDoor
