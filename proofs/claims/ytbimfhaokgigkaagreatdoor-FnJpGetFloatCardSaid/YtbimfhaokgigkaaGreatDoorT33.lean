/- Walks of functions of FnJpGetFloat (X17); conditions stand ahead of each theorem. -/
import Derived.Test.YtbimfhaokgigkaaGreatDoorT32
set_option maxRecDepth 1000000
set_option maxHeartbeats 4000000
namespace Go.Proofs.YtbimfhaokgigkaaGreatDoor
open Go.RowKit Go.Proofs.YtbimfhaokgigkaaGreatDoorW.PrintWords Go.Proofs.YtbimfhaokgigkaaGreatDoorW.PrintLast
namespace JS
theorem SW.set {w w' : World} {v : Value} (h : SW w w' v) {gk : Nat} (hg : w.heap.size + 2 < gk) (i : Nat) (x : Value) : SW w (w'.setCell ⟨gk, i, none⟩ x) v :=
 ⟨h.1.setCell (show w.heap.size ≤ gk by omega) x, blk_far h.2.1 (show w.heap.size ≠ gk by omega) _, blk_far h.2.2.1 (show w.heap.size + 1 ≠ gk by omega) _,
  h.2.2.2.keep (Below.heap_setCell w' ⟨gk, i, none⟩ x _ (fun e => by have : w.heap.size + 2 = gk := e; omega))⟩
theorem Lst.set {w : World} {A : Option Addr} {xs : List Nat} {gk : Nat} {t : TypeId} {x : Option Addr} {y z : Nat} (h : Lst w A xs) (hb : w.heap[gk]? = some (.cells #[.slice x y z] t (0, 0))) (v : Value) : Lst (w.setCell ⟨gk, 0, none⟩ v) A xs := by
 refine ⟨h.1, fun hn => ?_⟩
 obtain ⟨g, o, e, hg, hc⟩ := h.2 hn
 have h0 := hc 0 xs[0] (List.getElem?_eq_getElem hn)
 have ne : g ≠ gk := fun e => by
  subst e
  rw [blk_cell hb] at h0
  rcases Nat.eq_zero_or_pos o with h1 | h1
  ·subst h1; simp at h0
  ·rw [Array.getElem?_eq_none (by simp; omega)] at h0; cases h0
 refine ⟨g, o, e, by simpa [World.setCell] using hg, fun k x hk => ?_⟩
 rw [← hc k x hk]
 exact World.cell?_of_block (Below.heap_setCell w _ v g (fun e => ne e))
theorem case_colon {w wr : World} {s : ByteArray} {ks : List ByteArray} {lo n cp nk ck g o1 R0 q0 j L K1 : Nat} {Ka : Option Addr} {R : Ending → World → Prop} {Ka1 Ka3 Ka4 : Act → World → Prop}
  (HR : Aside0 (R = NumPost w ((R0 - lo : Nat) : Int))) (HD : Aside0 (Dat w s lo n (some ⟨g, o1, none⟩))) (hn : n ≤ cp) (hw : Aside0 (SW w wr (.slice (some ⟨g, o1, none⟩) n cp))) (hjn : j < n) (hL : L ≤ j) {b : Bool} {a0 d P L' : Nat} {k : ByteArray} {esc : Bool} (ha : a0 + d < P) (hP : P < n) (hLP : L' ≤ P) (hLL : L = L' + 1) {z9 z16 z19 : Int} (h9 : z9 = (P : Int)) (h16 : z16 = (a0 : Int)) (h19 : z19 = (a0 : Int) + (d : Int)) (hT : Aside0 (EscTab w)) (hks : Aside0 (Keys w Ka ks)) (hnk : nk = ks.length)
  (hin : Inner s (lo + a0) (lo + a0 + d)) (hesc : esc = false → ∀ i, i < d → bn s (lo + a0 + i) ≠ 92) (hkl : ks[L']? = some k)
  (hrest : (de s (lo + a0 + d) (lo + a0) ≠ kb k ∧ ∃ m', m' < q0 ∧ SC s ks (lo + n) R0 m' (lo + (P + 1)) (L' + 1) K1 false) ∨ (de s (lo + a0 + d) (lo + a0) = kb k ∧ L' = K1 ∧ K1 + 1 < ks.length ∧ ∃ m', m' < q0 ∧ SC s ks (lo + n) R0 m' (lo + (P + 1)) (K1 + 1) (K1 + 1) true) ∨ (de s (lo + a0 + d) (lo + a0) = kb k ∧ L' = K1 ∧ K1 + 1 = ks.length ∧ R0 = lo + (P + 1)))
  (u5 u6 u14 u15 u17 u20 u21 u22 u23 u24 u25 u26 u27 u28 u29 u30 u31 u32 u33 u34 u35 u36 u37 u38 u39 u40 u41 u42 u43 u44 u45 u46 u47 u48 u49 u50 u51 u52 u53 u54 u55 u56 u57 u58 u59 u60 u61 u62 u63 u64 u65 u66 u67 u68 u69 u70 u71 u72 u73 u74 u75 u76 u77 u78 u79 u80 u81 u82 u83 u84 u85 u86 u87 u88 u89 u90 u91 u92 u93 u94 u95 u96 u97 u98 u99 u100 u101 u102 u103 u104 u105 u106 u107 u108 u109 u110 u111 u112 u113 u114 u115 u116 u117 u118 u119 u120 u122 u123 u124 u125 u126 u127 u128 u129 u130 u131 u132 u133 u134 u135 u136 u137 u138 u139 u140 u141 u142 u143 u144 u145 u146 u147 u148 u149 u150 u151 u152 u153 u154 u155 u156 u157 u158 u159 u160 u161 u162 u163 u164 u165 u166 u167 u168 u169 u170 u171 u172 u173 u174 u175 u176 u177 u178 u179 u180 u181 u182 u183 u184 u185 u186 u187 u188 u189 u190 u191 u192 u193 u194 u195 u196 u197 u198 u199 u200 u201 u202 u203 u204 u205 u206 u207 u208 u209 u210 u211 u212 u213 u214 u215 u216 u217 u218 u219 u220 u221 u222 u223 u224 u225 u226 u227 u228 u229 u230 u231 u232 u233 u234 u235 u236 u237 u238 u239 u240 u241 u242 u243 u244 u245 u246 u247 u248 u249 u250 u251 u252 u253 u254 u255 u256 u257 u258 u259 u260 u261 u262 u263 u264 u265 u266 u267 u268 u269 u270 u271 u272 u273 u274 u275 u276 u277 u278 u279 u280 u281 u282 : Value) (hK : ∀ (v7 v8 v9 v12 : Value) (x6 x14 x15 x16 x17 x18 x19 x20 x21 x22 x23 x24 x25 x26 x27 x28 x29 x30 x31 x32 x33 x34 x41 x42 x43 x44 x45 x46 x47 x48 x49 x50 x51 x52 x53 x54 x55 x56 x57 x58 x59 x60 x61 x62 x63 x64 x65 x66 x67 x68 x69 x70 x71 x72 x73 x74 x75 x76 x77 x78 x79 x80 x81 x82 x83 x84 x85 x86 x87 x88 x89 x90 x91 x92 x93 x94 x95 x96 x97 x98 x99 x100 x101 x102 x103 x104 x105 x106 x107 x108 x109 x110 x111 x112 x113 x114 x115 x116 x117 x118 x119 x120 x121 x122 x123 x124 x125 x126 x127 x128 x129 x130 x131 x132 x133 x134 x135 x136 x137 x138 x139 x140 x141 x142 x143 x144 x145 x146 x147 x148 x149 x150 x151 x152 x153 x154 x155 x156 x157 x158 x159 x160 x161 x162 x163 x164 x165 x166 x167 x168 x169 x170 x171 x172 x173 x174 x175 x176 x177 x178 x179 x180 x181 x182 x183 x184 x185 x186 x187 x188 x189 x190 x191 x192 x193 x194 x195 x196 x197 x198 x199 x200 x201 x202 x203 x204 x205 x206 x207 x208 x209 x210 x211 x212 x213 x214 x215 x216 x217 x218 x219 x220 x221 x222 x223 x224 x225 x226 x227 x228 x229 x230 x231 x232 x233 x234 x235 x236 x237 x238 x239 x240 x241 x242 x243 x244 x245 x246 x247 x248 x249 x250 x251 x252 x253 x254 x255 x256 x257 x258 x259 x260 x261 x262 x263 x264 x265 x266 x267 x268 x269 x270 x271 x272 x273 x274 x275 x276 x277 x278 x279 x280 x281 x282 : Value) (w' : World), Nx w s ks (lo + n) R0 lo q0 (.slice (some ⟨g, o1, none⟩) n cp) v7 v8 v9 v12 w' → Ka1 ⟨#[(.agg #[.bool false, .bool false, .int .i64 0]), (.slice (some ⟨g, o1, none⟩) n cp), (.slice Ka nk ck), (.pointer (some ⟨w.heap.size, 0, none⟩)), (.pointer (some ⟨w.heap.size + 1, 0, none⟩)), (u5), x6, (v7), (v8), (v9), (.int .i64 (n : Int)), (.int .i64 (nk : Int)), (v12), (.pointer (some ⟨w.heap.size + 1 + 1, 0, none⟩)), x14, x15, x16, x17, x18, x19, x20, x21, x22, x23, x24, x25, x26, x27, x28, x29, x30, x31, x32, x33, x34, (u35), (u36), (u37), (u38), (u39), (u40), x41, x42, x43, x44, x45, x46, x47, x48, x49, x50, x51, x52, x53, x54, x55, x56, x57, x58, x59, x60, x61, x62, x63, x64, x65, x66, x67, x68, x69, x70, x71, x72, x73, x74, x75, x76, x77, x78, x79, x80, x81, x82, x83, x84, x85, x86, x87, x88, x89, x90, x91, x92, x93, x94, x95, x96, x97, x98, x99, x100, x101, x102, x103, x104, x105, x106, x107, x108, x109, x110, x111, x112, x113, x114, x115, x116, x117, x118, x119, x120, x121, x122, x123, x124, x125, x126, x127, x128, x129, x130, x131, x132, x133, x134, x135, x136, x137, x138, x139, x140, x141, x142, x143, x144, x145, x146, x147, x148, x149, x150, x151, x152, x153, x154, x155, x156, x157, x158, x159, x160, x161, x162, x163, x164, x165, x166, x167, x168, x169, x170, x171, x172, x173, x174, x175, x176, x177, x178, x179, x180, x181, x182, x183, x184, x185, x186, x187, x188, x189, x190, x191, x192, x193, x194, x195, x196, x197, x198, x199, x200, x201, x202, x203, x204, x205, x206, x207, x208, x209, x210, x211, x212, x213, x214, x215, x216, x217, x218, x219, x220, x221, x222, x223, x224, x225, x226, x227, x228, x229, x230, x231, x232, x233, x234, x235, x236, x237, x238, x239, x240, x241, x242, x243, x244, x245, x246, x247, x248, x249, x250, x251, x252, x253, x254, x255, x256, x257, x258, x259, x260, x261, x262, x263, x264, x265, x266, x267, x268, x269, x270, x271, x272, x273, x274, x275, x276, x277, x278, x279, x280, x281, x282], []⟩ w') :
  Code.wp Tryz.prog C121 (Exit.inBlock 4 (Exit.then Ka1 (Exit.inBlock 1 (Exit.then Ka3 (Exit.inBlock 0 (Exit.then Ka4 (bodyPost Tryz.prog Tryz.f58 R))))))) ⟨#[(.agg #[.bool false, .bool false, .int .i64 0]), (.slice (some ⟨g, o1, none⟩) n cp), (.slice Ka nk ck), (.pointer (some ⟨w.heap.size, 0, none⟩)), (.pointer (some ⟨w.heap.size + 1, 0, none⟩)), u5, u6, (.int .i64 (K1 : Int)), (.int .i64 (L : Int)), (.int .i64 z9), (.int .i64 (n : Int)), (.int .i64 (nk : Int)), (.bool b), (.pointer (some ⟨w.heap.size + 1 + 1, 0, none⟩)), u14, u15, (.int .i64 z16), u17, (.bool esc), (.int .i64 z19), u20, u21, u22, u23, u24, u25, u26, u27, u28, u29, u30, u31, u32, u33, u34, u35, u36, u37, u38, u39, u40, u41, u42, u43, u44, u45, u46, u47, u48, u49, u50, u51, u52, u53, u54, u55, u56, u57, u58, u59, u60, u61, u62, u63, u64, u65, u66, u67, u68, u69, u70, u71, u72, u73, u74, u75, u76, u77, u78, u79, u80, u81, u82, u83, u84, u85, u86, u87, u88, u89, u90, u91, u92, u93, u94, u95, u96, u97, u98, u99, u100, u101, u102, u103, u104, u105, u106, u107, u108, u109, u110, u111, u112, u113, u114, u115, u116, u117, u118, u119, u120, (.bool true), u122, u123, u124, u125, u126, u127, u128, u129, u130, u131, u132, u133, u134, u135, u136, u137, u138, u139, u140, u141, u142, u143, u144, u145, u146, u147, u148, u149, u150, u151, u152, u153, u154, u155, u156, u157, u158, u159, u160, u161, u162, u163, u164, u165, u166, u167, u168, u169, u170, u171, u172, u173, u174, u175, u176, u177, u178, u179, u180, u181, u182, u183, u184, u185, u186, u187, u188, u189, u190, u191, u192, u193, u194, u195, u196, u197, u198, u199, u200, u201, u202, u203, u204, u205, u206, u207, u208, u209, u210, u211, u212, u213, u214, u215, u216, u217, u218, u219, u220, u221, u222, u223, u224, u225, u226, u227, u228, u229, u230, u231, u232, u233, u234, u235, u236, u237, u238, u239, u240, u241, u242, u243, u244, u245, u246, u247, u248, u249, u250, u251, u252, u253, u254, u255, u256, u257, u258, u259, u260, u261, u262, u263, u264, u265, u266, u267, u268, u269, u270, u271, u272, u273, u274, u275, u276, u277, u278, u279, u280, u281, u282], []⟩ wr := by
 have HK := az hK
 subst hLL
 subst h9
 subst h16
 subst h19
 have hsz : (n : Int) ≤ 65536 := by have := HD.out.1; have := HD.out.2.1; omega
 have hLl : L' < ks.length := (List.getElem?_eq_some_iff.1 hkl).1
 obtain ⟨gK, oK, rfl, hgK, hcK⟩ := hks.out.2 (by omega)
 have HKC : Aside0 (∀ W, Below w.heap.size w W → W.cell? ⟨gK, oK + L', none⟩ = some (.string k)) := ⟨fun W hW => by
  rw [← hcK L' k hkl]; exact World.cell?_of_block (hW.block gK hgK)⟩
 have hd0 := (blk_cell hw.out.2.2.1 0).trans rfl
 have hb0 := (blk_cell hw.out.2.1 0).trans rfl
 have hb1 := (blk_cell hw.out.2.1 1).trans rfl
 have hb2 := (blk_cell hw.out.2.1 2).trans rfl
 have hL6 : (L' : Int) + 1 ≤ 65536 := by omega
 have hLk : (L' : Int) + 1 ≤ (nk : Int) := by omega
 have hKk : (K1 : Int) ≤ 65536 ∨ True := .inr trivial
 have hnk6 : (nk : Int) ≤ 65536 := by have := hks.out.1; omega
 have hncp : (n : Int) ≤ (cp : Int) := by omega
 have s6 : 0 ≤ (a0 : Int) + (d : Int) := by omega
 have s7 : ((a0 : Int) + (d : Int)).toNat = a0 + d := by omega
 have s8 : (a0 : Int) ≤ (a0 : Int) + (d : Int) := by omega
 have s9 : (a0 : Int) + (d : Int) ≤ (cp : Int) := by omega
 have s10 : ¬ cp = a0 := by omega
 have hP6 : (P : Int) < (n : Int) := by omega
 obtain ⟨xs, hxs⟩ : ∃ xs, xs = de s (lo + a0 + d) (lo + a0) := ⟨_, rfl⟩
 rw [← hxs] at hrest
 have hx256 : ∀ x ∈ xs, x < 256 := fun x hx => by rw [hxs] at hx; exact dec_lt s _ _ _ x hx
 have HI := az6 hin hesc hxs hn ha hP
 have HR2 := az hrest
 have HX := az3 hx256 hnk hLP
 have hdn : d ≤ n - a0 := by omega
 have HDa : Aside0 (Dat w s (lo + a0) d (some ⟨g, o1 + a0, none⟩)) := ⟨(HD.out.cutS (k := a0) (by omega)).front hdn⟩
 have HN : Aside0 (w.heap.size ≤ wr.heap.size ∧ w.heap.size + 2 < wr.heap.size) := ⟨hw.out.1.size, hw.out.2.2.2.lt⟩
 clear hK hrest hin hesc hxs hx256 hkl hcK hgK hks hnk hLl ha hP hLP hjn hL hn hdn
 conv => arg 2; whnf
 go_upto_if 129 with fail
 go_cut [22] (fun v22 w' => ∃ gk : Nat, v22 = .pointer (some ⟨gk, 0, none⟩) ∧ Aside0 (SW w w' (.slice (some ⟨g, o1, none⟩) n cp) ∧ ∃ (A2 : Option Addr) (c2 : Nat), w'.heap[gk]? = some (.cells #[.slice A2 xs.length c2] 43 (0, 0)) ∧ Lst w' A2 xs))
 case first =>
  have hbx := heap_alloc_new wr (.cells #[.slice none 0 0] 43)
  have hBa : Below wr.heap.size wr (wr.alloc (.cells #[.slice none 0 0] 43)) := (Below.refl _ _).alloc (Nat.le_refl _) _
  cases esc with
  | false =>
   have HF := az2 hbx hBa
   clear hbx hBa
   go_wp2_with fail
   go_meet
   obtain ⟨q1, q2, q3, q4, q5, q6⟩ := HI.out
   have hxr : xs = raw s (lo + a0) d := by
    rw [q3, de_front d (lo + a0) (by omega) (q2 rfl), de_end (by omega), List.append_nil]
   have hlen : xs.length = d := by rw [hxr, raw_len]
   have hB2 : Below wr.heap.size wr (wr.alloc (.cells #[.slice (some ⟨g, o1 + a0, none⟩) d (cp - a0)] 43)) := (Below.refl _ _).alloc (Nat.le_refl _) _
   refine ⟨_, rfl, ⟨hw.out.below hB2, some ⟨g, o1 + a0, none⟩, cp - a0, ?_, ?_⟩⟩
   ·have := heap_alloc_new wr (.cells #[.slice (some ⟨g, o1 + a0, none⟩) d (cp - a0)] 43)
    rw [hlen]
    simpa using this
   ·rw [hxr]
    exact ((HDa.out.below hw.out.1).below hB2).lst
  | true =>
   have CU := az (fun (W : World) (hW : Below w.heap.size w W) (hB : BufAt W (w.heap.size + 2) 108 64 []) => unesc_calls (cp := cp - a0) (z := lo + a0 + d) HDa.out (by have := HI.out; omega) rfl HI.out.1 hT.out hW (by omega) hB)
   rw [show de s (lo + a0 + d) (lo + a0) = xs from HI.out.2.2.1.symm] at CU
   obtain ⟨wx, hwx⟩ : ∃ wx, wx = wr.alloc (.cells #[.slice none 0 0] 43) := ⟨_, rfl⟩
   rw [← hwx] at hbx hBa ⊢
   have hwsz : wx.heap.size = wr.heap.size + 1 := by rw [hwx]; simp
   have hx0 := (blk_cell (hw.out.below hBa).2.1 0).trans rfl
   have hx1 := (blk_cell (hw.out.below hBa).2.1 1).trans rfl
   have hx2 := (blk_cell (hw.out.below hBa).2.1 2).trans rfl
   have HF := az3 hbx hBa (hw.out.below hBa)
   have HWZ := az hwsz
   clear hbx hBa hwx hb0 hb1 hb2 hd0 hwsz
   go_upto_region 41 with fail
   go_region_with (go_at_call 65; refine Calls.mono (CU.out _ ?_ ?_) ?_; exact ⟨HF.out.2.2.1.os, HF.out.2.2.1.tape, HF.out.2.2.1.output, HF.out.2.2.1.size, HF.out.2.2.1.block⟩; exact HF.out.2.2.2.2.2; rintro e w1 ⟨A2, c2, rfl, hc2, hl, hg, hB⟩; dsimp only; have HU := az4 hc2 hl hg hB; clear hc2 hl hg hB)
   all_goals
    have hg := HU.out.2.2.1
    have hbw : w1.heap[wr.heap.size]? = some (.cells #[.slice none 0 0] 43 (0, 0)) := (hg.block _ (show wr.heap.size < wx.heap.size by have := HWZ.out; omega) (by intro e; have := Option.some.inj e; have := HN.out.2; omega)).trans HF.out.1
    have hcw := (blk_cell hbw 0).trans rfl
    have hfw := blk_frozen hbw 0
    have HBW := az hbw
    clear hbw hg
    go_wp2_with fail
    go_meet
    have hsw : SW w w1 (.slice (some ⟨g, o1, none⟩) n cp) := by
     have hg := HU.out.2.2.1
     refine ⟨below_of_grown (w1 := wx.drew) ⟨HF.out.2.2.1.os, HF.out.2.2.1.tape, HF.out.2.2.1.output, HF.out.2.2.1.size, HF.out.2.2.1.block⟩ hg (by omega), ?_, ?_, HU.out.2.2.2⟩
     ·exact (hg.block _ (show w.heap.size < wx.heap.size by have := HWZ.out; have := HN.out.1; omega) (by intro e; have := Option.some.inj e; omega)).trans HF.out.2.2.2.1
     ·exact (hg.block _ (show w.heap.size + 1 < wx.heap.size by have := HWZ.out; have := HN.out.2; omega) (by intro e; have := Option.some.inj e; omega)).trans HF.out.2.2.2.2.1
    have hsz1 : wr.heap.size < w1.heap.size := blk_lt HBW.out
    refine ⟨_, rfl, ⟨SW.set hsw (by have := HN.out.2; omega) _ _, _, _, blk_one HBW.out _, ?_⟩⟩
    exact HU.out.2.1.set HBW.out _
 case rest =>
 obtain ⟨gk, rfl, hc⟩ := hcut
 obtain ⟨hsw, A2, c2, hcell, hl⟩ := hc.out
 have hkc := HKC.out wc hsw.1
 have HS := az hsw
 have CEf := fun (h : xs ≠ kb k) => equalStr_calls (b := false) hcell hl HX.out.1 (decide_eq_false h).symm
 have CEt := fun (h : xs = kb k) => equalStr_calls (b := true) hcell hl HX.out.1 (decide_eq_true h).symm
 clear hc hcell hl hsw hd0 hb0 hb1 hb2
 rcases HR2.out with ⟨h1, m', h2, h3⟩ | ⟨h1, rfl, h2, m', h3, h4⟩ | ⟨h1, rfl, h2, h3⟩
 ·have CE := az (CEf h1)
  have HH := az2 h2 h3
  clear CEf CEt h1 h2 h3
  go_wp2_with (go_at_call 66; (with_reducible refine CE.out.mono ?_); rintro e w3 ⟨rfl, rfl⟩; dsimp only)
  apply HK.out
  exact ⟨K1, L' + 1, P, m', false, rfl, by go_num, rfl, rfl, HH.out.1, HH.out.2, by have := HX.out.2.2; omega, HS.out⟩
 ·have CE := az (CEt h1)
  have t1 : ((L' : Int) + 1 == (nk : Int)) = false := beqF (by have := HX.out.2.1; omega)
  have HH := az2 h3 h4
  clear CEf CEt h1 h2 h3 h4
  go_wp2_with (go_at_call 66; (with_reducible refine CE.out.mono ?_); rintro e w3 ⟨rfl, rfl⟩; dsimp only)
  apply HK.out
  exact ⟨L' + 1, L' + 1, P, m', true, by go_num, by go_num, rfl, rfl, HH.out.1, HH.out.2, by have := HX.out.2.2; omega, HS.out⟩
 ·have CE := az (CEt h1)
  have t1 : ((L' : Int) + 1 == (nk : Int)) = true := by have := HX.out.2.1; rw [show (L' : Int) + 1 = (nk : Int) by omega]; simp
  have HH := az h3
  clear CEf CEt h1 h2 h3
  go_wp2_with (go_at_call 66; (with_reducible refine CE.out.mono ?_); rintro e w3 ⟨rfl, rfl⟩; dsimp only)
  rw [HR.out]
  have e : ((R0 - lo : Nat) : Int) = (P : Int) + 1 := by have := HH.out; omega
  rw [e]
  exact ⟨rfl, HS.out.1⟩
end JS
end Go.Proofs.YtbimfhaokgigkaaGreatDoor
