/- Walks of functions of FnJpGetFloat (X18); conditions stand ahead of each theorem. -/
import Derived.Test.YtbimfhaokgigkaaGreatDoorT33
set_option maxRecDepth 1000000
set_option maxHeartbeats 4000000
namespace Go.Proofs.YtbimfhaokgigkaaGreatDoor
open Go.RowKit Go.Proofs.YtbimfhaokgigkaaGreatDoorW.PrintWords Go.Proofs.YtbimfhaokgigkaaGreatDoorW.PrintLast
namespace JS
theorem case_str {w wr : World} {s : ByteArray} {ks : List ByteArray} {lo n cp nk ck g o1 R0 q0 j L K1 : Nat} {Ka : Option Addr} {R : Ending → World → Prop} {Ka1 Ka3 Ka4 : Act → World → Prop}
  (HR : Aside0 (R = NumPost w ((R0 - lo : Nat) : Int))) (HD : Aside0 (Dat w s lo n (some ⟨g, o1, none⟩))) (hn : n ≤ cp) (hw : Aside0 (SW w wr (.slice (some ⟨g, o1, none⟩) n cp))) (hjn : j < n) (hL : L ≤ j) {b : Bool} (hs34 : bn s (lo + j) = 34) {d r q : Nat} (hx34 : bn s (lo + (j + 1) + d) = 34) (hin : Inner s (lo + (j + 1)) (lo + (j + 1) + d)) (hbl : Blanks s (lo + (j + 1 + (d + 1))) (lo + (j + 1 + (d + 1)) + r)) (hp : j + 1 + (d + 1) + r < n) (hnb : ¬ blank (bn s (lo + (j + 1 + (d + 1)) + r)))
  (hT : Aside0 (EscTab w)) (hks : Aside0 (Keys w Ka ks)) (hnk : nk = ks.length) (hq : q ≤ q0)
  (hrest : (bn s (lo + (j + 1 + (d + 1)) + r) ≠ 58 ∧ ∃ n', q = n' + 1 ∧ SC s ks (lo + n) R0 n' (lo + (j + 1 + (d + 1)) + r) L K1 b)
    ∨ (bn s (lo + (j + 1 + (d + 1)) + r) = 58 ∧ ∃ k L', L = L' + 1 ∧ ks[L']? = some k ∧
      ((nm s (lo + j) (lo + (j + 1) + d + 1) ≠ kb k ∧ ∃ n', q = n' + 1 ∧ SC s ks (lo + n) R0 n' (lo + (j + 1 + (d + 1)) + r + 1) (L' + 1) K1 false)
      ∨ (nm s (lo + j) (lo + (j + 1) + d + 1) = kb k ∧ L' = K1 ∧ K1 + 1 < ks.length ∧ ∃ n', q = n' + 1 ∧ SC s ks (lo + n) R0 n' (lo + (j + 1 + (d + 1)) + r + 1) (K1 + 1) (K1 + 1) true)
      ∨ (nm s (lo + j) (lo + (j + 1) + d + 1) = kb k ∧ L' = K1 ∧ K1 + 1 = ks.length ∧ R0 = lo + (j + 1 + (d + 1)) + r + 1))))
  (u5 u6 u14 u15 u16 u17 u18 u19 u20 u21 u22 u23 u24 u25 u26 u27 u28 u29 u30 u31 u32 u33 u34 u35 u36 u37 u38 u39 u40 u41 u42 u43 u44 u45 u46 u47 u48 u49 u50 u51 u52 u53 u54 u55 u56 u57 u58 u59 u60 u61 u62 u63 u64 u65 u66 u67 u68 u69 u70 u71 u72 u74 u75 u76 u77 u78 u79 u80 u81 u82 u83 u84 u85 u86 u87 u88 u89 u90 u91 u92 u93 u94 u95 u96 u97 u98 u99 u100 u101 u102 u103 u104 u105 u106 u107 u108 u109 u110 u111 u112 u113 u114 u115 u116 u117 u118 u119 u120 u121 u122 u123 u124 u125 u126 u127 u128 u129 u130 u131 u132 u133 u134 u135 u136 u137 u138 u139 u140 u141 u142 u143 u144 u145 u146 u147 u148 u149 u150 u151 u152 u153 u154 u155 u156 u157 u158 u159 u160 u161 u162 u163 u164 u165 u166 u167 u168 u169 u170 u171 u172 u173 u174 u175 u176 u177 u178 u179 u180 u181 u182 u183 u184 u185 u186 u187 u188 u189 u190 u191 u192 u193 u194 u195 u196 u197 u198 u199 u200 u201 u202 u203 u204 u205 u206 u207 u208 u209 u210 u211 u212 u213 u214 u215 u216 u217 u218 u219 u220 u221 u222 u223 u224 u225 u226 u227 u228 u229 u230 u231 u232 u233 u234 u235 u236 u237 u238 u239 u240 u241 u242 u243 u244 u245 u246 u247 u248 u249 u250 u251 u252 u253 u254 u255 u256 u257 u258 u259 u260 u261 u262 u263 u264 u265 u266 u267 u268 u269 u270 u271 u272 u273 u274 u275 u276 u277 u278 u279 u280 u281 u282 : Value) (hK : ∀ (v7 v8 v9 v12 : Value) (x6 x14 x15 x16 x17 x18 x19 x20 x21 x22 x23 x24 x25 x26 x27 x28 x29 x30 x31 x32 x33 x34 x41 x42 x43 x44 x45 x46 x47 x48 x49 x50 x51 x52 x53 x54 x55 x56 x57 x58 x59 x60 x61 x62 x63 x64 x65 x66 x67 x68 x69 x70 x71 x72 x73 x74 x75 x76 x77 x78 x79 x80 x81 x82 x83 x84 x85 x86 x87 x88 x89 x90 x91 x92 x93 x94 x95 x96 x97 x98 x99 x100 x101 x102 x103 x104 x105 x106 x107 x108 x109 x110 x111 x112 x113 x114 x115 x116 x117 x118 x119 x120 x121 x122 x123 x124 x125 x126 x127 x128 x129 x130 x131 x132 x133 x134 x135 x136 x137 x138 x139 x140 x141 x142 x143 x144 x145 x146 x147 x148 x149 x150 x151 x152 x153 x154 x155 x156 x157 x158 x159 x160 x161 x162 x163 x164 x165 x166 x167 x168 x169 x170 x171 x172 x173 x174 x175 x176 x177 x178 x179 x180 x181 x182 x183 x184 x185 x186 x187 x188 x189 x190 x191 x192 x193 x194 x195 x196 x197 x198 x199 x200 x201 x202 x203 x204 x205 x206 x207 x208 x209 x210 x211 x212 x213 x214 x215 x216 x217 x218 x219 x220 x221 x222 x223 x224 x225 x226 x227 x228 x229 x230 x231 x232 x233 x234 x235 x236 x237 x238 x239 x240 x241 x242 x243 x244 x245 x246 x247 x248 x249 x250 x251 x252 x253 x254 x255 x256 x257 x258 x259 x260 x261 x262 x263 x264 x265 x266 x267 x268 x269 x270 x271 x272 x273 x274 x275 x276 x277 x278 x279 x280 x281 x282 : Value) (w' : World), Nx w s ks (lo + n) R0 lo q0 (.slice (some ⟨g, o1, none⟩) n cp) v7 v8 v9 v12 w' → Ka1 ⟨#[(.agg #[.bool false, .bool false, .int .i64 0]), (.slice (some ⟨g, o1, none⟩) n cp), (.slice Ka nk ck), (.pointer (some ⟨w.heap.size, 0, none⟩)), (.pointer (some ⟨w.heap.size + 1, 0, none⟩)), (u5), x6, (v7), (v8), (v9), (.int .i64 (n : Int)), (.int .i64 (nk : Int)), (v12), (.pointer (some ⟨w.heap.size + 1 + 1, 0, none⟩)), x14, x15, x16, x17, x18, x19, x20, x21, x22, x23, x24, x25, x26, x27, x28, x29, x30, x31, x32, x33, x34, (u35), (u36), (u37), (u38), (u39), (u40), x41, x42, x43, x44, x45, x46, x47, x48, x49, x50, x51, x52, x53, x54, x55, x56, x57, x58, x59, x60, x61, x62, x63, x64, x65, x66, x67, x68, x69, x70, x71, x72, x73, x74, x75, x76, x77, x78, x79, x80, x81, x82, x83, x84, x85, x86, x87, x88, x89, x90, x91, x92, x93, x94, x95, x96, x97, x98, x99, x100, x101, x102, x103, x104, x105, x106, x107, x108, x109, x110, x111, x112, x113, x114, x115, x116, x117, x118, x119, x120, x121, x122, x123, x124, x125, x126, x127, x128, x129, x130, x131, x132, x133, x134, x135, x136, x137, x138, x139, x140, x141, x142, x143, x144, x145, x146, x147, x148, x149, x150, x151, x152, x153, x154, x155, x156, x157, x158, x159, x160, x161, x162, x163, x164, x165, x166, x167, x168, x169, x170, x171, x172, x173, x174, x175, x176, x177, x178, x179, x180, x181, x182, x183, x184, x185, x186, x187, x188, x189, x190, x191, x192, x193, x194, x195, x196, x197, x198, x199, x200, x201, x202, x203, x204, x205, x206, x207, x208, x209, x210, x211, x212, x213, x214, x215, x216, x217, x218, x219, x220, x221, x222, x223, x224, x225, x226, x227, x228, x229, x230, x231, x232, x233, x234, x235, x236, x237, x238, x239, x240, x241, x242, x243, x244, x245, x246, x247, x248, x249, x250, x251, x252, x253, x254, x255, x256, x257, x258, x259, x260, x261, x262, x263, x264, x265, x266, x267, x268, x269, x270, x271, x272, x273, x274, x275, x276, x277, x278, x279, x280, x281, x282], []⟩ w') :
  Code.wp Tryz.prog B4 (Exit.then Ka1 (Exit.inBlock 1 (Exit.then Ka3 (Exit.inBlock 0 (Exit.then Ka4 (bodyPost Tryz.prog Tryz.f58 R)))))) ⟨#[(.agg #[.bool false, .bool false, .int .i64 0]), (.slice (some ⟨g, o1, none⟩) n cp), (.slice Ka nk ck), (.pointer (some ⟨w.heap.size, 0, none⟩)), (.pointer (some ⟨w.heap.size + 1, 0, none⟩)), u5, u6, (.int .i64 (K1 : Int)), (.int .i64 (L : Int)), (.int .i64 (j : Int)), (.int .i64 (n : Int)), (.int .i64 (nk : Int)), (.bool b), (.pointer (some ⟨w.heap.size + 1 + 1, 0, none⟩)), u14, u15, u16, u17, u18, u19, u20, u21, u22, u23, u24, u25, u26, u27, u28, u29, u30, u31, u32, u33, u34, u35, u36, u37, u38, u39, u40, u41, u42, u43, u44, u45, u46, u47, u48, u49, u50, u51, u52, u53, u54, u55, u56, u57, u58, u59, u60, u61, u62, u63, u64, u65, u66, u67, u68, u69, u70, u71, u72, (.int .u8 34), u74, u75, u76, u77, u78, u79, u80, u81, u82, u83, u84, u85, u86, u87, u88, u89, u90, u91, u92, u93, u94, u95, u96, u97, u98, u99, u100, u101, u102, u103, u104, u105, u106, u107, u108, u109, u110, u111, u112, u113, u114, u115, u116, u117, u118, u119, u120, u121, u122, u123, u124, u125, u126, u127, u128, u129, u130, u131, u132, u133, u134, u135, u136, u137, u138, u139, u140, u141, u142, u143, u144, u145, u146, u147, u148, u149, u150, u151, u152, u153, u154, u155, u156, u157, u158, u159, u160, u161, u162, u163, u164, u165, u166, u167, u168, u169, u170, u171, u172, u173, u174, u175, u176, u177, u178, u179, u180, u181, u182, u183, u184, u185, u186, u187, u188, u189, u190, u191, u192, u193, u194, u195, u196, u197, u198, u199, u200, u201, u202, u203, u204, u205, u206, u207, u208, u209, u210, u211, u212, u213, u214, u215, u216, u217, u218, u219, u220, u221, u222, u223, u224, u225, u226, u227, u228, u229, u230, u231, u232, u233, u234, u235, u236, u237, u238, u239, u240, u241, u242, u243, u244, u245, u246, u247, u248, u249, u250, u251, u252, u253, u254, u255, u256, u257, u258, u259, u260, u261, u262, u263, u264, u265, u266, u267, u268, u269, u270, u271, u272, u273, u274, u275, u276, u277, u278, u279, u280, u281, u282], []⟩ wr := by
 have HK := az hK
 have hsz : (n : Int) ≤ 65536 := by have := HD.out.1; have := HD.out.2.1; omega
 have hjn6 : (j : Int) < (n : Int) := by omega
 have hL6 : (L : Int) ≤ 65536 := by omega
 have hd0 := (blk_cell hw.out.2.2.1 0).trans rfl
 have hb0 := (blk_cell hw.out.2.1 0).trans rfl
 have hb1 := (blk_cell hw.out.2.1 1).trans rfl
 have hb2 := (blk_cell hw.out.2.1 2).trans rfl
 have HDr := HD.out.below hw.out.1
 obtain ⟨g', o1', e', hx0⟩ := HDr.at_ hjn
 cases e'
 obtain ⟨c0, hc0⟩ : ∃ c0, c0 = bn s (lo + j) := ⟨_, rfl⟩
 rw [← hc0] at hx0
 have CS := az (fun (W : World) (hW : Below wr.heap.size wr W) => strEnd_calls (c := cp - (j + 1)) (d := d) ((HDr.cutS (k := j + 1) (by omega)).below hW) (by omega) (by omega) hx34 hin)
 have CN := az (fun (W : World) (hW : Below wr.heap.size wr W) => next_calls (c := cp - (j + 1 + (d + 1))) (p := lo + (j + 1 + (d + 1)) + r) ((HDr.cutS (k := j + 1 + (d + 1)) (by omega)).below hW) (by omega) hbl (by omega) hnb)
 rw [Nat.add_sub_cancel_left] at CN
 have hcp : ¬ cp = j + 1 := by omega
 have hcp1 : (j : Int) + 1 ≤ (cp : Int) := by omega
 have hnc : (n : Int) ≤ (cp : Int) := by omega
 have hj1 : (j : Int) + 1 ≤ (n : Int) := by omega
 have hd6 : (d : Int) ≤ 65536 := by omega
 have hr6 : (j : Int) + 1 + ((d : Int) + 1) + (r : Int) < (n : Int) := by omega
 obtain ⟨c1, hc1⟩ : ∃ c1, c1 = bn s (lo + (j + 1 + (d + 1)) + r) := ⟨_, rfl⟩
 have HS := az7 hin hrest hc1 hq hp hn hL
 have HCD : Aside0 (∀ W, Below wr.heap.size wr W → W.cell? ⟨g, o1 + (j + 1 + (d + 1) + r), none⟩ = some (.int .u8 (c1 : Int))) := ⟨fun W hW => by
  obtain ⟨g', o', e, hx⟩ := (HDr.below hW).at_ (k := j + 1 + (d + 1) + r) (by omega)
  cases e
  rw [hx, hc1, Nat.add_assoc lo]⟩
 have HNK := az hnk
 have h34 : c0 = 34 := by rw [hc0]; exact hs34
 subst h34
 clear hx34 hin hbl hp hnb hrest hc1 HDr hq hnk hK hn hs34 hc0
 conv => arg 2; whnf
 go_upto_region 25 with fail
 go_cut [17, 18] (fun v17 v18 w' => ∃ esc : Bool, v17 = .int .i64 ((d : Int) + 1) ∧ v18 = .bool esc ∧ Aside0 (Below wr.heap.size wr w' ∧ (esc = false → ∀ k, k < d → bn s (lo + (j + 1) + k) ≠ 92)))
 case first =>
  have s1 : IntKind.i64.wrap ((j : Int) + 1) = (j : Int) + 1 := IntWalk.i64_in _ (by omega)
  have s2 : 0 ≤ (j : Int) + 1 := by omega
  have s3 : ((j : Int) + 1).toNat = j + 1 := by omega
  go_region_with (go_at_call 64; refine Calls.mono (CS.out _ ?_) ?_; exact ⟨rfl, rfl, rfl, Nat.le_refl _, fun _ _ => rfl⟩; rintro e w1 ⟨esc, rfl, hesc, hbl⟩; dsimp only; have HB1 := az2 (undrew hbl) hesc; clear hesc hbl)
  all_goals
   go_wp2_with fail
   go_meet
   exact ⟨esc, by go_num, rfl, HB1⟩
 case rest =>
 obtain ⟨esc, rfl, rfl, HB1⟩ := hcut
 obtain ⟨w1, rfl⟩ : ∃ w1, w1 = wc := ⟨_, rfl⟩
 have hw1 := hw.out.below HB1.out.1
 have hd1 := (blk_cell hw1.2.2.1 0).trans rfl
 have hb10 := (blk_cell hw1.2.1 0).trans rfl
 have hb11 := (blk_cell hw1.2.1 1).trans rfl
 have hb12 := (blk_cell hw1.2.1 2).trans rfl
 clear hw1 hb0 hb1 hb2 hd0 hx0
 go_upto_region 30 with fail
 go_cut [20] (fun v20 w' => v20 = .int .i64 (r : Int) ∧ Aside0 (Below wr.heap.size wr w'))
 case first =>
  have s4 : 0 ≤ (j : Int) + 1 + ((d : Int) + 1) := by omega
  have s5 : ((j : Int) + 1 + ((d : Int) + 1)).toNat = j + 1 + (d + 1) := by omega
  have hcp2 : ¬ cp = j + 1 + (d + 1) := by omega
  have hcp3 : (j : Int) + 1 + ((d : Int) + 1) ≤ (cp : Int) := by omega
  have hcp4 : (j : Int) + 1 + ((d : Int) + 1) ≤ (n : Int) := by omega
  go_region_with (go_at_call 59; refine Calls.mono (CN.out _ ?_) ?_; exact ⟨HB1.out.1.os, HB1.out.1.tape, HB1.out.1.output, HB1.out.1.size, HB1.out.1.block⟩; rintro e w2 ⟨rfl, hbl⟩; dsimp only; have HB2 := az (HB1.out.1.trans ((undrew hbl).mono HB1.out.1.size)); clear hbl)
  all_goals
   go_wp2_with fail
   go_meet
   exact ⟨rfl, HB2⟩
 case rest =>
 obtain ⟨rfl, HB2⟩ := hcut
 obtain ⟨w2, rfl⟩ : ∃ w2, w2 = wc := ⟨_, rfl⟩
 have hw2 := hw.out.below HB2.out
 have hd2 := (blk_cell hw2.2.2.1 0).trans rfl
 have hcd2 := HCD.out w2 HB2.out
 have HW2 := az hw2
 clear hw2 hb10 hb11 hb12 hd1
 have t1 : ((r : Int) == -1) = false := beqF
 obtain ⟨y1, y2, y4, y5, y6, y7, y8⟩ := HS.out
 rcases y2 with ⟨z1, m', rfl, hs1⟩ | ⟨z1, k, L', rfl, hkl, hrest⟩
 ·have t2 : ((c1 : Int) == 58) = false := beqF
  have t2n : (c1 == 58) = false := beqFn
  have HH := az hs1
  clear hs1 y1 y4 y5 y6 y7 y8 z1
  go_wp2_with fail
  apply HK.out
  exact ⟨K1, L, j + 1 + d + r, m', b, rfl, rfl, by go_num, rfl, by have := HS.out.2.2.2.1; omega, by rw [show lo + (j + 1 + d + r + 1) = lo + (j + 1 + (d + 1)) + r by omega]; exact HH.out, by have := HS.out.2.2.2.2.2.2; omega, HW2.out⟩
 ·have e58 : c1 = 58 := y4.trans z1
  subst e58
  have HH := az2 hrest hkl
  clear y1 y4 y5 y6 y7 y8 z1 hrest hkl
  go_upto_if 121 with fail
  have en : nm s (lo + j) (lo + (j + 1) + d + 1) = de s (lo + (j + 1) + d) (lo + (j + 1)) := by
   rw [nm_eq (by omega)]; rfl
  have hn7 := HS.out.2.2.2.2.2.1
  have hL8 := HS.out.2.2.2.2.2.2
  have hp8 := HS.out.2.2.2.2.1
  have hq8 := HS.out.2.2.2.1
  obtain ⟨hrest, hkl⟩ := HH.out
  rw [en, show lo + (j + 1 + (d + 1)) + r + 1 = lo + (j + 1 + (d + 1) + r + 1) by omega] at hrest
  refine case_colon (P := j + 1 + (d + 1) + r) (a0 := j + 1) (d := d) (k := k) HR HD hn7 HW2 hjn (by omega) (by omega) hp8 (by omega) rfl (by omega) (by omega) (by omega) hT hks HNK.out HS.out.1 HB1.out.2 hkl ?_ _ _ _ _ _ _ _ _ _ _ _ _ _ _ _ _ _ _ _ _ _ _ _ _ _ _ _ _ _ _ _ _ _ _ _ _ _ _ _ _ _ _ _ _ _ _ _ _ _ _ _ _ _ _ _ _ _ _ _ _ _ _ _ _ _ _ _ _ _ _ _ _ _ _ _ _ _ _ _ _ _ _ _ _ _ _ _ _ _ _ _ _ _ _ _ _ _ _ _ _ _ _ _ _ _ _ _ _ _ _ _ _ _ _ _ _ _ _ _ _ _ _ _ _ _ _ _ _ _ _ _ _ _ _ _ _ _ _ _ _ _ _ _ _ _ _ _ _ _ _ _ _ _ _ _ _ _ _ _ _ _ _ _ _ _ _ _ _ _ _ _ _ _ _ _ _ _ _ _ _ _ _ _ _ _ _ _ _ _ _ _ _ _ _ _ _ _ _ _ _ _ _ _ _ _ _ _ _ _ _ _ _ _ _ _ _ _ _ _ _ _ _ _ _ _ _ _ _ _ _ _ _ _ _ _ _ _ _ _ _ _ _ _ _ _ _ _ _ _ _ _ _ _ _ _ _ _ _ _ _ _ _ _ _ _ _ _ HK.out
  rcases hrest with ⟨h1, m', h2, h3⟩ | ⟨h1, h2, h3, m', h4, h5⟩ | ⟨h1, h2, h3, h4⟩
  ·exact .inl ⟨h1, m', by omega, h3⟩
  ·exact .inr (.inl ⟨h1, h2, h3, m', by omega, h5⟩)
  ·exact .inr (.inr ⟨h1, h2, h3, h4⟩)
end JS
end Go.Proofs.YtbimfhaokgigkaaGreatDoor
