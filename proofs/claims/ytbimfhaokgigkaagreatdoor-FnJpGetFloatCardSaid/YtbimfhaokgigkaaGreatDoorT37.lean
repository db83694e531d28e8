/- Walks of functions of FnJpGetFloat (X24, X20); conditions stand ahead of each theorem. -/
import Derived.Test.YtbimfhaokgigkaaGreatDoorT34
import Derived.Test.YtbimfhaokgigkaaGreatDoorT36
import Derived.Test.YtbimfhaokgigkaaGreatDoorT35
set_option maxRecDepth 1000000
set_option maxHeartbeats 4000000
namespace Go.Proofs.YtbimfhaokgigkaaGreatDoor
open Go.RowKit Go.Proofs.YtbimfhaokgigkaaGreatDoorW.PrintWords Go.Proofs.YtbimfhaokgigkaaGreatDoorW.PrintLast
namespace JS
theorem B4_round {w wr : World} {s : ByteArray} {ks : List ByteArray} {lo n cp nk ck g o1 R0 q0 j L K1 : Nat} {Ka : Option Addr} {R : Ending → World → Prop} {Ka1 Ka3 Ka4 : Act → World → Prop}
  (HR : Aside0 (R = NumPost w ((R0 - lo : Nat) : Int))) (HD : Aside0 (Dat w s lo n (some ⟨g, o1, none⟩))) (hn : n ≤ cp) (hw : Aside0 (SW w wr (.slice (some ⟨g, o1, none⟩) n cp))) (hjn : j < n) (hL : L ≤ j) {b : Bool} {q c0 : Nat} (hsc : SC s ks (lo + n) R0 q (lo + j) L K1 b) (hq : q ≤ q0) (hc0 : c0 = bn s (lo + j)) (hT : Aside0 (EscTab w)) (hks : Aside0 (Keys w Ka ks)) (hnk : nk = ks.length) (hck : nk ≤ ck) (IH : Aside0 (∀ (w : World) (lo n cp nk ck : Nat) (A K : Option Addr) (ks' : List ByteArray) (R0 : Nat), ks'.length < ks.length → Dat w s lo n A → n ≤ cp → Keys w K ks' → nk = ks'.length → nk ≤ ck → EscTab w → Srch s ks' lo (lo + n) R0 →
   Calls Tryz.prog 58 #[.agg #[.bool false, .bool false, .int .i64 0], .slice A n cp, .slice K nk ck] w (NumPost w ((R0 - lo : Nat) : Int))))
  (u5 u6 u14 u15 u16 u17 u18 u19 u20 u21 u22 u23 u24 u25 u26 u27 u28 u29 u30 u31 u32 u33 u34 u35 u36 u37 u38 u39 u40 u41 u42 u43 u44 u45 u46 u47 u48 u49 u50 u51 u52 u53 u54 u55 u56 u57 u58 u59 u60 u61 u62 u63 u64 u65 u66 u67 u68 u69 u70 u71 u72 u74 u75 u76 u77 u78 u79 u80 u81 u82 u83 u84 u85 u86 u87 u88 u89 u90 u91 u92 u93 u94 u95 u96 u97 u98 u99 u100 u101 u102 u103 u104 u105 u106 u107 u108 u109 u110 u111 u112 u113 u114 u115 u116 u117 u118 u119 u120 u121 u122 u123 u124 u125 u126 u127 u128 u129 u130 u131 u132 u133 u134 u135 u136 u137 u138 u139 u140 u141 u142 u143 u144 u145 u146 u147 u148 u149 u150 u151 u152 u153 u154 u155 u156 u157 u158 u159 u160 u161 u162 u163 u164 u165 u166 u167 u168 u169 u170 u171 u172 u173 u174 u175 u176 u177 u178 u179 u180 u181 u182 u183 u184 u185 u186 u187 u188 u189 u190 u191 u192 u193 u194 u195 u196 u197 u198 u199 u200 u201 u202 u203 u204 u205 u206 u207 u208 u209 u210 u211 u212 u213 u214 u215 u216 u217 u218 u219 u220 u221 u222 u223 u224 u225 u226 u227 u228 u229 u230 u231 u232 u233 u234 u235 u236 u237 u238 u239 u240 u241 u242 u243 u244 u245 u246 u247 u248 u249 u250 u251 u252 u253 u254 u255 u256 u257 u258 u259 u260 u261 u262 u263 u264 u265 u266 u267 u268 u269 u270 u271 u272 u273 u274 u275 u276 u277 u278 u279 u280 u281 u282 : Value) (hK : ∀ (v7 v8 v9 v12 : Value) (x6 x14 x15 x16 x17 x18 x19 x20 x21 x22 x23 x24 x25 x26 x27 x28 x29 x30 x31 x32 x33 x34 x41 x42 x43 x44 x45 x46 x47 x48 x49 x50 x51 x52 x53 x54 x55 x56 x57 x58 x59 x60 x61 x62 x63 x64 x65 x66 x67 x68 x69 x70 x71 x72 x73 x74 x75 x76 x77 x78 x79 x80 x81 x82 x83 x84 x85 x86 x87 x88 x89 x90 x91 x92 x93 x94 x95 x96 x97 x98 x99 x100 x101 x102 x103 x104 x105 x106 x107 x108 x109 x110 x111 x112 x113 x114 x115 x116 x117 x118 x119 x120 x121 x122 x123 x124 x125 x126 x127 x128 x129 x130 x131 x132 x133 x134 x135 x136 x137 x138 x139 x140 x141 x142 x143 x144 x145 x146 x147 x148 x149 x150 x151 x152 x153 x154 x155 x156 x157 x158 x159 x160 x161 x162 x163 x164 x165 x166 x167 x168 x169 x170 x171 x172 x173 x174 x175 x176 x177 x178 x179 x180 x181 x182 x183 x184 x185 x186 x187 x188 x189 x190 x191 x192 x193 x194 x195 x196 x197 x198 x199 x200 x201 x202 x203 x204 x205 x206 x207 x208 x209 x210 x211 x212 x213 x214 x215 x216 x217 x218 x219 x220 x221 x222 x223 x224 x225 x226 x227 x228 x229 x230 x231 x232 x233 x234 x235 x236 x237 x238 x239 x240 x241 x242 x243 x244 x245 x246 x247 x248 x249 x250 x251 x252 x253 x254 x255 x256 x257 x258 x259 x260 x261 x262 x263 x264 x265 x266 x267 x268 x269 x270 x271 x272 x273 x274 x275 x276 x277 x278 x279 x280 x281 x282 : Value) (w' : World), Nx w s ks (lo + n) R0 lo q0 (.slice (some ⟨g, o1, none⟩) n cp) v7 v8 v9 v12 w' → Ka1 ⟨#[(.agg #[.bool false, .bool false, .int .i64 0]), (.slice (some ⟨g, o1, none⟩) n cp), (.slice Ka nk ck), (.pointer (some ⟨w.heap.size, 0, none⟩)), (.pointer (some ⟨w.heap.size + 1, 0, none⟩)), (u5), x6, (v7), (v8), (v9), (.int .i64 (n : Int)), (.int .i64 (nk : Int)), (v12), (.pointer (some ⟨w.heap.size + 1 + 1, 0, none⟩)), x14, x15, x16, x17, x18, x19, x20, x21, x22, x23, x24, x25, x26, x27, x28, x29, x30, x31, x32, x33, x34, (u35), (u36), (u37), (u38), (u39), (u40), x41, x42, x43, x44, x45, x46, x47, x48, x49, x50, x51, x52, x53, x54, x55, x56, x57, x58, x59, x60, x61, x62, x63, x64, x65, x66, x67, x68, x69, x70, x71, x72, x73, x74, x75, x76, x77, x78, x79, x80, x81, x82, x83, x84, x85, x86, x87, x88, x89, x90, x91, x92, x93, x94, x95, x96, x97, x98, x99, x100, x101, x102, x103, x104, x105, x106, x107, x108, x109, x110, x111, x112, x113, x114, x115, x116, x117, x118, x119, x120, x121, x122, x123, x124, x125, x126, x127, x128, x129, x130, x131, x132, x133, x134, x135, x136, x137, x138, x139, x140, x141, x142, x143, x144, x145, x146, x147, x148, x149, x150, x151, x152, x153, x154, x155, x156, x157, x158, x159, x160, x161, x162, x163, x164, x165, x166, x167, x168, x169, x170, x171, x172, x173, x174, x175, x176, x177, x178, x179, x180, x181, x182, x183, x184, x185, x186, x187, x188, x189, x190, x191, x192, x193, x194, x195, x196, x197, x198, x199, x200, x201, x202, x203, x204, x205, x206, x207, x208, x209, x210, x211, x212, x213, x214, x215, x216, x217, x218, x219, x220, x221, x222, x223, x224, x225, x226, x227, x228, x229, x230, x231, x232, x233, x234, x235, x236, x237, x238, x239, x240, x241, x242, x243, x244, x245, x246, x247, x248, x249, x250, x251, x252, x253, x254, x255, x256, x257, x258, x259, x260, x261, x262, x263, x264, x265, x266, x267, x268, x269, x270, x271, x272, x273, x274, x275, x276, x277, x278, x279, x280, x281, x282], []⟩ w') :
  Code.wp Tryz.prog B4 (Exit.then Ka1 (Exit.inBlock 1 (Exit.then Ka3 (Exit.inBlock 0 (Exit.then Ka4 (bodyPost Tryz.prog Tryz.f58 R)))))) ⟨#[(.agg #[.bool false, .bool false, .int .i64 0]), (.slice (some ⟨g, o1, none⟩) n cp), (.slice Ka nk ck), (.pointer (some ⟨w.heap.size, 0, none⟩)), (.pointer (some ⟨w.heap.size + 1, 0, none⟩)), u5, u6, (.int .i64 (K1 : Int)), (.int .i64 (L : Int)), (.int .i64 (j : Int)), (.int .i64 (n : Int)), (.int .i64 (nk : Int)), (.bool b), (.pointer (some ⟨w.heap.size + 1 + 1, 0, none⟩)), u14, u15, u16, u17, u18, u19, u20, u21, u22, u23, u24, u25, u26, u27, u28, u29, u30, u31, u32, u33, u34, u35, u36, u37, u38, u39, u40, u41, u42, u43, u44, u45, u46, u47, u48, u49, u50, u51, u52, u53, u54, u55, u56, u57, u58, u59, u60, u61, u62, u63, u64, u65, u66, u67, u68, u69, u70, u71, u72, (.int .u8 (c0 : Int)), u74, u75, u76, u77, u78, u79, u80, u81, u82, u83, u84, u85, u86, u87, u88, u89, u90, u91, u92, u93, u94, u95, u96, u97, u98, u99, u100, u101, u102, u103, u104, u105, u106, u107, u108, u109, u110, u111, u112, u113, u114, u115, u116, u117, u118, u119, u120, u121, u122, u123, u124, u125, u126, u127, u128, u129, u130, u131, u132, u133, u134, u135, u136, u137, u138, u139, u140, u141, u142, u143, u144, u145, u146, u147, u148, u149, u150, u151, u152, u153, u154, u155, u156, u157, u158, u159, u160, u161, u162, u163, u164, u165, u166, u167, u168, u169, u170, u171, u172, u173, u174, u175, u176, u177, u178, u179, u180, u181, u182, u183, u184, u185, u186, u187, u188, u189, u190, u191, u192, u193, u194, u195, u196, u197, u198, u199, u200, u201, u202, u203, u204, u205, u206, u207, u208, u209, u210, u211, u212, u213, u214, u215, u216, u217, u218, u219, u220, u221, u222, u223, u224, u225, u226, u227, u228, u229, u230, u231, u232, u233, u234, u235, u236, u237, u238, u239, u240, u241, u242, u243, u244, u245, u246, u247, u248, u249, u250, u251, u252, u253, u254, u255, u256, u257, u258, u259, u260, u261, u262, u263, u264, u265, u266, u267, u268, u269, u270, u271, u272, u273, u274, u275, u276, u277, u278, u279, u280, u281, u282], []⟩ wr := by
 obtain ⟨hi1, hinv⟩ := hsc.inv
 rw [← hc0] at hinv
 rcases hinv with ⟨m', rfl, ⟨n34, n58, n91, n123, n125⟩, hs1⟩ | ⟨e, p, hstr, hbl, hp, hnb, hrest⟩ | ⟨m', rfl, hb, h1, hs1⟩ | ⟨m', e, j', rfl, hb, h1, h2, h3, h4, hs1⟩ | ⟨m', e, j', rfl, h1, hne, h2, h3, h4, hs1⟩ | ⟨j', k, t, el, rfl, hKL, hv, hkd, htb, hte, hkl, hbr, hkid, hsr⟩
 ·exact case_none (q0 := q0) (m' := m') HR HD hn hw hjn hL hc0 (by omega) hs1 n34 n58 n91 n123 n125 _ _ _ _ _ _ _ _ _ _ _ _ _ _ _ _ _ _ _ _ _ _ _ _ _ _ _ _ _ _ _ _ _ _ _ _ _ _ _ _ _ _ _ _ _ _ _ _ _ _ _ _ _ _ _ _ _ _ _ _ _ _ _ _ _ _ _ _ _ _ _ _ _ _ _ _ _ _ _ _ _ _ _ _ _ _ _ _ _ _ _ _ _ _ _ _ _ _ _ _ _ _ _ _ _ _ _ _ _ _ _ _ _ _ _ _ _ _ _ _ _ _ _ _ _ _ _ _ _ _ _ _ _ _ _ _ _ _ _ _ _ _ _ _ _ _ _ _ _ _ _ _ _ _ _ _ _ _ _ _ _ _ _ _ _ _ _ _ _ _ _ _ _ _ _ _ _ _ _ _ _ _ _ _ _ _ _ _ _ _ _ _ _ _ _ _ _ _ _ _ _ _ _ _ _ _ _ _ _ _ _ _ _ _ _ _ _ _ _ _ _ _ _ _ _ _ _ _ _ _ _ _ _ _ _ _ _ _ _ _ _ _ _ _ _ _ _ _ _ _ _ _ _ _ _ _ _ _ _ _ _ _ _ _ _ _ _ _ _ _ hK
 ·have hlo := hbl.1
  obtain ⟨s34, sle, ssz, s34', sin⟩ := hstr
  obtain ⟨d, rfl⟩ : ∃ d, e = lo + (j + 1) + d + 1 := ⟨e - (lo + j) - 2, by omega⟩
  obtain ⟨r, rfl⟩ : ∃ r, p = lo + (j + 1 + (d + 1)) + r := ⟨p - (lo + (j + 1) + d + 1), by omega⟩
  rw [Nat.add_sub_cancel] at s34' sin
  rw [show lo + (j + 1) + d + 1 = lo + (j + 1 + (d + 1)) by omega] at hbl
  have h34 : c0 = 34 := hc0.trans s34
  subst h34
  exact case_str (q0 := q0) HR HD hn hw hjn hL s34 s34' (by rw [← Nat.add_assoc]; exact sin) hbl (by omega) hnb hT hks hnk hq hrest _ _ _ _ _ _ _ _ _ _ _ _ _ _ _ _ _ _ _ _ _ _ _ _ _ _ _ _ _ _ _ _ _ _ _ _ _ _ _ _ _ _ _ _ _ _ _ _ _ _ _ _ _ _ _ _ _ _ _ _ _ _ _ _ _ _ _ _ _ _ _ _ _ _ _ _ _ _ _ _ _ _ _ _ _ _ _ _ _ _ _ _ _ _ _ _ _ _ _ _ _ _ _ _ _ _ _ _ _ _ _ _ _ _ _ _ _ _ _ _ _ _ _ _ _ _ _ _ _ _ _ _ _ _ _ _ _ _ _ _ _ _ _ _ _ _ _ _ _ _ _ _ _ _ _ _ _ _ _ _ _ _ _ _ _ _ _ _ _ _ _ _ _ _ _ _ _ _ _ _ _ _ _ _ _ _ _ _ _ _ _ _ _ _ _ _ _ _ _ _ _ _ _ _ _ _ _ _ _ _ _ _ _ _ _ _ _ _ _ _ _ _ _ _ _ _ _ _ _ _ _ _ _ _ _ _ _ _ _ _ _ _ _ _ _ _ _ _ _ _ _ _ _ _ _ _ _ _ _ _ _ _ _ _ _ _ _ _ _ _ hK
 ·subst h1
  exact case_opn (q0 := q0) (m' := m') HR HD hn hw hjn hL hb (by omega) hs1 _ _ _ _ _ _ _ _ _ _ _ _ _ _ _ _ _ _ _ _ _ _ _ _ _ _ _ _ _ _ _ _ _ _ _ _ _ _ _ _ _ _ _ _ _ _ _ _ _ _ _ _ _ _ _ _ _ _ _ _ _ _ _ _ _ _ _ _ _ _ _ _ _ _ _ _ _ _ _ _ _ _ _ _ _ _ _ _ _ _ _ _ _ _ _ _ _ _ _ _ _ _ _ _ _ _ _ _ _ _ _ _ _ _ _ _ _ _ _ _ _ _ _ _ _ _ _ _ _ _ _ _ _ _ _ _ _ _ _ _ _ _ _ _ _ _ _ _ _ _ _ _ _ _ _ _ _ _ _ _ _ _ _ _ _ _ _ _ _ _ _ _ _ _ _ _ _ _ _ _ _ _ _ _ _ _ _ _ _ _ _ _ _ _ _ _ _ _ _ _ _ _ _ _ _ _ _ _ _ _ _ _ _ _ _ _ _ _ _ _ _ _ _ _ _ _ _ _ _ _ _ _ _ _ _ _ _ _ _ _ _ _ _ _ _ _ _ _ _ _ _ _ _ _ _ _ _ _ _ _ _ _ _ _ _ _ _ _ _ _ hK
 ·subst h1
  exact case_skipO (q0 := q0) (m' := m') HR HD hn hw hjn hL hb (by omega) h2 h3 h4 (by rw [hb]; exact hs1) _ _ _ _ _ _ _ _ _ _ _ _ _ _ _ _ _ _ _ _ _ _ _ _ _ _ _ _ _ _ _ _ _ _ _ _ _ _ _ _ _ _ _ _ _ _ _ _ _ _ _ _ _ _ _ _ _ _ _ _ _ _ _ _ _ _ _ _ _ _ _ _ _ _ _ _ _ _ _ _ _ _ _ _ _ _ _ _ _ _ _ _ _ _ _ _ _ _ _ _ _ _ _ _ _ _ _ _ _ _ _ _ _ _ _ _ _ _ _ _ _ _ _ _ _ _ _ _ _ _ _ _ _ _ _ _ _ _ _ _ _ _ _ _ _ _ _ _ _ _ _ _ _ _ _ _ _ _ _ _ _ _ _ _ _ _ _ _ _ _ _ _ _ _ _ _ _ _ _ _ _ _ _ _ _ _ _ _ _ _ _ _ _ _ _ _ _ _ _ _ _ _ _ _ _ _ _ _ _ _ _ _ _ _ _ _ _ _ _ _ _ _ _ _ _ _ _ _ _ _ _ _ _ _ _ _ _ _ _ _ _ _ _ _ _ _ _ _ _ _ _ _ _ _ _ _ _ _ _ _ _ _ _ _ _ _ _ _ _ _ hK
 ·subst h1
  exact case_skipA (q0 := q0) (m' := m') HR HD hn hw hjn hL hne (by omega) h2 h3 h4 hs1 _ _ _ _ _ _ _ _ _ _ _ _ _ _ _ _ _ _ _ _ _ _ _ _ _ _ _ _ _ _ _ _ _ _ _ _ _ _ _ _ _ _ _ _ _ _ _ _ _ _ _ _ _ _ _ _ _ _ _ _ _ _ _ _ _ _ _ _ _ _ _ _ _ _ _ _ _ _ _ _ _ _ _ _ _ _ _ _ _ _ _ _ _ _ _ _ _ _ _ _ _ _ _ _ _ _ _ _ _ _ _ _ _ _ _ _ _ _ _ _ _ _ _ _ _ _ _ _ _ _ _ _ _ _ _ _ _ _ _ _ _ _ _ _ _ _ _ _ _ _ _ _ _ _ _ _ _ _ _ _ _ _ _ _ _ _ _ _ _ _ _ _ _ _ _ _ _ _ _ _ _ _ _ _ _ _ _ _ _ _ _ _ _ _ _ _ _ _ _ _ _ _ _ _ _ _ _ _ _ _ _ _ _ _ _ _ _ _ _ _ _ _ _ _ _ _ _ _ _ _ _ _ _ _ _ _ _ _ _ _ _ _ _ _ _ _ _ _ _ _ _ _ _ _ _ _ _ _ _ _ _ _ _ _ _ _ _ _ _ _ hK
 ·have h91 : c0 = 91 := by
   rw [hc0, ← htb]
   cases hv with
   | arr0 b c h1 _ _ _ => exact h1
   | arr b a e kids h1 _ _ => exact h1
   | word k b e h => obtain ⟨h1, _⟩ := h; have h5 : k = 5 := hkd; omega
   | num b e h => cases hkd
   | str b e h => cases hkd
   | obj0 b c h1 _ _ _ => cases hkd
   | obj b a e ns kids h1 _ _ => cases hkd
  subst h91
  subst hKL
  exact case_idx (q0 := q0) (K1 := 0) HR HD hn hw hjn hL hv hkd htb hte hkl hbr hkid hsr hT hks hnk hck IH _ _ _ _ _ _ _ _ _ _ _ _ _ _ _ _ _ _ _ _ _ _ _ _ _ _ _ _ _ _ _ _ _ _ _ _ _ _ _ _ _ _ _ _ _ _ _ _ _ _ _ _ _ _ _ _ _ _ _ _ _ _ _ _ _ _ _ _ _ _ _ _ _ _ _ _ _ _ _ _ _ _ _ _ _ _ _ _ _ _ _ _ _ _ _ _ _ _ _ _ _ _ _ _ _ _ _ _ _ _ _ _ _ _ _ _ _ _ _ _ _ _ _ _ _ _ _ _ _ _ _ _ _ _ _ _ _ _ _ _ _ _ _ _ _ _ _ _ _ _ _ _ _ _ _ _ _ _ _ _ _ _ _ _ _ _ _ _ _ _ _ _ _ _ _ _ _ _ _ _ _ _ _ _ _ _ _ _ _ _ _ _ _ _ _ _ _ _ _ _ _ _ _ _ _ _ _ _ _ _ _ _ _ _ _ _ _ _ _ _ _ _ _ _ _ _ _ _ _ _ _ _ _ _ _ _ _ _ _ _ _ _ _ _ _ _ _ _ _ _ _ _ _ _ _ _ _ _ _ _ _ _ _ _ _ _ _ _ _ _ hK
theorem SC.byte {s : ByteArray} {ks : List ByteArray} {hi R n i L K : Nat} {m : Bool} (h : SC s ks hi R n i L K m) (hc : bn s i ≠ 34 ∧ bn s i ≠ 123 ∧ bn s i ≠ 91) : ∃ n', n = n' + 1 ∧ bn s i ≠ 125 ∧ SC s ks hi R n' (i + 1) L K m := by
 rcases h.inv.2 with ⟨n', e, ⟨_, _, _, _, h5⟩, h⟩ | ⟨e, p, hs, _⟩ | ⟨n', _, _, h1, _⟩ | ⟨n', e, j, _, _, h1, _⟩ | ⟨n', e, j, _, h1, _⟩ | ⟨j, k, t, el, _, _, hv, hk, hb, _⟩
 ·exact ⟨n', e, h5, h⟩
 ·exact absurd hs.1 hc.1
 ·exact absurd h1 hc.2.1
 ·exact absurd h1 hc.2.1
 ·exact absurd h1 hc.2.2
 ·refine absurd ?_ hc.2.2
  rw [← hb]
  exact (V.arrBlock hv hk (Nat.le_refl _)).1
theorem search_calls {s : ByteArray} : ∀ (q : Nat) (w : World) (lo n cp nk ck : Nat) (A K : Option Addr) (ks : List ByteArray) (R0 : Nat), ks.length ≤ q → Dat w s lo n A → n ≤ cp → Keys w K ks → nk = ks.length → nk ≤ ck → EscTab w → Srch s ks lo (lo + n) R0 →
  Calls Tryz.prog 58 #[.agg #[.bool false, .bool false, .int .i64 0], .slice A n cp, .slice K nk ck] w (NumPost w ((R0 - lo : Nat) : Int)) := by
 intro q
 induction q with
 | zero =>
  intro w lo n cp nk ck A K ks R0 hq h hn hk hnk hck hT hs
  cases hs with
  | nil lo hi => obtain rfl : nk = 0 := hnk; rw [Nat.sub_self]; exact search_nil h
  | go ks lo hi R m hks hsc => exact absurd (List.length_pos_iff.2 hks) (by omega)
 | succ q IH =>
 intro w lo n cp nk ck A K ks R0 hq h hn hk hnk hck hT hs
 cases hs with
 | nil lo hi => obtain rfl : nk = 0 := hnk; rw [Nat.sub_self]; exact search_nil h
 | go ks lo hi R m hks hsc =>
  refine byR fun R hR => ?_
  have HR := az hR
  have hsz : (n : Int) ≤ 65536 := by have := h.1; have := h.2.1; omega
  have hnk0 : ((nk : Int) == 0) = false := beqF (by have := List.length_pos_iff.2 hks; omega)
  have hnk0n : (nk == 0) = false := beqFn (by have := List.length_pos_iff.2 hks; omega)
  have hnkb : (nk : Int) ≤ 65536 := by have := hk.1; omega
  have IHa := az IH
  have HX := az7 hsc hq hn hk hnk hck hT
  have HD := az h
  clear hR hsc hq hn hk hnk hck hT h IH hks
  go_enter Tryz.func58, Tryz.ntmps58
  go_wp2_with fail
  go_loopg [7, 8, 9, 12] m (fun q v7 v8 v9 v12 w' => ∃ (K1 L j : Nat) (b : Bool), v7 = .int .i64 (K1 : Int) ∧ v8 = .int .i64 (L : Int) ∧ v9 = .int .i64 (j : Int) ∧ v12 = .bool b ∧ Aside0 (SC s ks (lo + n) R0 q (lo + j) L K1 b ∧ L ≤ j) ∧ Aside0 (SW w w' (.slice A n cp)))
  case atStart => exact ⟨0, 0, 0, true, rfl, rfl, rfl, rfl, ⟨HX.out.1, Nat.le_refl _⟩, ⟨SW.start _ _ _ rfl⟩⟩
  case round =>
   obtain ⟨K1, L, j0, b, rfl, rfl, rfl, rfl, hj0, hw⟩ := hrel
   have hj0n : j0 < n := by have := hj0.out.1.inv.1; omega
   have hL : (L : Int) ≤ 65536 := by have := hj0.out.2; omega
   obtain ⟨q0, rfl⟩ : ∃ q0 : Nat, q0 = gk := ⟨_, rfl⟩
   obtain ⟨wo, rfl⟩ : ∃ wo : World, wo = wr := ⟨_, rfl⟩
   have hd0 := (blk_cell hw.out.2.2.1 0).trans rfl
   go_wp2_with fail
   go_loopg [9] q0 (fun q v9 w' => ∃ j : Nat, v9 = .int .i64 (j : Int) ∧ Aside0 (SC s ks (lo + n) R0 q (lo + j) L K1 b ∧ q ≤ q0 ∧ L ≤ j) ∧ Aside0 (w' = wo))
   case atStart => exact ⟨j0, rfl, ⟨⟨hj0.out.1, Nat.le_refl _, hj0.out.2⟩⟩, ⟨rfl⟩⟩
   case round =>
    obtain ⟨j, rfl, hj, hwr⟩ := hrel
    have e := hwr.out
    subst e
    have hi1 := hj.out.1.inv.1
    have hjn : j < n := by omega
    have hjn6 : (j : Int) < (n : Int) := by omega
    have hjg : ¬ n ≤ j := by omega
    obtain ⟨g, o1, rfl, hg, hc⟩ := (HD.out.below hw.out.1).2.2 (show 0 < n by omega)
    have hcj := hc j hjn
    obtain ⟨c0, hc0⟩ : ∃ c0, c0 = bn s (lo + j) := ⟨_, rfl⟩
    rw [← hc0] at hcj
    have H0 := az hc0
    clear hc hg hj0n hi1
    by_cases hb : c0 ≠ 34 ∧ c0 ≠ 123 ∧ c0 ≠ 91 ∧ (c0 ≤ 32 ∨ 92 < c0)
    ·obtain ⟨m', hm', h125, hs1⟩ := hj.out.1.byte (by rw [← hc0]; exact ⟨hb.1, hb.2.1, hb.2.2.1⟩)
     rw [← hc0] at h125
     subst hm'
     have HH := az2 hs1 hj.out.2
     clear hs1 hc0
     by_cases h32 : c0 ≤ 32
     ·have t1 : decide ((c0 : Int) ≤ 32) = true := dT
      have t1n : decide (c0 ≤ 32) = true := decide_eq_true h32
      clear h32 hb h125
      go_wp2_with fail
      go_roundg m'
      case measure => omega
      case rel => exact ⟨j + 1, by go_num, ⟨⟨HH.out.1, by have := HH.out.2; omega, by have := HH.out.2; omega⟩⟩, ⟨rfl⟩⟩
     ·have t1 : decide ((c0 : Int) ≤ 32) = false := dF
      have t1n : decide (c0 ≤ 32) = false := decide_eq_false h32
      have t2 : decide ((92 : Int) < (c0 : Int)) = true := dT
      have t2n : decide (92 < c0) = true := dT
      have t3 : ((c0 : Int) != 123) = true := bneT
      have t3n : (c0 != 123) = true := bneTn
      have t4 : ((c0 : Int) != 125) = true := bneT
      have t4n : (c0 != 125) = true := bneTn
      clear h32 hb h125
      go_wp2_with fail
      go_roundg m'
      case measure => omega
      case rel => exact ⟨j + 1, by go_num, ⟨⟨HH.out.1, by have := HH.out.2; omega, by have := HH.out.2; omega⟩⟩, ⟨rfl⟩⟩
    ·have hq1 := hj.out.2.1
     by_cases h123 : c0 = 123
     ·clear hb hc0
      subst h123
      go_upto_block 4 with fail
      refine B4_round HR HD HX.out.2.2.1 hw hjn hj.out.2.2 hj.out.1 hq1 (c0 := 123) H0.out ⟨HX.out.2.2.2.2.2.2⟩ ⟨HX.out.2.2.2.1⟩ HX.out.2.2.2.2.1 HX.out.2.2.2.2.2.1 ⟨fun w lo n cp nk ck A K ks' R0 hl => IHa.out w lo n cp nk ck A K ks' R0 (by have := HX.out.2.1; omega)⟩ _ _ _ _ _ _ _ _ _ _ _ _ _ _ _ _ _ _ _ _ _ _ _ _ _ _ _ _ _ _ _ _ _ _ _ _ _ _ _ _ _ _ _ _ _ _ _ _ _ _ _ _ _ _ _ _ _ _ _ _ _ _ _ _ _ _ _ _ _ _ _ _ _ _ _ _ _ _ _ _ _ _ _ _ _ _ _ _ _ _ _ _ _ _ _ _ _ _ _ _ _ _ _ _ _ _ _ _ _ _ _ _ _ _ _ _ _ _ _ _ _ _ _ _ _ _ _ _ _ _ _ _ _ _ _ _ _ _ _ _ _ _ _ _ _ _ _ _ _ _ _ _ _ _ _ _ _ _ _ _ _ _ _ _ _ _ _ _ _ _ _ _ _ _ _ _ _ _ _ _ _ _ _ _ _ _ _ _ _ _ _ _ _ _ _ _ _ _ _ _ _ _ _ _ _ _ _ _ _ _ _ _ _ _ _ _ _ _ _ _ _ _ _ _ _ _ _ _ _ _ _ _ _ _ _ _ _ _ _ _ _ _ _ _ _ _ _ _ _ _ _ _ _ _ _ _ _ _ _ _ _ _ _ _ _ _ _ _ _ _ ?_
      intro v7 v8 v9 v12 y6 y14 y15 y16 y17 y18 y19 y20 y21 y22 y23 y24 y25 y26 y27 y28 y29 y30 y31 y32 y33 y34 y41 y42 y43 y44 y45 y46 y47 y48 y49 y50 y51 y52 y53 y54 y55 y56 y57 y58 y59 y60 y61 y62 y63 y64 y65 y66 y67 y68 y69 y70 y71 y72 y73 y74 y75 y76 y77 y78 y79 y80 y81 y82 y83 y84 y85 y86 y87 y88 y89 y90 y91 y92 y93 y94 y95 y96 y97 y98 y99 y100 y101 y102 y103 y104 y105 y106 y107 y108 y109 y110 y111 y112 y113 y114 y115 y116 y117 y118 y119 y120 y121 y122 y123 y124 y125 y126 y127 y128 y129 y130 y131 y132 y133 y134 y135 y136 y137 y138 y139 y140 y141 y142 y143 y144 y145 y146 y147 y148 y149 y150 y151 y152 y153 y154 y155 y156 y157 y158 y159 y160 y161 y162 y163 y164 y165 y166 y167 y168 y169 y170 y171 y172 y173 y174 y175 y176 y177 y178 y179 y180 y181 y182 y183 y184 y185 y186 y187 y188 y189 y190 y191 y192 y193 y194 y195 y196 y197 y198 y199 y200 y201 y202 y203 y204 y205 y206 y207 y208 y209 y210 y211 y212 y213 y214 y215 y216 y217 y218 y219 y220 y221 y222 y223 y224 y225 y226 y227 y228 y229 y230 y231 y232 y233 y234 y235 y236 y237 y238 y239 y240 y241 y242 y243 y244 y245 y246 y247 y248 y249 y250 y251 y252 y253 y254 y255 y256 y257 y258 y259 y260 y261 y262 y263 y264 y265 y266 y267 y268 y269 y270 y271 y272 y273 y274 y275 y276 y277 y278 y279 y280 y281 y282 w9 hnx
      obtain ⟨K2, L2, j2, q2, b2, rfl, rfl, rfl, rfl, n1, n2, n3, n4⟩ := hnx
      have HN := az4 n1 n2 n3 n4
      have hj26 : (j2 : Int) ≤ 65536 := by have := n2.inv.1; omega
      clear n1 n2 n3 n4
      dsimp only
      go_wp2_with fail
      go_roundg q2
      case measure => have := HN.out.1; omega
      case rel => exact ⟨K2, L2, j2 + 1, b2, rfl, rfl, by go_num, rfl, ⟨⟨HN.out.2.1, HN.out.2.2.1⟩⟩, ⟨HN.out.2.2.2⟩⟩
     ·have t1 : decide ((c0 : Int) ≤ 32) = false := dF
      have t1n : decide (c0 ≤ 32) = false := dF
      have t2 : decide ((92 : Int) < (c0 : Int)) = false := dF
      have t2n : decide (92 < c0) = false := dF
      clear hb h123 hc0
      go_upto_block 4 with fail
      refine B4_round HR HD HX.out.2.2.1 hw hjn hj.out.2.2 hj.out.1 hq1 (c0 := c0) H0.out ⟨HX.out.2.2.2.2.2.2⟩ ⟨HX.out.2.2.2.1⟩ HX.out.2.2.2.2.1 HX.out.2.2.2.2.2.1 ⟨fun w lo n cp nk ck A K ks' R0 hl => IHa.out w lo n cp nk ck A K ks' R0 (by have := HX.out.2.1; omega)⟩ _ _ _ _ _ _ _ _ _ _ _ _ _ _ _ _ _ _ _ _ _ _ _ _ _ _ _ _ _ _ _ _ _ _ _ _ _ _ _ _ _ _ _ _ _ _ _ _ _ _ _ _ _ _ _ _ _ _ _ _ _ _ _ _ _ _ _ _ _ _ _ _ _ _ _ _ _ _ _ _ _ _ _ _ _ _ _ _ _ _ _ _ _ _ _ _ _ _ _ _ _ _ _ _ _ _ _ _ _ _ _ _ _ _ _ _ _ _ _ _ _ _ _ _ _ _ _ _ _ _ _ _ _ _ _ _ _ _ _ _ _ _ _ _ _ _ _ _ _ _ _ _ _ _ _ _ _ _ _ _ _ _ _ _ _ _ _ _ _ _ _ _ _ _ _ _ _ _ _ _ _ _ _ _ _ _ _ _ _ _ _ _ _ _ _ _ _ _ _ _ _ _ _ _ _ _ _ _ _ _ _ _ _ _ _ _ _ _ _ _ _ _ _ _ _ _ _ _ _ _ _ _ _ _ _ _ _ _ _ _ _ _ _ _ _ _ _ _ _ _ _ _ _ _ _ _ _ _ _ _ _ _ _ _ _ _ _ _ _ _ ?_
      intro v7 v8 v9 v12 y6 y14 y15 y16 y17 y18 y19 y20 y21 y22 y23 y24 y25 y26 y27 y28 y29 y30 y31 y32 y33 y34 y41 y42 y43 y44 y45 y46 y47 y48 y49 y50 y51 y52 y53 y54 y55 y56 y57 y58 y59 y60 y61 y62 y63 y64 y65 y66 y67 y68 y69 y70 y71 y72 y73 y74 y75 y76 y77 y78 y79 y80 y81 y82 y83 y84 y85 y86 y87 y88 y89 y90 y91 y92 y93 y94 y95 y96 y97 y98 y99 y100 y101 y102 y103 y104 y105 y106 y107 y108 y109 y110 y111 y112 y113 y114 y115 y116 y117 y118 y119 y120 y121 y122 y123 y124 y125 y126 y127 y128 y129 y130 y131 y132 y133 y134 y135 y136 y137 y138 y139 y140 y141 y142 y143 y144 y145 y146 y147 y148 y149 y150 y151 y152 y153 y154 y155 y156 y157 y158 y159 y160 y161 y162 y163 y164 y165 y166 y167 y168 y169 y170 y171 y172 y173 y174 y175 y176 y177 y178 y179 y180 y181 y182 y183 y184 y185 y186 y187 y188 y189 y190 y191 y192 y193 y194 y195 y196 y197 y198 y199 y200 y201 y202 y203 y204 y205 y206 y207 y208 y209 y210 y211 y212 y213 y214 y215 y216 y217 y218 y219 y220 y221 y222 y223 y224 y225 y226 y227 y228 y229 y230 y231 y232 y233 y234 y235 y236 y237 y238 y239 y240 y241 y242 y243 y244 y245 y246 y247 y248 y249 y250 y251 y252 y253 y254 y255 y256 y257 y258 y259 y260 y261 y262 y263 y264 y265 y266 y267 y268 y269 y270 y271 y272 y273 y274 y275 y276 y277 y278 y279 y280 y281 y282 w9 hnx
      obtain ⟨K2, L2, j2, q2, b2, rfl, rfl, rfl, rfl, n1, n2, n3, n4⟩ := hnx
      have HN := az4 n1 n2 n3 n4
      have hj26 : (j2 : Int) ≤ 65536 := by have := n2.inv.1; omega
      clear n1 n2 n3 n4
      dsimp only
      go_wp2_with fail
      go_roundg q2
      case measure => have := HN.out.1; omega
      case rel => exact ⟨K2, L2, j2 + 1, b2, rfl, rfl, by go_num, rfl, ⟨⟨HN.out.2.1, HN.out.2.2.1⟩⟩, ⟨HN.out.2.2.2⟩⟩
end JS
end Go.Proofs.YtbimfhaokgigkaaGreatDoor
