/- Walks of functions of FnJpGetFloat (X15, X16); conditions stand ahead of each theorem. -/
import Derived.Test.YtbimfhaokgigkaaGreatDoorT31
import Derived.Test.YtbimfhaokgigkaaGreatDoorT20
set_option linter.unusedVariables false
set_option linter.unusedSimpArgs false
set_option maxRecDepth 1000000
set_option maxHeartbeats 4000000
namespace Go.Proofs.YtbimfhaokgigkaaGreatDoor
open Go.RowKit Go.Proofs.YtbimfhaokgigkaaGreatDoorW.PrintWords Go.Proofs.YtbimfhaokgigkaaGreatDoorW.PrintLast
namespace JS
theorem SC.inv {s : ByteArray} {ks : List ByteArray} {hi R n i L K : Nat} {m : Bool} (h : SC s ks hi R n i L K m) : i < hi ∧
  ((∃ n', n = n' + 1 ∧ (bn s i ≠ 34 ∧ bn s i ≠ 58 ∧ bn s i ≠ 91 ∧ bn s i ≠ 123 ∧ bn s i ≠ 125) ∧ SC s ks hi R n' (i + 1) L K m)
  ∨ (∃ e p, Str s i e ∧ Blanks s e p ∧ p < hi ∧ ¬ blank (bn s p) ∧
    ((bn s p ≠ 58 ∧ ∃ n', n = n' + 1 ∧ SC s ks hi R n' p L K m)
    ∨ (bn s p = 58 ∧ ∃ k L', L = L' + 1 ∧ ks[L']? = some k ∧
      ((nm s i e ≠ kb k ∧ ∃ n', n = n' + 1 ∧ SC s ks hi R n' (p + 1) (L' + 1) K false)
      ∨ (nm s i e = kb k ∧ L' = K ∧ K + 1 < ks.length ∧ ∃ n', n = n' + 1 ∧ SC s ks hi R n' (p + 1) (K + 1) (K + 1) true)
      ∨ (nm s i e = kb k ∧ L' = K ∧ K + 1 = ks.length ∧ R = p + 1)))))
  ∨ (∃ n', n = n' + 1 ∧ m = true ∧ bn s i = 123 ∧ SC s ks hi R n' (i + 1) (L + 1) K true)
  ∨ (∃ n' e j, n = n' + 1 ∧ m = false ∧ bn s i = 123 ∧ i < e ∧ e ≤ hi ∧ BC s 123 125 hi e j i 0 ∧ SC s ks hi R n' e L K false)
  ∨ (∃ n' e j, n = n' + 1 ∧ bn s i = 91 ∧ K ≠ L ∧ i < e ∧ e ≤ hi ∧ BC s 91 93 hi e j i 0 ∧ SC s ks hi R n' e L K m)
  ∨ (∃ j k t el, n = 0 ∧ K = L ∧ V s t ∧ t.kind = 5 ∧ t.b = i ∧ t.e ≤ hi ∧ ks[L]? = some k ∧ Brk k j ∧ t.kids[j]? = some el ∧ Srch s (ks.drop (L + 1)) el.b el.e R)) := by
 have nb : ∀ p, bn s p = 58 → ¬ blank (bn s p) := fun p h => by rw [h]; decide
 cases h with
 | one ks hi R n i L K m h1 h2 h3 h4 h5 h6 h7 => exact ⟨h1, .inl ⟨_, rfl, ⟨h2, h3, h4, h5, h6⟩, h7⟩⟩
 | val ks hi R n i e p L K m h1 h2 h3 h4 h5 h6 => exact ⟨by have := h1.2.1; have := h2.1; omega, .inr (.inl ⟨e, p, h1, h2, h3, h5, .inl ⟨h4, _, rfl, h6⟩⟩)⟩
 | no ks hi R n i e p L K m k h1 h2 h3 h4 h5 h6 h7 => exact ⟨by have := h1.2.1; have := h2.1; omega, .inr (.inl ⟨e, p, h1, h2, h3, nb p h4, .inr ⟨h4, k, L, rfl, h5, .inl ⟨h6, _, rfl, h7⟩⟩⟩)⟩
 | yes ks hi R n i e p K m k h1 h2 h3 h4 h5 h6 h7 h8 => exact ⟨by have := h1.2.1; have := h2.1; omega, .inr (.inl ⟨e, p, h1, h2, h3, nb p h4, .inr ⟨h4, k, K, rfl, h5, .inr (.inl ⟨h6, rfl, h7, _, rfl, h8⟩)⟩⟩)⟩
 | fin ks hi i e p K m k h1 h2 h3 h4 h5 h6 h7 => exact ⟨by have := h1.2.1; have := h2.1; omega, .inr (.inl ⟨e, p, h1, h2, h3, nb p h4, .inr ⟨h4, k, K, rfl, h5, .inr (.inr ⟨h6, rfl, h7, rfl⟩)⟩⟩)⟩
 | opn ks hi R n i L K h1 h2 h3 => exact ⟨h1, .inr (.inr (.inl ⟨_, rfl, rfl, h2, h3⟩))⟩
 | skipO ks hi R n i e j L K h1 h2 h3 h4 h5 h6 => exact ⟨h1, .inr (.inr (.inr (.inl ⟨_, e, j, rfl, rfl, h2, h3, h4, h5, h6⟩)))⟩
 | skipA ks hi R n i e j L K m h1 h2 h3 h4 h5 h6 h7 => exact ⟨h1, .inr (.inr (.inr (.inr (.inl ⟨_, e, j, rfl, h2, h3, h4, h5, h6, h7⟩))))⟩
 | idx ks hi R L j m k t el h1 h2 h3 h4 h5 h6 h7 => exact ⟨by have := V.le h1; omega, .inr (.inr (.inr (.inr (.inr ⟨j, k, t, el, rfl, rfl, h1, h2, rfl, h3, h4, h5, h6, h7⟩))))⟩
def Keys (w : World) (K : Option Addr) (ks : List ByteArray) : Prop := ks.length ≤ 65536 ∧ (0 < ks.length → ∃ g o, K = some ⟨g, o, none⟩ ∧ g < w.heap.size ∧ ∀ (i : Nat) (k : ByteArray), ks[i]? = some k → w.cell? ⟨g, o + i, none⟩ = some (Value.string k))
theorem Keys.below {w w' : World} {K : Option Addr} {ks : List ByteArray} (h : Keys w K ks) (hb : Below w.heap.size w w') : Keys w' K ks :=
 ⟨h.1, fun h0 => by obtain ⟨g, o, e, hg, hc⟩ := h.2 h0; exact ⟨g, o, e, Nat.lt_of_lt_of_le hg hb.size, fun i k hk => by rw [← hc i k hk]; exact World.cell?_of_block (hb.block g hg)⟩⟩
theorem Keys.cut {w : World} {K : Option Addr} {ks : List ByteArray} (h : Keys w K ks) {k c : Nat} (hk : k ≤ ks.length) (hc : ks.length ≤ c) : Keys w (if c = k then K else K.map (·.add k)) (ks.drop k) := by
 refine ⟨by have := h.1; rw [List.length_drop]; omega, fun h0 => ?_⟩
 rw [List.length_drop] at h0
 obtain ⟨g, o, e, hg, hcell⟩ := h.2 (by omega)
 refine ⟨g, o + k, ?_, hg, fun i x hx => ?_⟩
 ·rw [if_neg (by omega), e]
  show some (Addr.add ⟨g, o, none⟩ k) = _
  unfold Addr.add
  by_cases h0 : k = 0
  ·rw [if_pos h0, h0]; rfl
  ·rw [if_neg h0]
 ·rw [List.getElem?_drop] at hx
  rw [Nat.add_assoc]; exact hcell _ _ hx
def SW (w w' : World) (v : Value) : Prop := Below w.heap.size w w' ∧ w'.heap[w.heap.size]? = some (.cells #[.bool false, .bool false, .int .i64 0] 93 (0, 0)) ∧ w'.heap[w.heap.size + 1]? = some (.cells #[v] 43 (0, 0)) ∧ BufAt w' (w.heap.size + 2) 108 64 []
theorem SW.below {w w1 w2 : World} {v : Value} (h : SW w w1 v) (hb : Below w1.heap.size w1 w2) : SW w w2 v :=
 ⟨h.1.trans (hb.mono h.1.size), blk_below h.2.1 hb, blk_below h.2.2.1 hb, h.2.2.2.keep (hb.block _ h.2.2.2.lt)⟩
theorem SW.start (w : World) (v : Value) (zs : Array Value) (hz : zs = Array.replicate 64 (.int .u8 0)) : SW w (((w.alloc (.cells #[.bool false, .bool false, .int .i64 0] 93)).alloc (.cells #[v] 43)).alloc (.cells zs 108)) v := by
 obtain ⟨wa, hwa⟩ : ∃ wa, wa = w.alloc (.cells #[.bool false, .bool false, .int .i64 0] 93) := ⟨_, rfl⟩
 obtain ⟨wb, hwb⟩ : ∃ wb, wb = wa.alloc (.cells #[v] 43) := ⟨_, rfl⟩
 have ea : wa.heap.size = w.heap.size + 1 := by rw [hwa]; simp
 have eb : wb.heap.size = w.heap.size + 2 := by rw [hwb]; simp; omega
 have h1 := heap_alloc_new w (.cells #[.bool false, .bool false, .int .i64 0] 93)
 rw [← hwa] at h1
 have h2 := heap_alloc_new wa (.cells #[v] 43)
 rw [← hwb, ea] at h2
 have h3 := heap_alloc_new wb (.cells zs 108)
 have h1' := (heap_alloc_old wa (.cells #[v] 43) (show w.heap.size < wa.heap.size by omega)).trans h1
 rw [← hwb] at h1'
 have h1s := (heap_alloc_old wb (.cells zs 108) (show w.heap.size < wb.heap.size by omega)).trans h1'
 have h2s := (heap_alloc_old wb (.cells zs 108) (show w.heap.size + 1 < wb.heap.size by omega)).trans h2
 rw [eb] at h3
 have hB := ((Below.refl w.heap.size w).alloc (Nat.le_refl _) (.cells #[.bool false, .bool false, .int .i64 0] 93))
 rw [← hwa] at hB ⊢
 have hB2 := hB.alloc (show w.heap.size ≤ wa.heap.size by omega) (.cells #[v] 43)
 rw [← hwb] at hB2 ⊢
 exact ⟨hB2.alloc (by omega) _, h1s, h2s, zs, h3, by rw [hz]; simp, Nat.zero_le _, fun k x hk => by simp at hk, fun k hk => ⟨0, by rw [hz]; simp [hk]⟩⟩
theorem search_nil {w : World} {s : ByteArray} {lo n cp ck : Nat} {A K : Option Addr} (h : Dat w s lo n A) :
  Calls Tryz.prog 58 #[.agg #[.bool false, .bool false, .int .i64 0], .slice A n cp, .slice K 0 ck] w (NumPost w 0) := by
 refine byR fun R hR => ?_
 have HR := az hR
 have hsz : (n : Int) ≤ 65536 := by have := h.1; have := h.2.1; omega
 clear hR h
 go_enter Tryz.func58, Tryz.ntmps58
 go_wp2_with fail
 rw [HR.out]
 exact ⟨rfl, ((Below.refl _ _).alloc (Nat.le_refl _) _).alloc (by simp) _⟩
def blockOf (n : Nat) : Code → Option Code
 | .block k c => if k = n then some (.block k c) else blockOf n c
 | .loop c => blockOf n c
 | .scope c => blockOf n c
 | .seq a b => match blockOf n a with
  | some c => some c
  | none => blockOf n b
 | .cond _ a b => match blockOf n a with
  | some c => some c
  | none => blockOf n b
 | _ => none
def ifOf (n : Nat) : Code → Option Code
 | .block _ c => ifOf n c
 | .loop c => ifOf n c
 | .scope c => ifOf n c
 | .seq a b => match ifOf n a with
  | some c => some c
  | none => ifOf n b
 | .cond (.tmp k) a b => if k = n then some (.cond (.tmp k) a b) else match ifOf n a with
  | some c => some c
  | none => ifOf n b
 | _ => none
noncomputable def B4 : Code := ((Tryz.f58.body.bind (blockOf 4)).getD .skip)
noncomputable def C121 : Code := ((Tryz.f58.body.bind (ifOf 121)).getD .skip)
def Nx (w : World) (s : ByteArray) (ks : List ByteArray) (hi R0 lo q0 : Nat) (dv v7 v8 v9 v12 : Value) (w' : World) : Prop :=
 ∃ (K1 L j q : Nat) (b : Bool), v7 = .int .i64 (K1 : Int) ∧ v8 = .int .i64 (L : Int) ∧ v9 = .int .i64 (j : Int) ∧ v12 = .bool b ∧ q < q0 ∧ SC s ks hi R0 q (lo + (j + 1)) L K1 b ∧ L ≤ j + 1 ∧ SW w w' dv
theorem case_skipO {w wr : World} {s : ByteArray} {ks : List ByteArray} {lo n cp nk ck g o1 R0 q0 j L K1 : Nat} {Ka : Option Addr} {R : Ending → World → Prop} {Ka1 Ka3 Ka4 : Act → World → Prop}
  (HR : Aside0 (R = NumPost w ((R0 - lo : Nat) : Int))) (HD : Aside0 (Dat w s lo n (some ⟨g, o1, none⟩))) (hn : n ≤ cp) (hw : Aside0 (SW w wr (.slice (some ⟨g, o1, none⟩) n cp))) (hjn : j < n) (hL : L ≤ j) {b : Bool} (hb : b = false) {m' e j' : Nat} (hq : m' < q0) (h2 : lo + j < e) (h3 : e ≤ lo + n) (h4 : BC s 123 125 (lo + n) e j' (lo + j) 0) (hs1 : SC s ks (lo + n) R0 m' e L K1 b)
  (u5 u6 u14 u15 u16 u17 u18 u19 u20 u21 u22 u23 u24 u25 u26 u27 u28 u29 u30 u31 u32 u33 u34 u35 u36 u37 u38 u39 u40 u41 u42 u43 u44 u45 u46 u47 u48 u49 u50 u51 u52 u53 u54 u55 u56 u57 u58 u59 u60 u61 u62 u63 u64 u65 u66 u67 u68 u69 u70 u71 u72 u74 u75 u76 u77 u78 u79 u80 u81 u82 u83 u84 u85 u86 u87 u88 u89 u90 u91 u92 u93 u94 u95 u96 u97 u98 u99 u100 u101 u102 u103 u104 u105 u106 u107 u108 u109 u110 u111 u112 u113 u114 u115 u116 u117 u118 u119 u120 u121 u122 u123 u124 u125 u126 u127 u128 u129 u130 u131 u132 u133 u134 u135 u136 u137 u138 u139 u140 u141 u142 u143 u144 u145 u146 u147 u148 u149 u150 u151 u152 u153 u154 u155 u156 u157 u158 u159 u160 u161 u162 u163 u164 u165 u166 u167 u168 u169 u170 u171 u172 u173 u174 u175 u176 u177 u178 u179 u180 u181 u182 u183 u184 u185 u186 u187 u188 u189 u190 u191 u192 u193 u194 u195 u196 u197 u198 u199 u200 u201 u202 u203 u204 u205 u206 u207 u208 u209 u210 u211 u212 u213 u214 u215 u216 u217 u218 u219 u220 u221 u222 u223 u224 u225 u226 u227 u228 u229 u230 u231 u232 u233 u234 u235 u236 u237 u238 u239 u240 u241 u242 u243 u244 u245 u246 u247 u248 u249 u250 u251 u252 u253 u254 u255 u256 u257 u258 u259 u260 u261 u262 u263 u264 u265 u266 u267 u268 u269 u270 u271 u272 u273 u274 u275 u276 u277 u278 u279 u280 u281 u282 : Value) (hK : ∀ (v7 v8 v9 v12 : Value) (x6 x14 x15 x16 x17 x18 x19 x20 x21 x22 x23 x24 x25 x26 x27 x28 x29 x30 x31 x32 x33 x34 x41 x42 x43 x44 x45 x46 x47 x48 x49 x50 x51 x52 x53 x54 x55 x56 x57 x58 x59 x60 x61 x62 x63 x64 x65 x66 x67 x68 x69 x70 x71 x72 x73 x74 x75 x76 x77 x78 x79 x80 x81 x82 x83 x84 x85 x86 x87 x88 x89 x90 x91 x92 x93 x94 x95 x96 x97 x98 x99 x100 x101 x102 x103 x104 x105 x106 x107 x108 x109 x110 x111 x112 x113 x114 x115 x116 x117 x118 x119 x120 x121 x122 x123 x124 x125 x126 x127 x128 x129 x130 x131 x132 x133 x134 x135 x136 x137 x138 x139 x140 x141 x142 x143 x144 x145 x146 x147 x148 x149 x150 x151 x152 x153 x154 x155 x156 x157 x158 x159 x160 x161 x162 x163 x164 x165 x166 x167 x168 x169 x170 x171 x172 x173 x174 x175 x176 x177 x178 x179 x180 x181 x182 x183 x184 x185 x186 x187 x188 x189 x190 x191 x192 x193 x194 x195 x196 x197 x198 x199 x200 x201 x202 x203 x204 x205 x206 x207 x208 x209 x210 x211 x212 x213 x214 x215 x216 x217 x218 x219 x220 x221 x222 x223 x224 x225 x226 x227 x228 x229 x230 x231 x232 x233 x234 x235 x236 x237 x238 x239 x240 x241 x242 x243 x244 x245 x246 x247 x248 x249 x250 x251 x252 x253 x254 x255 x256 x257 x258 x259 x260 x261 x262 x263 x264 x265 x266 x267 x268 x269 x270 x271 x272 x273 x274 x275 x276 x277 x278 x279 x280 x281 x282 : Value) (w' : World), Nx w s ks (lo + n) R0 lo q0 (.slice (some ⟨g, o1, none⟩) n cp) v7 v8 v9 v12 w' → Ka1 ⟨#[(.agg #[.bool false, .bool false, .int .i64 0]), (.slice (some ⟨g, o1, none⟩) n cp), (.slice Ka nk ck), (.pointer (some ⟨w.heap.size, 0, none⟩)), (.pointer (some ⟨w.heap.size + 1, 0, none⟩)), (u5), x6, (v7), (v8), (v9), (.int .i64 (n : Int)), (.int .i64 (nk : Int)), (v12), (.pointer (some ⟨w.heap.size + 1 + 1, 0, none⟩)), x14, x15, x16, x17, x18, x19, x20, x21, x22, x23, x24, x25, x26, x27, x28, x29, x30, x31, x32, x33, x34, (u35), (u36), (u37), (u38), (u39), (u40), x41, x42, x43, x44, x45, x46, x47, x48, x49, x50, x51, x52, x53, x54, x55, x56, x57, x58, x59, x60, x61, x62, x63, x64, x65, x66, x67, x68, x69, x70, x71, x72, x73, x74, x75, x76, x77, x78, x79, x80, x81, x82, x83, x84, x85, x86, x87, x88, x89, x90, x91, x92, x93, x94, x95, x96, x97, x98, x99, x100, x101, x102, x103, x104, x105, x106, x107, x108, x109, x110, x111, x112, x113, x114, x115, x116, x117, x118, x119, x120, x121, x122, x123, x124, x125, x126, x127, x128, x129, x130, x131, x132, x133, x134, x135, x136, x137, x138, x139, x140, x141, x142, x143, x144, x145, x146, x147, x148, x149, x150, x151, x152, x153, x154, x155, x156, x157, x158, x159, x160, x161, x162, x163, x164, x165, x166, x167, x168, x169, x170, x171, x172, x173, x174, x175, x176, x177, x178, x179, x180, x181, x182, x183, x184, x185, x186, x187, x188, x189, x190, x191, x192, x193, x194, x195, x196, x197, x198, x199, x200, x201, x202, x203, x204, x205, x206, x207, x208, x209, x210, x211, x212, x213, x214, x215, x216, x217, x218, x219, x220, x221, x222, x223, x224, x225, x226, x227, x228, x229, x230, x231, x232, x233, x234, x235, x236, x237, x238, x239, x240, x241, x242, x243, x244, x245, x246, x247, x248, x249, x250, x251, x252, x253, x254, x255, x256, x257, x258, x259, x260, x261, x262, x263, x264, x265, x266, x267, x268, x269, x270, x271, x272, x273, x274, x275, x276, x277, x278, x279, x280, x281, x282], []⟩ w') :
  Code.wp Tryz.prog B4 (Exit.then Ka1 (Exit.inBlock 1 (Exit.then Ka3 (Exit.inBlock 0 (Exit.then Ka4 (bodyPost Tryz.prog Tryz.f58 R)))))) ⟨#[(.agg #[.bool false, .bool false, .int .i64 0]), (.slice (some ⟨g, o1, none⟩) n cp), (.slice Ka nk ck), (.pointer (some ⟨w.heap.size, 0, none⟩)), (.pointer (some ⟨w.heap.size + 1, 0, none⟩)), u5, u6, (.int .i64 (K1 : Int)), (.int .i64 (L : Int)), (.int .i64 (j : Int)), (.int .i64 (n : Int)), (.int .i64 (nk : Int)), (.bool b), (.pointer (some ⟨w.heap.size + 1 + 1, 0, none⟩)), u14, u15, u16, u17, u18, u19, u20, u21, u22, u23, u24, u25, u26, u27, u28, u29, u30, u31, u32, u33, u34, u35, u36, u37, u38, u39, u40, u41, u42, u43, u44, u45, u46, u47, u48, u49, u50, u51, u52, u53, u54, u55, u56, u57, u58, u59, u60, u61, u62, u63, u64, u65, u66, u67, u68, u69, u70, u71, u72, (.int .u8 123), u74, u75, u76, u77, u78, u79, u80, u81, u82, u83, u84, u85, u86, u87, u88, u89, u90, u91, u92, u93, u94, u95, u96, u97, u98, u99, u100, u101, u102, u103, u104, u105, u106, u107, u108, u109, u110, u111, u112, u113, u114, u115, u116, u117, u118, u119, u120, u121, u122, u123, u124, u125, u126, u127, u128, u129, u130, u131, u132, u133, u134, u135, u136, u137, u138, u139, u140, u141, u142, u143, u144, u145, u146, u147, u148, u149, u150, u151, u152, u153, u154, u155, u156, u157, u158, u159, u160, u161, u162, u163, u164, u165, u166, u167, u168, u169, u170, u171, u172, u173, u174, u175, u176, u177, u178, u179, u180, u181, u182, u183, u184, u185, u186, u187, u188, u189, u190, u191, u192, u193, u194, u195, u196, u197, u198, u199, u200, u201, u202, u203, u204, u205, u206, u207, u208, u209, u210, u211, u212, u213, u214, u215, u216, u217, u218, u219, u220, u221, u222, u223, u224, u225, u226, u227, u228, u229, u230, u231, u232, u233, u234, u235, u236, u237, u238, u239, u240, u241, u242, u243, u244, u245, u246, u247, u248, u249, u250, u251, u252, u253, u254, u255, u256, u257, u258, u259, u260, u261, u262, u263, u264, u265, u266, u267, u268, u269, u270, u271, u272, u273, u274, u275, u276, u277, u278, u279, u280, u281, u282], []⟩ wr := by
 subst hb
 have HK := az hK
 have hsz : (n : Int) ≤ 65536 := by have := HD.out.1; have := HD.out.2.1; omega
 have hjn6 : (j : Int) < (n : Int) := by omega
 have hL6 : (L : Int) ≤ 65536 := by omega
 obtain ⟨d, rfl⟩ : ∃ d, e = lo + (j + d) := ⟨e - (lo + j), by omega⟩
 have hb0 := (blk_cell hw.out.2.1 0).trans rfl
 have hb1 := (blk_cell hw.out.2.1 1).trans rfl
 have hb2 := (blk_cell hw.out.2.1 2).trans rfl
 have hd0 := (blk_cell hw.out.2.2.1 0).trans rfl
 have HDr := HD.out.below hw.out.1
 have CB := az (fun (W : World) (hW : Below wr.heap.size wr W) => blockEnd_calls (cp := cp - j) ((HDr.cutS (k := j) (by omega)).below hW) (by omega) (show Pair 123 125 from .inr ⟨rfl, rfl⟩) (by rw [show lo + j + (n - j) = lo + n by omega]; exact h4))
 rw [show lo + (j + d) - (lo + j) = d by omega] at CB
 have hcp : ¬ cp = j := by omega
 have hcp1 : (j : Int) ≤ (cp : Int) := by omega
 have hnc : (n : Int) ≤ (cp : Int) := by omega
 have hd6 : (d : Int) ≤ 65536 := by omega
 have hd7 : (1 : Int) ≤ (d : Int) := by omega
 have hjd : (j : Int) + (d : Int) ≤ 65536 := by omega
 have HH := az3 hs1 hq (show j + d ≤ n by omega)
 clear h2 h3 h4 hs1 HDr hq hK
 conv => arg 2; whnf
 go_upto_region 57 with fail
 go_cut [25] (fun v25 w' => v25 = .int .i64 (d : Int) ∧ Aside0 (Below wr.heap.size wr w'))
 case first =>
  go_region_with (go_at_call 67; refine Calls.mono (CB.out _ ?_) ?_; exact ⟨rfl, rfl, rfl, Nat.le_refl _, fun _ _ => rfl⟩; rintro e w1 ⟨rfl, hbl⟩; dsimp only; have HB1 := az (undrew hbl); clear hbl)
  all_goals
   go_wp2_with fail
   go_meet
   exact ⟨by first | rfl | (rename_i hh; exact (Ending.returned.inj hh).symm), HB1⟩
 case rest =>
 obtain ⟨rfl, HB1⟩ := hcut
 have hd1 := (blk_cell (hw.out.below HB1.out).2.2.1 0).trans rfl
 have t1 : ((d : Int) == -1) = false := beqF
 clear hb0 hb1 hb2 hd0
 go_wp2_with fail
 apply HK.out
 exact ⟨K1, L, j + d - 1, m', _, rfl, rfl, by go_num, rfl, HH.out.2.1, by rw [show lo + (j + d - 1 + 1) = lo + (j + d) by omega]; exact HH.out.1, by omega, hw.out.below HB1.out⟩
theorem case_skipA {w wr : World} {s : ByteArray} {ks : List ByteArray} {lo n cp nk ck g o1 R0 q0 j L K1 : Nat} {Ka : Option Addr} {R : Ending → World → Prop} {Ka1 Ka3 Ka4 : Act → World → Prop}
  (HR : Aside0 (R = NumPost w ((R0 - lo : Nat) : Int))) (HD : Aside0 (Dat w s lo n (some ⟨g, o1, none⟩))) (hn : n ≤ cp) (hw : Aside0 (SW w wr (.slice (some ⟨g, o1, none⟩) n cp))) (hjn : j < n) (hL : L ≤ j) {b : Bool} (hne : K1 ≠ L) {m' e j' : Nat} (hq : m' < q0) (h2 : lo + j < e) (h3 : e ≤ lo + n) (h4 : BC s 91 93 (lo + n) e j' (lo + j) 0) (hs1 : SC s ks (lo + n) R0 m' e L K1 b)
  (u5 u6 u14 u15 u16 u17 u18 u19 u20 u21 u22 u23 u24 u25 u26 u27 u28 u29 u30 u31 u32 u33 u34 u35 u36 u37 u38 u39 u40 u41 u42 u43 u44 u45 u46 u47 u48 u49 u50 u51 u52 u53 u54 u55 u56 u57 u58 u59 u60 u61 u62 u63 u64 u65 u66 u67 u68 u69 u70 u71 u72 u74 u75 u76 u77 u78 u79 u80 u81 u82 u83 u84 u85 u86 u87 u88 u89 u90 u91 u92 u93 u94 u95 u96 u97 u98 u99 u100 u101 u102 u103 u104 u105 u106 u107 u108 u109 u110 u111 u112 u113 u114 u115 u116 u117 u118 u119 u120 u121 u122 u123 u124 u125 u126 u127 u128 u129 u130 u131 u132 u133 u134 u135 u136 u137 u138 u139 u140 u141 u142 u143 u144 u145 u146 u147 u148 u149 u150 u151 u152 u153 u154 u155 u156 u157 u158 u159 u160 u161 u162 u163 u164 u165 u166 u167 u168 u169 u170 u171 u172 u173 u174 u175 u176 u177 u178 u179 u180 u181 u182 u183 u184 u185 u186 u187 u188 u189 u190 u191 u192 u193 u194 u195 u196 u197 u198 u199 u200 u201 u202 u203 u204 u205 u206 u207 u208 u209 u210 u211 u212 u213 u214 u215 u216 u217 u218 u219 u220 u221 u222 u223 u224 u225 u226 u227 u228 u229 u230 u231 u232 u233 u234 u235 u236 u237 u238 u239 u240 u241 u242 u243 u244 u245 u246 u247 u248 u249 u250 u251 u252 u253 u254 u255 u256 u257 u258 u259 u260 u261 u262 u263 u264 u265 u266 u267 u268 u269 u270 u271 u272 u273 u274 u275 u276 u277 u278 u279 u280 u281 u282 : Value) (hK : ∀ (v7 v8 v9 v12 : Value) (x6 x14 x15 x16 x17 x18 x19 x20 x21 x22 x23 x24 x25 x26 x27 x28 x29 x30 x31 x32 x33 x34 x41 x42 x43 x44 x45 x46 x47 x48 x49 x50 x51 x52 x53 x54 x55 x56 x57 x58 x59 x60 x61 x62 x63 x64 x65 x66 x67 x68 x69 x70 x71 x72 x73 x74 x75 x76 x77 x78 x79 x80 x81 x82 x83 x84 x85 x86 x87 x88 x89 x90 x91 x92 x93 x94 x95 x96 x97 x98 x99 x100 x101 x102 x103 x104 x105 x106 x107 x108 x109 x110 x111 x112 x113 x114 x115 x116 x117 x118 x119 x120 x121 x122 x123 x124 x125 x126 x127 x128 x129 x130 x131 x132 x133 x134 x135 x136 x137 x138 x139 x140 x141 x142 x143 x144 x145 x146 x147 x148 x149 x150 x151 x152 x153 x154 x155 x156 x157 x158 x159 x160 x161 x162 x163 x164 x165 x166 x167 x168 x169 x170 x171 x172 x173 x174 x175 x176 x177 x178 x179 x180 x181 x182 x183 x184 x185 x186 x187 x188 x189 x190 x191 x192 x193 x194 x195 x196 x197 x198 x199 x200 x201 x202 x203 x204 x205 x206 x207 x208 x209 x210 x211 x212 x213 x214 x215 x216 x217 x218 x219 x220 x221 x222 x223 x224 x225 x226 x227 x228 x229 x230 x231 x232 x233 x234 x235 x236 x237 x238 x239 x240 x241 x242 x243 x244 x245 x246 x247 x248 x249 x250 x251 x252 x253 x254 x255 x256 x257 x258 x259 x260 x261 x262 x263 x264 x265 x266 x267 x268 x269 x270 x271 x272 x273 x274 x275 x276 x277 x278 x279 x280 x281 x282 : Value) (w' : World), Nx w s ks (lo + n) R0 lo q0 (.slice (some ⟨g, o1, none⟩) n cp) v7 v8 v9 v12 w' → Ka1 ⟨#[(.agg #[.bool false, .bool false, .int .i64 0]), (.slice (some ⟨g, o1, none⟩) n cp), (.slice Ka nk ck), (.pointer (some ⟨w.heap.size, 0, none⟩)), (.pointer (some ⟨w.heap.size + 1, 0, none⟩)), (u5), x6, (v7), (v8), (v9), (.int .i64 (n : Int)), (.int .i64 (nk : Int)), (v12), (.pointer (some ⟨w.heap.size + 1 + 1, 0, none⟩)), x14, x15, x16, x17, x18, x19, x20, x21, x22, x23, x24, x25, x26, x27, x28, x29, x30, x31, x32, x33, x34, (u35), (u36), (u37), (u38), (u39), (u40), x41, x42, x43, x44, x45, x46, x47, x48, x49, x50, x51, x52, x53, x54, x55, x56, x57, x58, x59, x60, x61, x62, x63, x64, x65, x66, x67, x68, x69, x70, x71, x72, x73, x74, x75, x76, x77, x78, x79, x80, x81, x82, x83, x84, x85, x86, x87, x88, x89, x90, x91, x92, x93, x94, x95, x96, x97, x98, x99, x100, x101, x102, x103, x104, x105, x106, x107, x108, x109, x110, x111, x112, x113, x114, x115, x116, x117, x118, x119, x120, x121, x122, x123, x124, x125, x126, x127, x128, x129, x130, x131, x132, x133, x134, x135, x136, x137, x138, x139, x140, x141, x142, x143, x144, x145, x146, x147, x148, x149, x150, x151, x152, x153, x154, x155, x156, x157, x158, x159, x160, x161, x162, x163, x164, x165, x166, x167, x168, x169, x170, x171, x172, x173, x174, x175, x176, x177, x178, x179, x180, x181, x182, x183, x184, x185, x186, x187, x188, x189, x190, x191, x192, x193, x194, x195, x196, x197, x198, x199, x200, x201, x202, x203, x204, x205, x206, x207, x208, x209, x210, x211, x212, x213, x214, x215, x216, x217, x218, x219, x220, x221, x222, x223, x224, x225, x226, x227, x228, x229, x230, x231, x232, x233, x234, x235, x236, x237, x238, x239, x240, x241, x242, x243, x244, x245, x246, x247, x248, x249, x250, x251, x252, x253, x254, x255, x256, x257, x258, x259, x260, x261, x262, x263, x264, x265, x266, x267, x268, x269, x270, x271, x272, x273, x274, x275, x276, x277, x278, x279, x280, x281, x282], []⟩ w') :
  Code.wp Tryz.prog B4 (Exit.then Ka1 (Exit.inBlock 1 (Exit.then Ka3 (Exit.inBlock 0 (Exit.then Ka4 (bodyPost Tryz.prog Tryz.f58 R)))))) ⟨#[(.agg #[.bool false, .bool false, .int .i64 0]), (.slice (some ⟨g, o1, none⟩) n cp), (.slice Ka nk ck), (.pointer (some ⟨w.heap.size, 0, none⟩)), (.pointer (some ⟨w.heap.size + 1, 0, none⟩)), u5, u6, (.int .i64 (K1 : Int)), (.int .i64 (L : Int)), (.int .i64 (j : Int)), (.int .i64 (n : Int)), (.int .i64 (nk : Int)), (.bool b), (.pointer (some ⟨w.heap.size + 1 + 1, 0, none⟩)), u14, u15, u16, u17, u18, u19, u20, u21, u22, u23, u24, u25, u26, u27, u28, u29, u30, u31, u32, u33, u34, u35, u36, u37, u38, u39, u40, u41, u42, u43, u44, u45, u46, u47, u48, u49, u50, u51, u52, u53, u54, u55, u56, u57, u58, u59, u60, u61, u62, u63, u64, u65, u66, u67, u68, u69, u70, u71, u72, (.int .u8 91), u74, u75, u76, u77, u78, u79, u80, u81, u82, u83, u84, u85, u86, u87, u88, u89, u90, u91, u92, u93, u94, u95, u96, u97, u98, u99, u100, u101, u102, u103, u104, u105, u106, u107, u108, u109, u110, u111, u112, u113, u114, u115, u116, u117, u118, u119, u120, u121, u122, u123, u124, u125, u126, u127, u128, u129, u130, u131, u132, u133, u134, u135, u136, u137, u138, u139, u140, u141, u142, u143, u144, u145, u146, u147, u148, u149, u150, u151, u152, u153, u154, u155, u156, u157, u158, u159, u160, u161, u162, u163, u164, u165, u166, u167, u168, u169, u170, u171, u172, u173, u174, u175, u176, u177, u178, u179, u180, u181, u182, u183, u184, u185, u186, u187, u188, u189, u190, u191, u192, u193, u194, u195, u196, u197, u198, u199, u200, u201, u202, u203, u204, u205, u206, u207, u208, u209, u210, u211, u212, u213, u214, u215, u216, u217, u218, u219, u220, u221, u222, u223, u224, u225, u226, u227, u228, u229, u230, u231, u232, u233, u234, u235, u236, u237, u238, u239, u240, u241, u242, u243, u244, u245, u246, u247, u248, u249, u250, u251, u252, u253, u254, u255, u256, u257, u258, u259, u260, u261, u262, u263, u264, u265, u266, u267, u268, u269, u270, u271, u272, u273, u274, u275, u276, u277, u278, u279, u280, u281, u282], []⟩ wr := by
 have HK := az hK
 have hsz : (n : Int) ≤ 65536 := by have := HD.out.1; have := HD.out.2.1; omega
 have hjn6 : (j : Int) < (n : Int) := by omega
 have hL6 : (L : Int) ≤ 65536 := by omega
 obtain ⟨d, rfl⟩ : ∃ d, e = lo + (j + d) := ⟨e - (lo + j), by omega⟩
 have hb0 := (blk_cell hw.out.2.1 0).trans rfl
 have hb1 := (blk_cell hw.out.2.1 1).trans rfl
 have hb2 := (blk_cell hw.out.2.1 2).trans rfl
 have hd0 := (blk_cell hw.out.2.2.1 0).trans rfl
 have HDr := HD.out.below hw.out.1
 have CB := az (fun (W : World) (hW : Below wr.heap.size wr W) => blockEnd_calls (cp := cp - j) ((HDr.cutS (k := j) (by omega)).below hW) (by omega) (show Pair 91 93 from .inl ⟨rfl, rfl⟩) (by rw [show lo + j + (n - j) = lo + n by omega]; exact h4))
 rw [show lo + (j + d) - (lo + j) = d by omega] at CB
 have hcp : ¬ cp = j := by omega
 have hcp1 : (j : Int) ≤ (cp : Int) := by omega
 have hnc : (n : Int) ≤ (cp : Int) := by omega
 have hd6 : (d : Int) ≤ 65536 := by omega
 have hd7 : (1 : Int) ≤ (d : Int) := by omega
 have hjd : (j : Int) + (d : Int) ≤ 65536 := by omega
 have t2 : ((K1 : Int) == (L : Int)) = false := beqF
 have t2n : (K1 == L) = false := beqFn hne
 clear hne
 have HH := az3 hs1 hq (show j + d ≤ n by omega)
 clear h2 h3 h4 hs1 HDr hq hK
 conv => arg 2; whnf
 go_upto_region 85 with fail
 go_cut [34] (fun v34 w' => v34 = .int .i64 (d : Int) ∧ Aside0 (Below wr.heap.size wr w'))
 case first =>
  go_region_with (go_at_call 67; refine Calls.mono (CB.out _ ?_) ?_; exact ⟨rfl, rfl, rfl, Nat.le_refl _, fun _ _ => rfl⟩; rintro e w1 ⟨rfl, hbl⟩; dsimp only; have HB1 := az (undrew hbl); clear hbl)
  all_goals
   go_wp2_with fail
   go_meet
   exact ⟨by first | rfl | (rename_i hh; exact (Ending.returned.inj hh).symm), HB1⟩
 case rest =>
 obtain ⟨rfl, HB1⟩ := hcut
 have hd1 := (blk_cell (hw.out.below HB1.out).2.2.1 0).trans rfl
 have t1 : ((d : Int) == -1) = false := beqF
 clear hb0 hb1 hb2 hd0
 go_wp2_with fail
 apply HK.out
 exact ⟨K1, L, j + d - 1, m', _, rfl, rfl, by go_num, rfl, HH.out.2.1, by rw [show lo + (j + d - 1 + 1) = lo + (j + d) by omega]; exact HH.out.1, by omega, hw.out.below HB1.out⟩
end JS
end Go.Proofs.YtbimfhaokgigkaaGreatDoor
