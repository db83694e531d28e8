/- Walks of functions of FnJpGetFloat (X19); conditions stand ahead of each theorem. -/
import Derived.Test.YtbimfhaokgigkaaGreatDoorT35
set_option linter.unusedVariables false
set_option linter.unusedSimpArgs false
set_option maxRecDepth 1000000
set_option maxHeartbeats 8000000
namespace Go.Proofs.YtbimfhaokgigkaaGreatDoor
open Go.RowKit Go.Proofs.YtbimfhaokgigkaaGreatDoorW.PrintWords Go.Proofs.YtbimfhaokgigkaaGreatDoorW.PrintLast
namespace JS
theorem Els.len {s : ByteArray} {a e : Nat} {kids : List JT} : Els s a e kids → a + kids.length ≤ e
 | .last t c h1 h2 h3 h4 => by have := V.le h1; have := h2.1; show t.b + 1 ≤ c + 1; omega
 | .more t c a e r h1 h2 h3 h4 h5 h6 => by have := Els.len h6; have := V.le h1; have := h2.1; have := h5.1; show t.b + (r.length + 1) ≤ e; omega
theorem V.kidsLen {s : ByteArray} {t : JT} (h : V s t) (hk : t.kind = 5) : t.kids.length ≤ t.e := by
 cases h with
 | word k0 b e h => exact Nat.zero_le _
 | num b e h => exact Nat.zero_le _
 | str b e h => exact Nat.zero_le _
 | arr0 b c h1 h2 h3 h4 => exact Nat.zero_le _
 | arr b a e kids h1 h2 h3 => have := Els.len h3; show kids.length ≤ e; omega
 | obj0 b c h1 h2 h3 h4 => exact Nat.zero_le _
 | obj b a e ns kids h1 h2 h3 => cases hk
mutual
theorem Srch.hi {s : ByteArray} {ks : List ByteArray} {lo hi R : Nat} : Srch s ks lo hi R → lo ≤ hi → R ≤ hi
 | .nil _ _, h0 => h0
 | .go _ _ _ _ _ _ h, _ => SC.hi h
theorem SC.hi {s : ByteArray} {ks : List ByteArray} {hi R n i L K : Nat} {m : Bool} : SC s ks hi R n i L K m → R ≤ hi
 | .one _ _ _ _ _ _ _ _ _ _ _ _ _ _ h => SC.hi h
 | .val _ _ _ _ _ e p _ _ _ h1 h2 _ _ _ h => SC.hi h
 | .no _ _ _ _ _ e p _ _ _ _ h1 h2 _ _ _ _ h => SC.hi h
 | .yes _ _ _ _ _ e p _ _ _ h1 h2 _ _ _ _ _ h => SC.hi h
 | .fin _ _ _ e p _ _ _ h1 h2 h3 _ _ _ _ => h3
 | .opn _ _ _ _ _ _ _ _ _ h => SC.hi h
 | .skipO _ _ _ _ _ _ _ _ _ _ _ h _ _ k => SC.hi k
 | .skipA _ _ _ _ _ _ _ _ _ _ _ _ _ h _ _ k => SC.hi k
 | .idx _ _ _ _ _ _ _ t el hv hk hte _ _ hkid h => by have := Srch.hi h (by have := V.le (V.kid hv hkid).1; omega); have := (V.kid hv hkid).2; omega
end
theorem bn_get (k : ByteArray) (i : Nat) (h : i < k.size) : bn k i = (k[i]'h).toNat := by
 unfold bn bt
 rw [dif_pos (show ((i : Int)).toNat < k.size from h)]
 simp
theorem CV.start {wa : World} {D : Nat} {idx ci : Int} {dv : Value} (hD : wa.heap[D]? = some (.cells #[dv] 43 (0, 0))) :
  CV (((((wa.alloc (.cells #[.int .i64 idx] 3)).alloc (.cells #[.int .i64 0] 3)).alloc (.cells #[.slice none 0 0] 43)).alloc (.cells #[.int .i64 0] 3)).alloc (.cells #[.int .i64 ci] 3)) wa.heap.size D idx 0 (.slice none 0 0) 0 ci dv := by
 obtain ⟨a1, e1⟩ : ∃ a1, a1 = wa.alloc (.cells #[.int .i64 idx] 3) := ⟨_, rfl⟩
 obtain ⟨a2, e2⟩ : ∃ a2, a2 = a1.alloc (.cells #[.int .i64 0] 3) := ⟨_, rfl⟩
 obtain ⟨a3, e3⟩ : ∃ a3, a3 = a2.alloc (.cells #[.slice none 0 0] 43) := ⟨_, rfl⟩
 obtain ⟨a4, e4⟩ : ∃ a4, a4 = a3.alloc (.cells #[.int .i64 0] 3) := ⟨_, rfl⟩
 obtain ⟨a5, e5⟩ : ∃ a5, a5 = a4.alloc (.cells #[.int .i64 ci] 3) := ⟨_, rfl⟩
 have z1 : a1.heap.size = wa.heap.size + 1 := by rw [e1]; simp
 have z2 : a2.heap.size = wa.heap.size + 2 := by rw [e2]; simp; omega
 have z3 : a3.heap.size = wa.heap.size + 3 := by rw [e3]; simp; omega
 have z4 : a4.heap.size = wa.heap.size + 4 := by rw [e4]; simp; omega
 have h1 := heap_alloc_new wa (.cells #[.int .i64 idx] 3)
 have h2 := heap_alloc_new a1 (.cells #[.int .i64 0] 3)
 have h3 := heap_alloc_new a2 (.cells #[.slice none 0 0] 43)
 have h4 := heap_alloc_new a3 (.cells #[.int .i64 0] 3)
 have h5 := heap_alloc_new a4 (.cells #[.int .i64 ci] 3)
 rw [← e1] at h1
 rw [← e2, z1] at h2
 rw [← e3, z2] at h3
 rw [← e4, z3] at h4
 rw [← e5, z4] at h5
 have B1 : Below wa.heap.size wa a1 := e1 ▸ (Below.refl _ _).alloc (Nat.le_refl _) _
 have B2 : Below a1.heap.size a1 a2 := e2 ▸ (Below.refl _ _).alloc (Nat.le_refl _) _
 have B3 : Below a2.heap.size a2 a3 := e3 ▸ (Below.refl _ _).alloc (Nat.le_refl _) _
 have B4' : Below a3.heap.size a3 a4 := e4 ▸ (Below.refl _ _).alloc (Nat.le_refl _) _
 have B5 : Below a4.heap.size a4 a5 := e5 ▸ (Below.refl _ _).alloc (Nat.le_refl _) _
 rw [← e1, ← e2, ← e3, ← e4, ← e5]
 exact ⟨blk_below (blk_below (blk_below (blk_below h1 B2) B3) B4') B5, blk_below (blk_below (blk_below h2 B3) B4') B5, blk_below (blk_below h3 B4') B5, blk_below h4 B5, h5, blk_below (blk_below (blk_below (blk_below (blk_below hD B1) B2) B3) B4') B5, blk_lt hD⟩
theorem case_idx {w wr : World} {s : ByteArray} {ks : List ByteArray} {lo n cp nk ck g o1 R0 q0 j L K1 : Nat} {Ka : Option Addr} {R : Ending → World → Prop} {Ka1 Ka3 Ka4 : Act → World → Prop}
  (HR : Aside0 (R = NumPost w ((R0 - lo : Nat) : Int))) (HD : Aside0 (Dat w s lo n (some ⟨g, o1, none⟩))) (hn : n ≤ cp) (hw : Aside0 (SW w wr (.slice (some ⟨g, o1, none⟩) n cp))) (hjn : j < n) (hL : L ≤ j) {b : Bool} {j' : Nat} {k : ByteArray} {t el : JT} (hv : V s t) (hkd : t.kind = 5) (htb : t.b = lo + j) (hte : t.e ≤ lo + n) (hkl : ks[L]? = some k) (hbr : Brk k j') (hkid : t.kids[j']? = some el) (hsr : Srch s (ks.drop (L + 1)) el.b el.e R0)
  (hT : Aside0 (EscTab w)) (hks : Aside0 (Keys w Ka ks)) (hnk : nk = ks.length) (hck : nk ≤ ck)
  (IH : Aside0 (∀ (w : World) (lo n cp nk ck : Nat) (A K : Option Addr) (ks' : List ByteArray) (R0 : Nat), ks'.length < ks.length → Dat w s lo n A → n ≤ cp → Keys w K ks' → nk = ks'.length → nk ≤ ck → EscTab w → Srch s ks' lo (lo + n) R0 →
   Calls Tryz.prog 58 #[.agg #[.bool false, .bool false, .int .i64 0], .slice A n cp, .slice K nk ck] w (NumPost w ((R0 - lo : Nat) : Int))))
  (u5 u6 u14 u15 u16 u17 u18 u19 u20 u21 u22 u23 u24 u25 u26 u27 u28 u29 u30 u31 u32 u33 u34 u35 u36 u37 u38 u39 u40 u41 u42 u43 u44 u45 u46 u47 u48 u49 u50 u51 u52 u53 u54 u55 u56 u57 u58 u59 u60 u61 u62 u63 u64 u65 u66 u67 u68 u69 u70 u71 u72 u74 u75 u76 u77 u78 u79 u80 u81 u82 u83 u84 u85 u86 u87 u88 u89 u90 u91 u92 u93 u94 u95 u96 u97 u98 u99 u100 u101 u102 u103 u104 u105 u106 u107 u108 u109 u110 u111 u112 u113 u114 u115 u116 u117 u118 u119 u120 u121 u122 u123 u124 u125 u126 u127 u128 u129 u130 u131 u132 u133 u134 u135 u136 u137 u138 u139 u140 u141 u142 u143 u144 u145 u146 u147 u148 u149 u150 u151 u152 u153 u154 u155 u156 u157 u158 u159 u160 u161 u162 u163 u164 u165 u166 u167 u168 u169 u170 u171 u172 u173 u174 u175 u176 u177 u178 u179 u180 u181 u182 u183 u184 u185 u186 u187 u188 u189 u190 u191 u192 u193 u194 u195 u196 u197 u198 u199 u200 u201 u202 u203 u204 u205 u206 u207 u208 u209 u210 u211 u212 u213 u214 u215 u216 u217 u218 u219 u220 u221 u222 u223 u224 u225 u226 u227 u228 u229 u230 u231 u232 u233 u234 u235 u236 u237 u238 u239 u240 u241 u242 u243 u244 u245 u246 u247 u248 u249 u250 u251 u252 u253 u254 u255 u256 u257 u258 u259 u260 u261 u262 u263 u264 u265 u266 u267 u268 u269 u270 u271 u272 u273 u274 u275 u276 u277 u278 u279 u280 u281 u282 : Value) (hK : ∀ (v7 v8 v9 v12 : Value) (x6 x14 x15 x16 x17 x18 x19 x20 x21 x22 x23 x24 x25 x26 x27 x28 x29 x30 x31 x32 x33 x34 x41 x42 x43 x44 x45 x46 x47 x48 x49 x50 x51 x52 x53 x54 x55 x56 x57 x58 x59 x60 x61 x62 x63 x64 x65 x66 x67 x68 x69 x70 x71 x72 x73 x74 x75 x76 x77 x78 x79 x80 x81 x82 x83 x84 x85 x86 x87 x88 x89 x90 x91 x92 x93 x94 x95 x96 x97 x98 x99 x100 x101 x102 x103 x104 x105 x106 x107 x108 x109 x110 x111 x112 x113 x114 x115 x116 x117 x118 x119 x120 x121 x122 x123 x124 x125 x126 x127 x128 x129 x130 x131 x132 x133 x134 x135 x136 x137 x138 x139 x140 x141 x142 x143 x144 x145 x146 x147 x148 x149 x150 x151 x152 x153 x154 x155 x156 x157 x158 x159 x160 x161 x162 x163 x164 x165 x166 x167 x168 x169 x170 x171 x172 x173 x174 x175 x176 x177 x178 x179 x180 x181 x182 x183 x184 x185 x186 x187 x188 x189 x190 x191 x192 x193 x194 x195 x196 x197 x198 x199 x200 x201 x202 x203 x204 x205 x206 x207 x208 x209 x210 x211 x212 x213 x214 x215 x216 x217 x218 x219 x220 x221 x222 x223 x224 x225 x226 x227 x228 x229 x230 x231 x232 x233 x234 x235 x236 x237 x238 x239 x240 x241 x242 x243 x244 x245 x246 x247 x248 x249 x250 x251 x252 x253 x254 x255 x256 x257 x258 x259 x260 x261 x262 x263 x264 x265 x266 x267 x268 x269 x270 x271 x272 x273 x274 x275 x276 x277 x278 x279 x280 x281 x282 : Value) (w' : World), Nx w s ks (lo + n) R0 lo q0 (.slice (some ⟨g, o1, none⟩) n cp) v7 v8 v9 v12 w' → Ka1 ⟨#[(.agg #[.bool false, .bool false, .int .i64 0]), (.slice (some ⟨g, o1, none⟩) n cp), (.slice Ka nk ck), (.pointer (some ⟨w.heap.size, 0, none⟩)), (.pointer (some ⟨w.heap.size + 1, 0, none⟩)), (u5), x6, (v7), (v8), (v9), (.int .i64 (n : Int)), (.int .i64 (nk : Int)), (v12), (.pointer (some ⟨w.heap.size + 1 + 1, 0, none⟩)), x14, x15, x16, x17, x18, x19, x20, x21, x22, x23, x24, x25, x26, x27, x28, x29, x30, x31, x32, x33, x34, (u35), (u36), (u37), (u38), (u39), (u40), x41, x42, x43, x44, x45, x46, x47, x48, x49, x50, x51, x52, x53, x54, x55, x56, x57, x58, x59, x60, x61, x62, x63, x64, x65, x66, x67, x68, x69, x70, x71, x72, x73, x74, x75, x76, x77, x78, x79, x80, x81, x82, x83, x84, x85, x86, x87, x88, x89, x90, x91, x92, x93, x94, x95, x96, x97, x98, x99, x100, x101, x102, x103, x104, x105, x106, x107, x108, x109, x110, x111, x112, x113, x114, x115, x116, x117, x118, x119, x120, x121, x122, x123, x124, x125, x126, x127, x128, x129, x130, x131, x132, x133, x134, x135, x136, x137, x138, x139, x140, x141, x142, x143, x144, x145, x146, x147, x148, x149, x150, x151, x152, x153, x154, x155, x156, x157, x158, x159, x160, x161, x162, x163, x164, x165, x166, x167, x168, x169, x170, x171, x172, x173, x174, x175, x176, x177, x178, x179, x180, x181, x182, x183, x184, x185, x186, x187, x188, x189, x190, x191, x192, x193, x194, x195, x196, x197, x198, x199, x200, x201, x202, x203, x204, x205, x206, x207, x208, x209, x210, x211, x212, x213, x214, x215, x216, x217, x218, x219, x220, x221, x222, x223, x224, x225, x226, x227, x228, x229, x230, x231, x232, x233, x234, x235, x236, x237, x238, x239, x240, x241, x242, x243, x244, x245, x246, x247, x248, x249, x250, x251, x252, x253, x254, x255, x256, x257, x258, x259, x260, x261, x262, x263, x264, x265, x266, x267, x268, x269, x270, x271, x272, x273, x274, x275, x276, x277, x278, x279, x280, x281, x282], []⟩ w') :
  Code.wp Tryz.prog B4 (Exit.then Ka1 (Exit.inBlock 1 (Exit.then Ka3 (Exit.inBlock 0 (Exit.then Ka4 (bodyPost Tryz.prog Tryz.f58 R)))))) ⟨#[(.agg #[.bool false, .bool false, .int .i64 0]), (.slice (some ⟨g, o1, none⟩) n cp), (.slice Ka nk ck), (.pointer (some ⟨w.heap.size, 0, none⟩)), (.pointer (some ⟨w.heap.size + 1, 0, none⟩)), u5, u6, (.int .i64 (L : Int)), (.int .i64 (L : Int)), (.int .i64 (j : Int)), (.int .i64 (n : Int)), (.int .i64 (nk : Int)), (.bool b), (.pointer (some ⟨w.heap.size + 1 + 1, 0, none⟩)), u14, u15, u16, u17, u18, u19, u20, u21, u22, u23, u24, u25, u26, u27, u28, u29, u30, u31, u32, u33, u34, u35, u36, u37, u38, u39, u40, u41, u42, u43, u44, u45, u46, u47, u48, u49, u50, u51, u52, u53, u54, u55, u56, u57, u58, u59, u60, u61, u62, u63, u64, u65, u66, u67, u68, u69, u70, u71, u72, (.int .u8 91), u74, u75, u76, u77, u78, u79, u80, u81, u82, u83, u84, u85, u86, u87, u88, u89, u90, u91, u92, u93, u94, u95, u96, u97, u98, u99, u100, u101, u102, u103, u104, u105, u106, u107, u108, u109, u110, u111, u112, u113, u114, u115, u116, u117, u118, u119, u120, u121, u122, u123, u124, u125, u126, u127, u128, u129, u130, u131, u132, u133, u134, u135, u136, u137, u138, u139, u140, u141, u142, u143, u144, u145, u146, u147, u148, u149, u150, u151, u152, u153, u154, u155, u156, u157, u158, u159, u160, u161, u162, u163, u164, u165, u166, u167, u168, u169, u170, u171, u172, u173, u174, u175, u176, u177, u178, u179, u180, u181, u182, u183, u184, u185, u186, u187, u188, u189, u190, u191, u192, u193, u194, u195, u196, u197, u198, u199, u200, u201, u202, u203, u204, u205, u206, u207, u208, u209, u210, u211, u212, u213, u214, u215, u216, u217, u218, u219, u220, u221, u222, u223, u224, u225, u226, u227, u228, u229, u230, u231, u232, u233, u234, u235, u236, u237, u238, u239, u240, u241, u242, u243, u244, u245, u246, u247, u248, u249, u250, u251, u252, u253, u254, u255, u256, u257, u258, u259, u260, u261, u262, u263, u264, u265, u266, u267, u268, u269, u270, u271, u272, u273, u274, u275, u276, u277, u278, u279, u280, u281, u282], []⟩ wr := by
 have HK := az hK
 have hsz : (n : Int) ≤ 65536 := by have := HD.out.1; have := HD.out.2.1; omega
 have hjn6 : (j : Int) < (n : Int) := by omega
 have hL6 : (L : Int) ≤ 65536 := by omega
 have hLl : L < ks.length := (List.getElem?_eq_some_iff.1 hkl).1
 obtain ⟨gK, oK, rfl, hgK, hcK⟩ := hks.out.2 (by omega)
 have HKC : Aside0 (∀ W, Below w.heap.size w W → W.cell? ⟨gK, oK + L, none⟩ = some (.string k)) := ⟨fun W hW => by
  rw [← hcK L k hkl]; exact World.cell?_of_block (hW.block gK hgK)⟩
 have hkc := HKC.out wr hw.out.1
 have hd0 := (blk_cell hw.out.2.2.1 0).trans rfl
 have hb0 := (blk_cell hw.out.2.1 0).trans rfl
 have hb1 := (blk_cell hw.out.2.1 1).trans rfl
 have hb2 := (blk_cell hw.out.2.1 2).trans rfl
 have hle := V.le hv
 obtain ⟨hvel, hele⟩ := V.kid hv hkid
 have hell := V.le hvel
 have hebl := V.kidLo hv hkd hkid
 have hRle := Srch.le hsr
 have hj6 : j' < 1000000 := by
  have h1 := (List.getElem?_eq_some_iff.1 hkid).1
  have h2 := V.kidsLen hv hkd
  have := HD.out.1; have := HD.out.2.1
  omega
 have hk8 := hbr.small hj6
 obtain ⟨b1, b2, b3, b4, b5, b6⟩ := hbr
 have hk3i : (3 : Int) ≤ (k.size : Int) := by omega
 have hk8i : (k.size : Int) ≤ 8 := by omega
 have hLn : (L : Int) < (nk : Int) := by omega
 have hnk6 : (nk : Int) ≤ 65536 := by have := hks.out.1; omega
 have hcp : ¬ cp = j := by omega
 have hcp1 : (j : Int) ≤ (cp : Int) := by omega
 have hnc : (n : Int) ≤ (cp : Int) := by omega
 have q0' : (((k[0]'(by omega)).toNat : Int) == 91) = true := by rw [← bn_get k 0 (by omega), b2]; rfl
 have q1' : (((k[k.size - 1]'(by omega)).toNat : Int) != 93) = false := by rw [← bn_get k (k.size - 1) (by omega), b3]; rfl
 have hds : (k.extract 1 (k.size - 1)).size = k.size - 2 := by simp; omega
 have hat : Lib.atoi (k.extract 1 (k.size - 1)).data.toList = some (j' : Int) := Brk.atoi ⟨b1, b2, b3, b4, b5, b6⟩ hds (fun i hi => by
  rw [bn_get _ i hi, bn_get k (i + 1) (by omega), ByteArray.getElem_extract]
  congr 2
  omega)
 have CA := az (fun W => Tryz.strconv_Atoi (k.extract 1 (k.size - 1)) (j' : Int) (by omega) hat W)
 have s1 : ((k.size : Int) - 1).toNat = k.size - 1 := by omega
 have hE := az (And.intro hv (And.intro hkd (And.intro htb (And.intro hte (And.intro hkid (And.intro hsr (And.intro hn (And.intro hebl (And.intro hele (And.intro hell (And.intro hRle (And.intro hnk (And.intro hck (And.intro hLl hjn))))))))))))))
 have hk0 : 0 < k.size := by omega
 have hk1 : k.size - 1 < k.size := by omega
 have q0'' : (((k[0]'hk0).toNat : Int) == 91) = true := q0'
 have q1'' : (((k[k.size - 1]'hk1).toNat : Int) != 93) = false := q1'
 clear hj6 q0' q1' hK hv hkd htb hte hkid hsr hn hebl hele hell hRle hnk hck hkl hcK hgK b1 b2 b3 b4 b5 b6 hds hat hvel hle
 conv => arg 2; whnf
 go_upto_region 78 with (go_at_call 68; refine Calls.mono (CA.out _) ?_; rintro e wa ⟨rfl, tt, hwa⟩; dsimp only; have HA : Aside0 (Below wr.heap.size wr wa) := ⟨by rw [hwa]; exact Lib.bytesWorld_below _ _ _⟩; clear hwa tt)
 have hswa := hw.out.below HA.out
 have hCV := CV.start (idx := (j' : Int)) (ci := (j : Int)) hswa.2.2.1
 have hal : Below wa.heap.size wa (((((wa.alloc (.cells #[.int .i64 (j' : Int)] 3)).alloc (.cells #[.int .i64 0] 3)).alloc (.cells #[.slice none 0 0] 43)).alloc (.cells #[.int .i64 0] 3)).alloc (.cells #[.int .i64 (j : Int)] 3)) := (((((Below.refl _ _).alloc (Nat.le_refl _) _).alloc (by simp) _).alloc (by simp; omega) _).alloc (by simp; omega) _).alloc (by simp; omega) _
 have hsz5 : (((((wa.alloc (.cells #[.int .i64 (j' : Int)] 3)).alloc (.cells #[.int .i64 0] 3)).alloc (.cells #[.slice none 0 0] 43)).alloc (.cells #[.int .i64 0] 3)).alloc (.cells #[.int .i64 (j : Int)] 3)).heap.size = wa.heap.size + 5 := by simp
 obtain ⟨wx, hwx⟩ : ∃ wx, wx = (((((wa.alloc (.cells #[.int .i64 (j' : Int)] 3)).alloc (.cells #[.int .i64 0] 3)).alloc (.cells #[.slice none 0 0] 43)).alloc (.cells #[.int .i64 0] 3)).alloc (.cells #[.int .i64 (j : Int)] 3)) := ⟨_, rfl⟩
 rw [← hwx] at hCV hal hsz5 ⊢
 have hswx := hswa.below hal
 have hx0 := (blk_cell hswx.2.1 0).trans rfl
 have hx1 := (blk_cell hswx.2.1 1).trans rfl
 have hx2 := (blk_cell hswx.2.1 2).trans rfl
 have hx3 := (blk_cell hswx.2.2.1 0).trans rfl
 have HW := az4 hCV hsz5 hswx (HA.out.trans (hal.mono HA.out.size))
 have CE := az (fun (W : World) (h1 : Below wr.heap.size wr W) (h2 : wa.heap.size + 4 < W.heap.size) (h3 : CV W wa.heap.size (w.heap.size + 1) j' 0 (.slice none 0 0) 0 j (.slice (some ⟨g, o1, none⟩) n cp)) =>
  each_calls (HD.out.below hw.out.1) hE.out.2.2.2.2.2.2.1 h1 HA.out.size h2 hjn hE.out.1 hE.out.2.1 hE.out.2.2.1 hE.out.2.2.2.1 h3)
 clear hswa hCV hal hsz5 hswx hwx hb0 hb1 hb2 hd0 hkc
 go_cut [251] (fun v251 w' => Aside0 (SW w w' (.slice (some ⟨g, o1, none⟩) n cp) ∧ ∃ (g2 o2 c2 : Nat), w'.heap[wa.heap.size + 1 + 1]? = some (.cells #[.slice (some ⟨g2, o2, none⟩) (el.e - el.b) c2] 43 (0, 0)) ∧ w'.heap[wa.heap.size + 1 + 1 + 1]? = some (.cells #[.int .i64 ((el.b - (lo + j) : Nat) : Int)] 3 (0, 0)) ∧ Dat w' s el.b (el.e - el.b) (some ⟨g2, o2, none⟩) ∧ el.e - el.b ≤ c2))
 case first =>
  go_region_with (go_at_call 69; refine Calls.mono (CE.out _ ?_ ?_ ?_) ?_; exact ⟨HW.out.2.2.2.os, HW.out.2.2.2.tape, HW.out.2.2.2.output, HW.out.2.2.2.size, HW.out.2.2.2.block⟩; exact (show wa.heap.size + 4 < wx.heap.size by have := HW.out.2.1; omega); exact ⟨HW.out.1.idx, HW.out.1.cur, HW.out.1.vf, HW.out.1.vo, HW.out.1.ci, HW.out.1.dat, HW.out.1.far⟩; rintro e w3 ⟨r, vf, vo, rfl, hcv, hfr, hel⟩; dsimp only; have HE3 := az3 hcv hfr hel; clear hcv hfr hel)
  all_goals
   go_wp2_with fail
   go_meet
   obtain ⟨hcv, hfr, hel⟩ := HE3.out
   obtain ⟨hvo, A2, c2, hvf, hc2, hd⟩ := hel el hE.out.2.2.2.2.1
   have hell := hE.out.2.2.2.2.2.2.2.2.2.1
   obtain ⟨g2, o2, hA2, _⟩ := hd.2.2 (by omega)
   subst hA2
   have hszw : w.heap.size + 2 < wa.heap.size := Nat.lt_of_lt_of_le hw.out.2.2.2.lt HA.out.size
   have hsx := HW.out.2.2.1
   have hfr' : Fr wa.heap.size wx w3 := ⟨hfr.os, hfr.tape, hfr.output, hfr.size, hfr.block⟩
   have hlt := HW.out.2.1
   refine ⟨⟨below_fr hsx.1 hfr' (by omega), (hfr'.block _ (by omega) (by omega) (by omega) (by omega)).trans hsx.2.1, (hfr'.block _ (by omega) (by omega) (by omega) (by omega)).trans hsx.2.2.1, hsx.2.2.2.keep (hfr'.block _ (by omega) (by omega) (by omega) (by omega))⟩, g2, o2, c2, ?_, ?_, hd, hc2⟩
   ·rw [← hvf]; exact hcv.vf
   ·rw [← hvo]; exact hcv.vo
 case rest =>
 obtain ⟨hswc, g2, o2, c2, hv30, hv31, hdc, hc2⟩ := hcut.out
 have hb0 := (blk_cell hswc.2.1 0).trans rfl
 have hb1 := (blk_cell hswc.2.1 1).trans rfl
 have hb2 := (blk_cell hswc.2.1 2).trans rfl
 have hd0 := (blk_cell hswc.2.2.1 0).trans rfl
 have hd30 := (blk_cell hv30 0).trans rfl
 have hd31 := (blk_cell hv31 0).trans rfl
 obtain ⟨m, hm⟩ : ∃ m, m = el.e - el.b := ⟨_, rfl⟩
 rw [← hm] at hd30 hdc hc2 hv30
 obtain ⟨u, hu⟩ : ∃ u, u = el.b - (lo + j) := ⟨_, rfl⟩
 rw [← hu] at hd31 hv31
 obtain ⟨v, hvv⟩ : ∃ v, v = R0 - el.b := ⟨_, rfl⟩
 obtain ⟨z1, z2, z3, z4, z5, z6, z7, z8, z9, z10, z11, z12, z13, z14, z15⟩ := hE.out
 have hLn1 : (L : Int) + 1 ≤ (nk : Int) := by omega
 have hwr : IntKind.i64.wrap ((L : Int) + 1) = (L : Int) + 1 := by rw [IntKind.wrap_i64]; omega
 have hLc1 : (L : Int) + 1 ≤ (ck : Int) := by omega
 have hnkck : (nk : Int) ≤ (ck : Int) := by omega
 have hR0 : (j : Int) + (u : Int) + (v : Int) = ((R0 - lo : Nat) : Int) := by omega
 have hu6 : (u : Int) ≤ 65536 := by omega
 have hv6 : (v : Int) ≤ 65536 := by
  have h1 := Srch.hi z6 (by omega)
  have := HD.out.1; have := HD.out.2.1
  omega
 have hkeys := hks.out.below hswc.1
 have hk1 := hkeys.cut (k := L + 1) (c := ck) (by omega) (by omega)
 have CI := az (fun (W : World) (hW : Below wc.heap.size wc W) => IH.out W el.b m c2 (nk - (L + 1)) (ck - (L + 1)) (some ⟨g2, o2, none⟩) _ (ks.drop (L + 1)) R0 (by rw [List.length_drop]; omega) (hdc.below hW) hc2 (hk1.below hW) (by rw [List.length_drop]; omega) (by omega) ((hT.out.below hswc.1).below hW) (by rw [show el.b + m = el.e by omega]; exact z6))
 rw [← hvv] at CI
 have HF := az3 hR0 hswc hv30
 have HV31 := az hv31
 clear z1 z2 z3 z4 z5 z6 z7 z8 z9 z10 z11 z12 z13 z14 z15 hswc hv30 hv31 hdc hc2 hm hu hvv hR0 hkeys hk1
 obtain ⟨wd, rfl⟩ : ∃ wd, wd = wc := ⟨_, rfl⟩
 have hnil : ∀ W, (binOp .eql 43 (.slice (some ⟨g2, o2, none⟩) m c2) (.slice none 0 0)).run Tryz.prog W = .ok (.bool false) W := fun W => Lib.run_eql_slice_some_nil W _ _ _ Tryz.underlying43
 by_cases hckL : ck = L + 1
 ·rw [if_pos hckL] at CI
  have hnk7 : (nk : Int) ≤ (L : Int) + 1 := by omega
  subst hckL
  rw [Nat.sub_self (L + 1)] at CI
  go_upto_if 253 with fail
  exact idx_tailA (D0 := wa.heap.size) HR ⟨HF.out.2.1⟩ HF.out.2.2 HV31 hL6 hnk6 hLn1 hnk7 (by omega) hu6 hv6 ⟨HF.out.1⟩ CI _ _ _ _ _ _ _ _ _ _ _ _ _ _ _ _ _ _ _ _ _ _ _ _ _ _ _ _ _ _ _ _ _ _ _ _ _ _ _ _ _ _ _ _ _ _ _ _ _ _ _ _ _ _ _ _ _ _ _ _ _ _ _ _ _ _ _ _ _ _ _ _ _ _ _ _ _ _ _ _ _ _ _ _ _ _ _ _ _ _ _ _ _ _ _ _ _ _ _ _ _ _ _ _ _ _ _ _ _ _ _ _ _ _ _ _ _ _ _ _ _ _ _ _ _ _ _ _ _ _ _ _ _ _ _ _ _ _ _ _ _ _ _ _ _ _ _ _ _ _ _ _ _ _ _ _ _ _ _ _ _ _ _ _ _ _ _ _ _ _ _ _ _ _ _ _ _ _ _ _ _ _ _ _ _ _ _ _ _ _ _ _ _ _ _ _ _ _ _ _ _ _ _ _ _ _ _ _ _ _ _ _ _ _ _ _ _ _ _ _ _ _ _ _ _ _ _ _ _ _ _ _ _ _ _ _ _ _ _ _ _ _ _ _ _ _ _ _ _ _ _ _ _ _ _ _ _ _ _ _ _ _ _ _ _ _ _ _
 ·rw [if_neg hckL] at CI
  have eK : Option.map (fun x : Addr => x.add (L + 1)) (some ⟨gK, oK, none⟩) = some ⟨gK, oK + (L + 1), none⟩ := by
   show some (Addr.add _ _) = _
   unfold Addr.add
   rw [if_neg (by omega)]
  rw [eK] at CI
  go_upto_if 253 with fail
  exact idx_tailB (D0 := wa.heap.size) HR ⟨HF.out.2.1⟩ HF.out.2.2 HV31 hL6 hnk6 hLn1 hnkck hckL (by omega) hu6 hv6 ⟨HF.out.1⟩ CI _ _ _ _ _ _ _ _ _ _ _ _ _ _ _ _ _ _ _ _ _ _ _ _ _ _ _ _ _ _ _ _ _ _ _ _ _ _ _ _ _ _ _ _ _ _ _ _ _ _ _ _ _ _ _ _ _ _ _ _ _ _ _ _ _ _ _ _ _ _ _ _ _ _ _ _ _ _ _ _ _ _ _ _ _ _ _ _ _ _ _ _ _ _ _ _ _ _ _ _ _ _ _ _ _ _ _ _ _ _ _ _ _ _ _ _ _ _ _ _ _ _ _ _ _ _ _ _ _ _ _ _ _ _ _ _ _ _ _ _ _ _ _ _ _ _ _ _ _ _ _ _ _ _ _ _ _ _ _ _ _ _ _ _ _ _ _ _ _ _ _ _ _ _ _ _ _ _ _ _ _ _ _ _ _ _ _ _ _ _ _ _ _ _ _ _ _ _ _ _ _ _ _ _ _ _ _ _ _ _ _ _ _ _ _ _ _ _ _ _ _ _ _ _ _ _ _ _ _ _ _ _ _ _ _ _ _ _ _ _ _ _ _ _ _ _ _ _ _ _ _ _ _ _ _ _ _ _ _ _ _ _ _ _ _ _ _ _
end JS
end Go.Proofs.YtbimfhaokgigkaaGreatDoor
