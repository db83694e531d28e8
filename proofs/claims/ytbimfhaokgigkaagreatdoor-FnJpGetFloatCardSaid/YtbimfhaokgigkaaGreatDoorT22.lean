/- JSON values in a text, as places, and the search by keys: plain facts, no program; no condition. -/
import Derived.Test.YtbimfhaokgigkaaGreatDoorT00
namespace Go.Proofs.YtbimfhaokgigkaaGreatDoor
open Go.RowKit Go.Proofs.YtbimfhaokgigkaaGreatDoorW.PrintWords
namespace JS
def bn (s : ByteArray) (i : Nat) : Nat := (bt s (i : Int)).toNat
theorem bn_int (s : ByteArray) (i : Nat) : bt s (i : Int) = (bn s i : Int) := by
 unfold bn; have := bt_range s (i : Int); omega
theorem bn_lt (s : ByteArray) (i : Nat) : bn s i < 256 := by
 unfold bn; have := bt_range s (i : Int); omega
def blank (c : Nat) : Prop := c = 32 ∨ c = 9 ∨ c = 10 ∨ c = 13
instance (c : Nat) : Decidable (blank c) := by unfold blank; infer_instance
def digit (c : Nat) : Prop := 48 ≤ c ∧ c ≤ 57
instance (c : Nat) : Decidable (digit c) := by unfold digit; infer_instance
def hex (c : Nat) : Prop := (48 ≤ c ∧ c ≤ 57) ∨ (97 ≤ c ∧ c ≤ 102) ∨ (65 ≤ c ∧ c ≤ 70)
def short (c : Nat) : Prop := c = 34 ∨ c = 92 ∨ c = 47 ∨ c = 98 ∨ c = 102 ∨ c = 110 ∨ c = 114 ∨ c = 116
def Blanks (s : ByteArray) (a b : Nat) : Prop := a ≤ b ∧ b ≤ s.size ∧ ∀ k, a ≤ k → k < b → blank (bn s k)
inductive Inner (s : ByteArray) : Nat → Nat → Prop
 | done (a : Nat) : a ≤ s.size → Inner s a a
 | plain (a z : Nat) : a < s.size → bn s a ≠ 34 → bn s a ≠ 92 → 32 ≤ bn s a → Inner s (a + 1) z → Inner s a z
 | two (a z : Nat) : a + 1 < s.size → bn s a = 92 → short (bn s (a + 1)) → Inner s (a + 2) z → Inner s a z
 | six (a z : Nat) : a + 5 < s.size → bn s a = 92 → bn s (a + 1) = 117 → hex (bn s (a + 2)) → hex (bn s (a + 3)) → hex (bn s (a + 4)) → hex (bn s (a + 5)) → Inner s (a + 6) z → Inner s a z
def Str (s : ByteArray) (b e : Nat) : Prop := bn s b = 34 ∧ b + 2 ≤ e ∧ e ≤ s.size ∧ bn s (e - 1) = 34 ∧ Inner s (b + 1) (e - 1)
def numb (c : Nat) : Prop := (48 ≤ c ∧ c ≤ 57) ∨ c = 46 ∨ c = 45 ∨ c = 101 ∨ c = 69 ∨ c = 43
def Num (s : ByteArray) (b e : Nat) : Prop := b < e ∧ e ≤ s.size ∧ (bn s b = 45 ∨ digit (bn s b)) ∧ ∀ k, b ≤ k → k < e → numb (bn s k)
def word (k : Nat) : List Nat := if k = 0 then [110, 117, 108, 108] else if k = 1 then [102, 97, 108, 115, 101] else [116, 114, 117, 101]
def Word (s : ByteArray) (k b e : Nat) : Prop := k ≤ 2 ∧ e = b + (word k).length ∧ e ≤ s.size ∧ ∀ i, i < (word k).length → bn s (b + i) = (word k).getD i 0
inductive JT where
 | mk (kind b e : Nat) (names : List (Nat × Nat)) (kids : List JT)
def JT.kind : JT → Nat | .mk k _ _ _ _ => k
def JT.b : JT → Nat | .mk _ b _ _ _ => b
def JT.e : JT → Nat | .mk _ _ e _ _ => e
def JT.names : JT → List (Nat × Nat) | .mk _ _ _ n _ => n
def JT.kids : JT → List JT | .mk _ _ _ _ k => k
mutual
inductive V (s : ByteArray) : JT → Prop
 | word (k b e : Nat) : Word s k b e → V s (.mk k b e [] [])
 | num (b e : Nat) : Num s b e → V s (.mk 3 b e [] [])
 | str (b e : Nat) : Str s b e → V s (.mk 4 b e [] [])
 | arr0 (b c : Nat) : bn s b = 91 → Blanks s (b + 1) c → c < s.size → bn s c = 93 → V s (.mk 5 b (c + 1) [] [])
 | arr (b a e : Nat) (kids : List JT) : bn s b = 91 → Blanks s (b + 1) a → Els s a e kids → V s (.mk 5 b e [] kids)
 | obj0 (b c : Nat) : bn s b = 123 → Blanks s (b + 1) c → c < s.size → bn s c = 125 → V s (.mk 6 b (c + 1) [] [])
 | obj (b a e : Nat) (names : List (Nat × Nat)) (kids : List JT) : bn s b = 123 → Blanks s (b + 1) a → Mems s a e names kids → V s (.mk 6 b e names kids)
inductive Els (s : ByteArray) : Nat → Nat → List JT → Prop
 | last (t : JT) (c : Nat) : V s t → Blanks s t.e c → c < s.size → bn s c = 93 → Els s t.b (c + 1) [t]
 | more (t : JT) (c a e : Nat) (r : List JT) : V s t → Blanks s t.e c → c < s.size → bn s c = 44 → Blanks s (c + 1) a → Els s a e r → Els s t.b e (t :: r)
inductive Mems (s : ByteArray) : Nat → Nat → List (Nat × Nat) → List JT → Prop
 | last (b e c : Nat) (t : JT) (d : Nat) : Str s b e → Blanks s e c → c < s.size → bn s c = 58 → Blanks s (c + 1) t.b → V s t → Blanks s t.e d → d < s.size → bn s d = 125 → Mems s b (d + 1) [(b, e)] [t]
 | more (b e c : Nat) (t : JT) (d a z : Nat) (ns : List (Nat × Nat)) (r : List JT) : Str s b e → Blanks s e c → c < s.size → bn s c = 58 → Blanks s (c + 1) t.b → V s t → Blanks s t.e d → d < s.size → bn s d = 44 → Blanks s (d + 1) a → Mems s a z ns r → Mems s b z ((b, e) :: ns) (t :: r)
end
theorem Inner.le {s : ByteArray} {a z : Nat} (h : Inner s a z) : a ≤ z ∧ z ≤ s.size := by
 induction h with
 | done a h => exact ⟨Nat.le_refl _, h⟩
 | plain a z _ _ _ _ _ ih => omega
 | two a z _ _ _ _ ih => omega
 | six a z _ _ _ _ _ _ _ _ ih => omega
end JS
end Go.Proofs.YtbimfhaokgigkaaGreatDoor
namespace Go.Proofs.YtbimfhaokgigkaaGreatDoor
open Go.RowKit Go.Proofs.YtbimfhaokgigkaaGreatDoorW.PrintWords
namespace JS
def Neu (o c x : Nat) : Prop := x ≠ 34 ∧ x ≠ o ∧ x ≠ c
inductive BC (s : ByteArray) (o c hi E : Nat) : Nat → Nat → Nat → Prop
 | fin (i : Nat) : i < hi → bn s i = c → i + 1 = E → BC s o c hi E 0 i 1
 | one (n i L : Nat) : i < hi → Neu o c (bn s i) → BC s o c hi E n (i + 1) L → BC s o c hi E (n + 1) i L
 | str (n i e L : Nat) : Str s i e → e ≤ hi → BC s o c hi E n e L → BC s o c hi E (n + 1) i L
 | opn (n i L : Nat) : i < hi → bn s i = o → BC s o c hi E n (i + 1) (L + 1) → BC s o c hi E (n + 1) i L
 | cls (n i L : Nat) : i < hi → bn s i = c → 1 ≤ L → BC s o c hi E n (i + 1) L → BC s o c hi E (n + 1) i (L + 1)
def Pair (o c : Nat) : Prop := (o = 91 ∧ c = 93) ∨ (o = 123 ∧ c = 125)
section
variable {s : ByteArray} {o c hi E : Nat}
theorem BC.run {L : Nat} {a : Nat} : ∀ (m : Nat) {n : Nat}, (∀ k, a ≤ k → k < a + m → Neu o c (bn s k)) → a + m ≤ hi → BC s o c hi E n (a + m) L → ∃ n', BC s o c hi E n' a L
 | 0, n, _, _, h => ⟨n, h⟩
 | m + 1, n, hk, hh, h => by
  have h1 := BC.one n (a + m) L (by omega) (hk (a + m) (by omega) (by omega)) h
  exact BC.run m (fun k k1 k2 => hk k k1 (by omega)) (by omega) h1
theorem BC.span {L a b n : Nat} (hab : a ≤ b) (hk : ∀ k, a ≤ k → k < b → Neu o c (bn s k)) (hh : b ≤ hi) (h : BC s o c hi E n b L) : ∃ n', BC s o c hi E n' a L := by
 obtain ⟨m, rfl⟩ : ∃ m, b = a + m := ⟨b - a, by omega⟩
 exact BC.run m hk hh h
theorem BC.blanks {L a b n : Nat} (hp : Pair o c) (hb : Blanks s a b) (hh : b ≤ hi) (h : BC s o c hi E n b L) : ∃ n', BC s o c hi E n' a L :=
 BC.span hb.1 (fun k h1 h2 => by have := hb.2.2 k h1 h2; unfold blank at this; unfold Neu; rcases hp with ⟨rfl, rfl⟩ | ⟨rfl, rfl⟩ <;> omega) hh h
theorem neu_of (hp : Pair o c) {x : Nat} (h : x = 44 ∨ x = 58) : Neu o c x := by
 unfold Neu; rcases hp with ⟨rfl, rfl⟩ | ⟨rfl, rfl⟩ <;> omega
theorem word_get : ∀ k ≤ 2, ∀ i < (word k).length, 97 ≤ (word k).getD i 0 ∧ (word k).getD i 0 ≤ 122 := by decide
theorem word_len (k : Nat) : 1 ≤ (JS.word k).length := by
 unfold JS.word
 by_cases h : k = 0
 ·rw [if_pos h]; decide
 ·rw [if_neg h]; by_cases h1 : k = 1
  ·rw [if_pos h1]; decide
  ·rw [if_neg h1]; decide
theorem Els.close {a e : Nat} {kids : List JT} : Els s a e kids → 1 ≤ e ∧ bn s (e - 1) = 93
 | .last t c _ _ _ h => ⟨by omega, h⟩
 | .more t c a e r _ _ _ _ _ h => Els.close h
theorem Mems.close {a e : Nat} {ns : List (Nat × Nat)} {kids : List JT} : Mems s a e ns kids → 1 ≤ e ∧ bn s (e - 1) = 125
 | .last _ _ _ t d _ _ _ _ _ _ _ _ h => ⟨by omega, h⟩
 | .more _ _ _ _ _ _ _ _ _ _ _ _ _ _ _ _ _ _ _ h => Mems.close h
mutual
theorem V.le {t : JT} : V s t → t.b < t.e ∧ t.e ≤ s.size
 | .word k b e h => by obtain ⟨h1, h2, h3, h4⟩ := h; have := word_len k; exact ⟨by show b < e; omega, h3⟩
 | .num b e h => ⟨h.1, h.2.1⟩
 | .str b e h => ⟨by have := h.2.1; show b < e; omega, h.2.2.1⟩
 | .arr0 b c _ h h2 _ => ⟨by have := h.1; show b < c + 1; omega, h2⟩
 | .arr b a e kids _ h h2 => by have := h.1; have := Els.le h2; exact ⟨by show b < e; omega, this.2⟩
 | .obj0 b c _ h h2 _ => ⟨by have := h.1; show b < c + 1; omega, h2⟩
 | .obj b a e ns kids _ h h2 => by have := h.1; have := Mems.le h2; exact ⟨by show b < e; omega, this.2⟩
theorem Els.le {a e : Nat} {kids : List JT} : Els s a e kids → a + 1 < e ∧ e ≤ s.size
 | .last t c h1 h2 h3 _ => by have := V.le h1; have := h2.1; exact ⟨by omega, h3⟩
 | .more t c a e r h1 h2 h3 _ h4 h5 => by have := V.le h1; have := h2.1; have := h4.1; have := Els.le h5; exact ⟨by omega, this.2⟩
theorem Mems.le {a e : Nat} {ns : List (Nat × Nat)} {kids : List JT} : Mems s a e ns kids → a + 1 < e ∧ e ≤ s.size
 | .last b e c t d h1 h2 h3 h4 h5 h6 h7 h8 _ => by have := h1.2.1; have := h2.1; have := h5.1; have := V.le h6; have := h7.1; exact ⟨by omega, h8⟩
 | .more b e c t d a z ns r h1 h2 h3 h4 h5 h6 h7 h8 _ h9 h10 => by have := h1.2.1; have := h2.1; have := h5.1; have := V.le h6; have := h7.1; have := h9.1; have := Mems.le h10; exact ⟨by omega, this.2⟩
end
mutual
theorem V.skip {s : ByteArray} {o c hi E : Nat} (hp : Pair o c) {t : JT} {L n : Nat} (hL : 1 ≤ L) (hh : t.e ≤ hi) (k : BC s o c hi E n t.e L) : V s t → ∃ n', BC s o c hi E n' t.b L
 | .word k0 b e h => by
  obtain ⟨h1, h2, h3, h4⟩ := h
  refine BC.span (a := b) (b := e) (by omega) (fun j j1 j2 => ?_) hh k
  have e1 := h4 (j - b) (by omega)
  have e2 := word_get k0 h1 (j - b) (by omega)
  rw [show b + (j - b) = j by omega] at e1
  unfold Neu
  rcases hp with ⟨rfl, rfl⟩ | ⟨rfl, rfl⟩ <;> omega
 | .num b e h => by
  refine BC.span (a := b) (b := e) (Nat.le_of_lt h.1) (fun j j1 j2 => ?_) hh k
  have := h.2.2.2 j j1 j2
  unfold numb at this
  unfold Neu
  rcases hp with ⟨rfl, rfl⟩ | ⟨rfl, rfl⟩ <;> omega
 | .str b e h => ⟨_, BC.str n b e L h hh k⟩
 | .arr0 b d h1 h2 h3 h4 => by
  have hh' : d + 1 ≤ hi := hh
  have k' : BC s o c hi E n (d + 1) L := k
  have hb := h2.1
  rcases hp with ⟨rfl, rfl⟩ | ⟨rfl, rfl⟩
  ·obtain ⟨n1, k1⟩ := BC.blanks (.inl ⟨rfl, rfl⟩) h2 (by omega) (BC.cls n d L (by omega) h4 hL k')
   exact ⟨_, BC.opn n1 b L (by omega) h1 k1⟩
  ·obtain ⟨n1, k1⟩ := BC.blanks (.inr ⟨rfl, rfl⟩) h2 (by omega) (BC.one n d L (by omega) (by unfold Neu; omega) k')
   exact ⟨_, BC.one n1 b L (by omega) (by unfold Neu; omega) k1⟩
 | .arr b a e kids h1 h2 h3 => by
  have hh' : e ≤ hi := hh
  have k' : BC s o c hi E n e L := k
  have hb := h2.1
  have hl := Els.le h3
  have hc := Els.close h3
  have e1 : e - 1 + 1 = e := by omega
  rcases hp with ⟨rfl, rfl⟩ | ⟨rfl, rfl⟩
  ·obtain ⟨n1, k1⟩ := Els.skip (.inl ⟨rfl, rfl⟩) (by omega) hh' (BC.cls n (e - 1) L (by omega) hc.2 hL (by rw [e1]; exact k')) h3
   obtain ⟨n2, k2⟩ := BC.blanks (.inl ⟨rfl, rfl⟩) h2 (by omega) k1
   exact ⟨_, BC.opn n2 b L (by omega) h1 k2⟩
  ·obtain ⟨n1, k1⟩ := Els.skip (.inr ⟨rfl, rfl⟩) hL hh' (BC.one n (e - 1) L (by omega) (by unfold Neu; omega) (by rw [e1]; exact k')) h3
   obtain ⟨n2, k2⟩ := BC.blanks (.inr ⟨rfl, rfl⟩) h2 (by omega) k1
   exact ⟨_, BC.one n2 b L (by omega) (by unfold Neu; omega) k2⟩
 | .obj0 b d h1 h2 h3 h4 => by
  have hh' : d + 1 ≤ hi := hh
  have k' : BC s o c hi E n (d + 1) L := k
  have hb := h2.1
  rcases hp with ⟨rfl, rfl⟩ | ⟨rfl, rfl⟩
  ·obtain ⟨n1, k1⟩ := BC.blanks (.inl ⟨rfl, rfl⟩) h2 (by omega) (BC.one n d L (by omega) (by unfold Neu; omega) k')
   exact ⟨_, BC.one n1 b L (by omega) (by unfold Neu; omega) k1⟩
  ·obtain ⟨n1, k1⟩ := BC.blanks (.inr ⟨rfl, rfl⟩) h2 (by omega) (BC.cls n d L (by omega) h4 hL k')
   exact ⟨_, BC.opn n1 b L (by omega) h1 k1⟩
 | .obj b a e ns kids h1 h2 h3 => by
  have hh' : e ≤ hi := hh
  have k' : BC s o c hi E n e L := k
  have hb := h2.1
  have hl := Mems.le h3
  have hc := Mems.close h3
  have e1 : e - 1 + 1 = e := by omega
  rcases hp with ⟨rfl, rfl⟩ | ⟨rfl, rfl⟩
  ·obtain ⟨n1, k1⟩ := Mems.skip (.inl ⟨rfl, rfl⟩) hL hh' (BC.one n (e - 1) L (by omega) (by unfold Neu; omega) (by rw [e1]; exact k')) h3
   obtain ⟨n2, k2⟩ := BC.blanks (.inl ⟨rfl, rfl⟩) h2 (by omega) k1
   exact ⟨_, BC.one n2 b L (by omega) (by unfold Neu; omega) k2⟩
  ·obtain ⟨n1, k1⟩ := Mems.skip (.inr ⟨rfl, rfl⟩) (by omega) hh' (BC.cls n (e - 1) L (by omega) hc.2 hL (by rw [e1]; exact k')) h3
   obtain ⟨n2, k2⟩ := BC.blanks (.inr ⟨rfl, rfl⟩) h2 (by omega) k1
   exact ⟨_, BC.opn n2 b L (by omega) h1 k2⟩
theorem Els.skip {s : ByteArray} {o c hi E : Nat} (hp : Pair o c) {a e : Nat} {kids : List JT} {L n : Nat} (hL : 1 ≤ L) (hh : e ≤ hi) (k : BC s o c hi E n (e - 1) L) : Els s a e kids → ∃ n', BC s o c hi E n' a L
 | .last t d h1 h2 h3 h4 => by
  have k' : BC s o c hi E n d L := k
  have hle := h2.1
  obtain ⟨n1, k1⟩ := BC.blanks hp h2 (by omega) k'
  exact V.skip hp hL (by omega) k1 h1
 | .more t d a e r h1 h2 h3 h4 h5 h6 => by
  have hle := h2.1
  have hl2 := h5.1
  have hl := Els.le h6
  obtain ⟨n1, k1⟩ := Els.skip hp hL hh k h6
  obtain ⟨n2, k2⟩ := BC.blanks hp h5 (by omega) k1
  obtain ⟨n3, k3⟩ := BC.blanks hp h2 (by omega) (BC.one n2 d L (by omega) (neu_of hp (.inl h4)) k2)
  exact V.skip hp hL (by omega) k3 h1
theorem Mems.skip {s : ByteArray} {o c hi E : Nat} (hp : Pair o c) {a e : Nat} {ns : List (Nat × Nat)} {kids : List JT} {L n : Nat} (hL : 1 ≤ L) (hh : e ≤ hi) (k : BC s o c hi E n (e - 1) L) : Mems s a e ns kids → ∃ n', BC s o c hi E n' a L
 | .last b z d t f h1 h2 h3 h4 h5 h6 h7 h8 h9 => by
  have k' : BC s o c hi E n f L := k
  have l1 := h2.1
  have l2 := h5.1
  have l3 := V.le h6
  have l4 := h7.1
  obtain ⟨n1, k1⟩ := BC.blanks hp h7 (by omega) k'
  obtain ⟨n2, k2⟩ := V.skip hp hL (by omega) k1 h6
  obtain ⟨n3, k3⟩ := BC.blanks hp h5 (by omega) k2
  obtain ⟨n4, k4⟩ := BC.blanks hp h2 (by omega) (BC.one n3 d L (by omega) (neu_of hp (.inr h4)) k3)
  exact ⟨_, BC.str n4 _ z L h1 (by omega) k4⟩
 | .more b z d t f a y ns r h1 h2 h3 h4 h5 h6 h7 h8 h9 h10 h11 => by
  have l1 := h2.1
  have l2 := h5.1
  have l3 := V.le h6
  have l4 := h7.1
  have l5 := h10.1
  have l6 := Mems.le h11
  obtain ⟨n0, k0⟩ := Mems.skip hp hL hh k h11
  obtain ⟨m1, j1⟩ := BC.blanks hp h10 (by omega) k0
  obtain ⟨n1, k1⟩ := BC.blanks hp h7 (by omega) (BC.one m1 f L (by omega) (neu_of hp (.inl h9)) j1)
  obtain ⟨n2, k2⟩ := V.skip hp hL (by omega) k1 h6
  obtain ⟨n3, k3⟩ := BC.blanks hp h5 (by omega) k2
  obtain ⟨n4, k4⟩ := BC.blanks hp h2 (by omega) (BC.one n3 d L (by omega) (neu_of hp (.inr h4)) k3)
  exact ⟨_, BC.str n4 _ z L h1 (by omega) k4⟩
end
theorem V.arrBlock {t : JT} (h : V s t) (hk : t.kind = 5) (hh : t.e ≤ hi) : bn s t.b = 91 ∧ ∃ n, BC s 91 93 hi t.e n t.b 0 := by
 cases h with
 | word k b e h => obtain ⟨h1, _⟩ := h; have : k = 5 := hk; omega
 | num b e h => cases hk
 | str b e h => cases hk
 | arr0 b d h1 h2 h3 h4 =>
  have hb := h2.1
  have hh' : d + 1 ≤ hi := hh
  obtain ⟨n1, k1⟩ := BC.blanks (E := d + 1) (.inl ⟨rfl, rfl⟩) h2 (show d ≤ hi by omega) (BC.fin d (by omega) h4 rfl)
  exact ⟨h1, _, BC.opn n1 b 0 (by omega) h1 k1⟩
 | arr b a e kids h1 h2 h3 =>
  have hb := h2.1
  have hh' : e ≤ hi := hh
  have hl := Els.le h3
  have hc := Els.close h3
  obtain ⟨n1, k1⟩ := Els.skip (E := e) (.inl ⟨rfl, rfl⟩) (Nat.le_refl _) hh' (BC.fin (e - 1) (by omega) hc.2 (by omega)) h3
  obtain ⟨n2, k2⟩ := BC.blanks (.inl ⟨rfl, rfl⟩) h2 (by omega) k1
  exact ⟨h1, _, BC.opn n2 b 0 (by omega) h1 k2⟩
 | obj0 b d h1 h2 h3 h4 => cases hk
 | obj b a e ns kids h1 h2 h3 => cases hk
theorem V.objBlock {t : JT} (h : V s t) (hk : t.kind = 6) (hh : t.e ≤ hi) : bn s t.b = 123 ∧ ∃ n, BC s 123 125 hi t.e n t.b 0 := by
 cases h with
 | word k b e h => obtain ⟨h1, _⟩ := h; have : k = 6 := hk; omega
 | num b e h => cases hk
 | str b e h => cases hk
 | arr0 b d h1 h2 h3 h4 => cases hk
 | arr b a e kids h1 h2 h3 => cases hk
 | obj0 b d h1 h2 h3 h4 =>
  have hb := h2.1
  have hh' : d + 1 ≤ hi := hh
  obtain ⟨n1, k1⟩ := BC.blanks (E := d + 1) (.inr ⟨rfl, rfl⟩) h2 (show d ≤ hi by omega) (BC.fin d (by omega) h4 rfl)
  exact ⟨h1, _, BC.opn n1 b 0 (by omega) h1 k1⟩
 | obj b a e ns kids h1 h2 h3 =>
  have hb := h2.1
  have hh' : e ≤ hi := hh
  have hl := Mems.le h3
  have hc := Mems.close h3
  obtain ⟨n1, k1⟩ := Mems.skip (E := e) (.inr ⟨rfl, rfl⟩) (Nat.le_refl _) hh' (BC.fin (e - 1) (by omega) hc.2 (by omega)) h3
  obtain ⟨n2, k2⟩ := BC.blanks (.inr ⟨rfl, rfl⟩) h2 (by omega) k1
  exact ⟨h1, _, BC.opn n2 b 0 (by omega) h1 k2⟩
end
end JS
end Go.Proofs.YtbimfhaokgigkaaGreatDoor
namespace Go.Proofs.YtbimfhaokgigkaaGreatDoor
open Go.RowKit Go.Proofs.YtbimfhaokgigkaaGreatDoorW.PrintWords
namespace JS
def hexv (c : Nat) : Nat := if c ≤ 57 then c - 48 else if c ≤ 70 then c - 55 else c - 87
def code (s : ByteArray) (a : Nat) : Nat := ((hexv (bn s (a + 2)) * 16 + hexv (bn s (a + 3))) * 16 + hexv (bn s (a + 4))) * 16 + hexv (bn s (a + 5))
def high (n : Nat) : Prop := 55296 ≤ n ∧ n ≤ 56319
def low (n : Nat) : Prop := 56320 ≤ n ∧ n ≤ 57343
instance (n : Nat) : Decidable (high n) := by unfold high; infer_instance
instance (n : Nat) : Decidable (low n) := by unfold low; infer_instance
instance (c : Nat) : Decidable (hex c) := by unfold hex; infer_instance
def utf8 (c : Nat) : List Nat :=
 if c < 128 then [c] else if c < 2048 then [192 + c / 64, 128 + c % 64] else if high c ∨ low c then [239, 191, 189]
 else if c < 65536 then [224 + c / 4096, 128 + c / 64 % 64, 128 + c % 64] else [240 + c / 262144, 128 + c / 4096 % 64, 128 + c / 64 % 64, 128 + c % 64]
def unitAt (s : ByteArray) (a z : Nat) : Prop := a + 6 ≤ z ∧ bn s a = 92 ∧ bn s (a + 1) = 117 ∧ hex (bn s (a + 2)) ∧ hex (bn s (a + 3)) ∧ hex (bn s (a + 4)) ∧ hex (bn s (a + 5))
instance (s : ByteArray) (a z : Nat) : Decidable (unitAt s a z) := by unfold unitAt; infer_instance
def pairAt (s : ByteArray) (a z : Nat) : Prop := unitAt s (a + 6) z ∧ high (code s a) ∧ low (code s (a + 6))
instance (s : ByteArray) (a z : Nat) : Decidable (pairAt s a z) := by unfold pairAt; infer_instance
def shortv (c : Nat) : Nat := if c = 98 then 8 else if c = 102 then 12 else if c = 110 then 10 else if c = 114 then 13 else if c = 116 then 9 else c
def dec (s : ByteArray) (z : Nat) : Nat → Nat → List Nat
 | 0, _ => []
 | f + 1, a => if z ≤ a then [] else if bn s a ≠ 92 then bn s a :: dec s z f (a + 1)
  else if unitAt s a z then (if pairAt s a z then utf8 (65536 + (code s a - 55296) * 1024 + (code s (a + 6) - 56320)) ++ dec s z f (a + 12) else utf8 (code s a) ++ dec s z f (a + 6))
  else shortv (bn s (a + 1)) :: dec s z f (a + 2)
def nm (s : ByteArray) (b e : Nat) : List Nat := dec s (e - 1) e (b + 1)
def kb (k : ByteArray) : List Nat := (List.range k.size).map (bn k)
def dv (k : ByteArray) : Nat → Nat
 | 0 => 0
 | n + 1 => dv k n * 10 + (bn k (n + 1) - 48)
def Brk (k : ByteArray) (j : Nat) : Prop := 3 ≤ k.size ∧ bn k 0 = 91 ∧ bn k (k.size - 1) = 93 ∧ (∀ i, 1 ≤ i → i < k.size - 1 → digit (bn k i)) ∧ (bn k 1 = 48 → k.size = 3) ∧ dv k (k.size - 2) = j
mutual
inductive Srch (s : ByteArray) : List ByteArray → Nat → Nat → Nat → Prop
 | nil (lo hi : Nat) : Srch s [] lo hi lo
 | go (ks : List ByteArray) (lo hi R n : Nat) : ks ≠ [] → SC s ks hi R n lo 0 0 true → Srch s ks lo hi R
inductive SC (s : ByteArray) : List ByteArray → Nat → Nat → Nat → Nat → Nat → Nat → Bool → Prop
 | one (ks : List ByteArray) (hi R n i L K : Nat) (m : Bool) : i < hi → bn s i ≠ 34 → bn s i ≠ 58 → bn s i ≠ 91 → bn s i ≠ 123 → bn s i ≠ 125 → SC s ks hi R n (i + 1) L K m → SC s ks hi R (n + 1) i L K m
 | val (ks : List ByteArray) (hi R n i e p L K : Nat) (m : Bool) : Str s i e → Blanks s e p → p < hi → bn s p ≠ 58 → ¬ blank (bn s p) → SC s ks hi R n p L K m → SC s ks hi R (n + 1) i L K m
 | no (ks : List ByteArray) (hi R n i e p L K : Nat) (m : Bool) (k : ByteArray) : Str s i e → Blanks s e p → p < hi → bn s p = 58 → ks[L]? = some k → nm s i e ≠ kb k → SC s ks hi R n (p + 1) (L + 1) K false → SC s ks hi R (n + 1) i (L + 1) K m
 | yes (ks : List ByteArray) (hi R n i e p K : Nat) (m : Bool) (k : ByteArray) : Str s i e → Blanks s e p → p < hi → bn s p = 58 → ks[K]? = some k → nm s i e = kb k → K + 1 < ks.length → SC s ks hi R n (p + 1) (K + 1) (K + 1) true → SC s ks hi R (n + 1) i (K + 1) K m
 | fin (ks : List ByteArray) (hi i e p K : Nat) (m : Bool) (k : ByteArray) : Str s i e → Blanks s e p → p < hi → bn s p = 58 → ks[K]? = some k → nm s i e = kb k → K + 1 = ks.length → SC s ks hi (p + 1) 0 i (K + 1) K m
 | opn (ks : List ByteArray) (hi R n i L K : Nat) : i < hi → bn s i = 123 → SC s ks hi R n (i + 1) (L + 1) K true → SC s ks hi R (n + 1) i L K true
 | skipO (ks : List ByteArray) (hi R n i e j L K : Nat) : i < hi → bn s i = 123 → i < e → e ≤ hi → BC s 123 125 hi e j i 0 → SC s ks hi R n e L K false → SC s ks hi R (n + 1) i L K false
 | skipA (ks : List ByteArray) (hi R n i e j L K : Nat) (m : Bool) : i < hi → bn s i = 91 → K ≠ L → i < e → e ≤ hi → BC s 91 93 hi e j i 0 → SC s ks hi R n e L K m → SC s ks hi R (n + 1) i L K m
 | idx (ks : List ByteArray) (hi R L j : Nat) (m : Bool) (k : ByteArray) (t el : JT) : V s t → t.kind = 5 → t.e ≤ hi → ks[L]? = some k → Brk k j → t.kids[j]? = some el → Srch s (ks.drop (L + 1)) el.b el.e R → SC s ks hi R 0 t.b L L m
end
inductive Path (s : ByteArray) : List ByteArray → JT → JT → Prop
 | nil (t : JT) : Path s [] t t
 | mem (k : ByteArray) (ks : List ByteArray) (t kid tgt : JT) (j : Nat) : t.kind = 6 → (∀ i, i < j → ∀ x, t.names[i]? = some x → nm s x.1 x.2 ≠ kb k) → (∃ x, t.names[j]? = some x ∧ nm s x.1 x.2 = kb k) → t.kids[j]? = some kid → Path s ks kid tgt → Path s (k :: ks) t tgt
 | el (k : ByteArray) (ks : List ByteArray) (t kid tgt : JT) (j : Nat) : t.kind = 5 → Brk k j → t.kids[j]? = some kid → Path s ks kid tgt → Path s (k :: ks) t tgt
section
variable {s : ByteArray} {ks : List ByteArray} {hi R : Nat}
theorem SC.run {L K : Nat} {m : Bool} {a : Nat} : ∀ (q : Nat) {n : Nat}, (∀ k, a ≤ k → k < a + q → bn s k ≠ 34 ∧ bn s k ≠ 58 ∧ bn s k ≠ 91 ∧ bn s k ≠ 123 ∧ bn s k ≠ 125) → a + q ≤ hi → SC s ks hi R n (a + q) L K m → ∃ n', SC s ks hi R n' a L K m
 | 0, n, _, _, h => ⟨n, h⟩
 | q + 1, n, hk, hh, h => by
  obtain ⟨h1, h2, h3, h4, h5⟩ := hk (a + q) (by omega) (by omega)
  exact SC.run q (fun k k1 k2 => hk k k1 (by omega)) (by omega) (SC.one ks hi R n (a + q) L K m (by omega) h1 h2 h3 h4 h5 h)
theorem SC.span {L K : Nat} {m : Bool} {a b n : Nat} (hab : a ≤ b) (hk : ∀ k, a ≤ k → k < b → bn s k ≠ 34 ∧ bn s k ≠ 58 ∧ bn s k ≠ 91 ∧ bn s k ≠ 123 ∧ bn s k ≠ 125) (hh : b ≤ hi) (h : SC s ks hi R n b L K m) : ∃ n', SC s ks hi R n' a L K m := by
 obtain ⟨q, rfl⟩ : ∃ q, b = a + q := ⟨b - a, by omega⟩
 exact SC.run q hk hh h
theorem SC.blanks {L K : Nat} {m : Bool} {a b n : Nat} (hb : Blanks s a b) (hh : b ≤ hi) (h : SC s ks hi R n b L K m) : ∃ n', SC s ks hi R n' a L K m :=
 SC.span hb.1 (fun k h1 h2 => by have := hb.2.2 k h1 h2; unfold blank at this; omega) hh h
theorem Blanks.not {x : Nat} (h : x = 44 ∨ x = 125 ∨ x = 93 ∨ x = 58) : ¬ blank x := by unfold blank; omega
theorem SC.pass {t : JT} (h : V s t) {L K n d : Nat} (hKL : K ≠ L) (hb : Blanks s t.e d) (hd : d < hi) (hc : bn s d = 44 ∨ bn s d = 125) (k : SC s ks hi R n d L K false) : ∃ n', SC s ks hi R n' t.b L K false := by
 have hle := V.le h
 have hbl := hb.1
 cases h with
 | word k0 b e h =>
  obtain ⟨n1, k1⟩ := SC.blanks hb (by omega) k
  obtain ⟨h1, h2, h3, h4⟩ := h
  refine SC.span (a := b) (b := e) (by omega) (fun j j1 j2 => ?_) (show e ≤ hi from Nat.le_trans hbl (Nat.le_of_lt hd)) k1
  have e1 := h4 (j - b) (by omega)
  have e2 := word_get k0 h1 (j - b) (by omega)
  rw [show b + (j - b) = j by omega] at e1
  omega
 | num b e h =>
  obtain ⟨n1, k1⟩ := SC.blanks hb (by omega) k
  refine SC.span (a := b) (b := e) (Nat.le_of_lt h.1) (fun j j1 j2 => ?_) (show e ≤ hi from Nat.le_trans hbl (Nat.le_of_lt hd)) k1
  have := h.2.2.2 j j1 j2
  unfold numb at this
  omega
 | str b e h => exact ⟨_, SC.val ks hi R n b e d L K false h hb hd (by omega) (Blanks.not (by omega)) k⟩
 | arr0 b c h1 h2 h3 h4 =>
  obtain ⟨n1, k1⟩ := SC.blanks hb (by omega) k
  obtain ⟨q1, q2, q3⟩ := V.arrBlock (hi := hi) (V.arr0 b c h1 h2 h3 h4) rfl (by omega)
  exact ⟨_, SC.skipA ks hi R n1 b (c + 1) q2 L K false (show b < hi by have := hle.1; simp only [JT.b, JT.e] at this hbl; omega) h1 hKL hle.1 (Nat.le_trans hbl (Nat.le_of_lt hd)) q3 k1⟩
 | arr b a e kids h1 h2 h3 =>
  obtain ⟨n1, k1⟩ := SC.blanks hb (by omega) k
  obtain ⟨q1, q2, q3⟩ := V.arrBlock (hi := hi) (V.arr b a e kids h1 h2 h3) rfl (by omega)
  exact ⟨_, SC.skipA ks hi R n1 b e q2 L K false (show b < hi by have := hle.1; simp only [JT.b, JT.e] at this hbl; omega) h1 hKL hle.1 (Nat.le_trans hbl (Nat.le_of_lt hd)) q3 k1⟩
 | obj0 b c h1 h2 h3 h4 =>
  obtain ⟨n1, k1⟩ := SC.blanks hb (by omega) k
  obtain ⟨q1, q2, q3⟩ := V.objBlock (hi := hi) (V.obj0 b c h1 h2 h3 h4) rfl (by omega)
  exact ⟨_, SC.skipO ks hi R n1 b (c + 1) q2 L K (show b < hi by have := hle.1; simp only [JT.b, JT.e] at this hbl; omega) h1 hle.1 (Nat.le_trans hbl (Nat.le_of_lt hd)) q3 k1⟩
 | obj b a e ns kids h1 h2 h3 =>
  obtain ⟨n1, k1⟩ := SC.blanks hb (by omega) k
  obtain ⟨q1, q2, q3⟩ := V.objBlock (hi := hi) (V.obj b a e ns kids h1 h2 h3) rfl (by omega)
  exact ⟨_, SC.skipO ks hi R n1 b e q2 L K (show b < hi by have := hle.1; simp only [JT.b, JT.e] at this hbl; omega) h1 hle.1 (Nat.le_trans hbl (Nat.le_of_lt hd)) q3 k1⟩
end
end JS
end Go.Proofs.YtbimfhaokgigkaaGreatDoor
namespace Go.Proofs.YtbimfhaokgigkaaGreatDoor
open Go.RowKit Go.Proofs.YtbimfhaokgigkaaGreatDoorW.PrintWords
namespace JS
theorem Blanks.refl {s : ByteArray} {a : Nat} (h : a ≤ s.size) : Blanks s a a := ⟨Nat.le_refl _, h, fun k h1 h2 => absurd h2 (by omega)⟩
theorem Els.get {s : ByteArray} {a e : Nat} {kids : List JT} {j : Nat} {el : JT} : Els s a e kids → kids[j]? = some el → V s el ∧ el.e < e
 | .last t c h1 h2 h3 h4, hj => by
  have hb := h2.1
  match j, hj with
  | 0, hj => simp at hj; subst hj; exact ⟨h1, by omega⟩
 | .more t c a e r h1 h2 h3 h4 h5 h6, hj => by
  have hb := h2.1
  have hb5 := h5.1
  have hl := Els.le h6
  match j, hj with
  | 0, hj => simp at hj; subst hj; exact ⟨h1, by omega⟩
  | j + 1, hj => exact Els.get h6 (by simpa using hj)
theorem Mems.get {s : ByteArray} {a e : Nat} {ns : List (Nat × Nat)} {kids : List JT} {j : Nat} {x : Nat × Nat} {kid : JT} : Mems s a e ns kids → ns[j]? = some x → kids[j]? = some kid →
  ∃ p, Str s x.1 x.2 ∧ Blanks s x.2 p ∧ bn s p = 58 ∧ Blanks s (p + 1) kid.b ∧ V s kid ∧ kid.e < e
 | .last b e c t d h1 h2 h3 h4 h5 h6 h7 h8 h9, hx, hj => by
  have hb := h7.1
  match j, hx, hj with
  | 0, hx, hj => simp at hj hx; subst hj; subst hx; exact ⟨c, h1, h2, h4, h5, h6, by omega⟩
 | .more b e c t d a z ns r h1 h2 h3 h4 h5 h6 h7 h8 h9 h10 h11, hx, hj => by
  have hb := h7.1
  have hb2 := h10.1
  have hl := Mems.le h11
  match j, hx, hj with
  | 0, hx, hj => simp at hj hx; subst hj; subst hx; exact ⟨c, h1, h2, h4, h5, h6, by omega⟩
  | j + 1, hx, hj => exact Mems.get h11 (by simpa using hx) (by simpa using hj)
theorem Mems.lens {s : ByteArray} {a e : Nat} {ns : List (Nat × Nat)} {kids : List JT} : Mems s a e ns kids → ns.length = kids.length
 | .last .. => rfl
 | .more _ _ _ _ _ _ _ _ _ _ _ _ _ _ _ _ _ _ _ h => by simp [Mems.lens h]
theorem Mems.seek {s : ByteArray} {KS : List ByteArray} {hi R K : Nat} {k : ByteArray} (hk : KS[K]? = some k) {a e : Nat} {ns : List (Nat × Nat)} {kids : List JT} {j : Nat} {x : Nat × Nat} (hh : e ≤ hi) :
  Mems s a e ns kids → ns[j]? = some x → (∀ i, i < j → ∀ y, ns[i]? = some y → nm s y.1 y.2 ≠ kb k) → (∀ m, ∃ n, SC s KS hi R n x.1 (K + 1) K m) → ∀ m, ∃ n, SC s KS hi R n a (K + 1) K m
 | .last b e c t d h1 h2 h3 h4 h5 h6 h7 h8 h9, hx, hn, hs, m => by
  match j, hx with
  | 0, hx => simp at hx; subst hx; exact hs m
 | .more b e c t d a z ns r h1 h2 h3 h4 h5 h6 h7 h8 h9 h10 h11, hx, hn, hs, m => by
  match j, hx, hn with
  | 0, hx, hn => simp at hx; subst hx; exact hs m
  | j + 1, hx, hn =>
   have l1 := h2.1
   have l2 := h5.1
   have l3 := V.le h6
   have l4 := h7.1
   have l5 := h10.1
   have l6 := Mems.le h11
   obtain ⟨n0, k0⟩ := Mems.seek hk hh h11 (by simpa using hx) (fun i hi y hy => hn (i + 1) (by omega) y (by simpa using hy)) hs false
   obtain ⟨n1, k1⟩ := SC.blanks h10 (by omega) k0
   have k2 := SC.one KS hi R n1 d (K + 1) K false (by omega) (by omega) (by omega) (by omega) (by omega) (by omega) k1
   obtain ⟨n3, k3⟩ := SC.pass h6 (by omega) h7 (by omega) (.inl h9) k2
   obtain ⟨n4, k4⟩ := SC.blanks h5 (by omega) k3
   exact ⟨_, SC.no KS hi R n4 b e c K K m k h1 h2 (by omega) h4 hk (hn 0 (by omega) (b, e) rfl) k4⟩
theorem drop_get {α : Type} {KS r : List α} {m : Nat} {k : α} (h : KS.drop m = k :: r) : KS[m]? = some k ∧ KS.drop (m + 1) = r ∧ KS.length = m + 1 + r.length := by
 have h1 : KS[m]? = some k := by
  have := congrArg (·[0]?) h
  simpa [List.getElem?_drop] using this
 have h2 : KS.drop (m + 1) = r := by
  have := congrArg (·.drop 1) h
  simpa [List.drop_drop] using this
 refine ⟨h1, h2, ?_⟩
 have := congrArg List.length h
 simp at this
 have hm : m < KS.length := (List.getElem?_eq_some_iff.1 h1).1
 omega
theorem Path.search {s : ByteArray} {ks : List ByteArray} {t tgt : JT} (h : Path s ks t tgt) : V s t → ks ≠ [] → ∀ (KS : List ByteArray) (m hi : Nat), KS.drop m = ks → t.e ≤ hi → V s tgt ∧ ∃ R n, SC s KS hi R n t.b m m true ∧ Blanks s R tgt.b := by
 induction h with
 | nil t => intro _ h; exact absurd rfl h
 | mem k ks t kid tgt j hkind hne hx hkid hp ih =>
  intro hv _ KS m hi hd hh
  obtain ⟨x, hx, hxk⟩ := hx
  obtain ⟨d1, d2, d3⟩ := drop_get hd
  cases hv with
  | word k0 b e h => obtain ⟨h1, _⟩ := h; have : k0 = 6 := hkind; omega
  | num b e h => cases hkind
  | str b e h => cases hkind
  | arr0 b c h1 h2 h3 h4 => cases hkind
  | arr b a e kids h1 h2 h3 => cases hkind
  | obj0 b c h1 h2 h3 h4 => cases hx
  | obj b a e ns kids h1 h2 h3 =>
   have hh' : e ≤ hi := hh
   have hb := h2.1
   have hl := Mems.le h3
   obtain ⟨p, p1, p2, p3, p4, p5, p6⟩ := Mems.get h3 hx hkid
   have l3 := V.le p5
   have l4 := p4.1
   have fin : ∀ R, (∀ mm, ∃ n, SC s KS hi R n x.1 (m + 1) m mm) → ∃ n, SC s KS hi R n b m m true := by
    intro R hs
    obtain ⟨n1, k1⟩ := Mems.seek d1 hh' h3 hx (fun i hi y hy => hne i hi y hy) hs true
    obtain ⟨n2, k2⟩ := SC.blanks h2 (by omega) k1
    exact ⟨_, SC.opn KS hi R n2 b m m (by omega) h1 k2⟩
   by_cases hks : ks = []
   ·subst hks
    cases hp
    refine ⟨p5, p + 1, ?_⟩
    obtain ⟨n, hn⟩ := fin (p + 1) (fun mm => ⟨0, SC.fin KS hi x.1 x.2 p m mm k p1 p2 (by omega) p3 d1 hxk (by simp at d3; omega)⟩)
    exact ⟨n, hn, p4⟩
   ·obtain ⟨q1, R, n, q2, q3⟩ := ih p5 hks KS (m + 1) hi d2 (by omega)
    obtain ⟨n1, k1⟩ := SC.blanks p4 (by omega) q2
    have hlen : 0 < ks.length := List.length_pos_iff.2 hks
    obtain ⟨n2, k2⟩ := fin R (fun mm => ⟨_, SC.yes KS hi R n1 x.1 x.2 p m mm k p1 p2 (by omega) p3 d1 hxk (by omega) k1⟩)
    exact ⟨q1, R, n2, k2, q3⟩
 | el k ks t kid tgt j hkind hbr hkid hp ih =>
  intro hv _ KS m hi hd hh
  obtain ⟨d1, d2, d3⟩ := drop_get hd
  have hk : V s kid ∧ kid.e ≤ t.e := by
   cases hv with
   | word k0 b e h => obtain ⟨h1, _⟩ := h; have : k0 = 5 := hkind; omega
   | num b e h => cases hkind
   | str b e h => cases hkind
   | arr0 b c h1 h2 h3 h4 => cases hkid
   | arr b a e kids h1 h2 h3 => have := Els.get h3 hkid; exact ⟨this.1, Nat.le_of_lt this.2⟩
   | obj0 b c h1 h2 h3 h4 => cases hkind
   | obj b a e ns kids h1 h2 h3 => cases hkind
  have hle := V.le hk.1
  by_cases hks : ks = []
  ·subst hks
   cases hp
   exact ⟨hk.1, kid.b, 0, SC.idx KS hi kid.b m j true k t kid hv hkind hh d1 hbr hkid (by rw [d2]; exact Srch.nil _ _), Blanks.refl (by omega)⟩
  ·obtain ⟨q1, R, n, q2, q3⟩ := ih hk.1 hks ks 0 kid.e rfl (Nat.le_refl _)
   exact ⟨q1, R, 0, SC.idx KS hi R m j true k t kid hv hkind hh d1 hbr hkid (by rw [d2]; exact Srch.go ks kid.b kid.e R n hks q2), q3⟩
theorem Path.whole {s : ByteArray} {ks : List ByteArray} {t tgt : JT} (h : Path s ks t tgt) (hv : V s t) (hks : ks ≠ []) (hb : Blanks s 0 t.b) : V s tgt ∧ ∃ R, Srch s ks 0 s.size R ∧ Blanks s R tgt.b := by
 obtain ⟨q1, R, n, q2, q3⟩ := Path.search h hv hks ks 0 s.size rfl (V.le hv).2
 have hle := V.le hv
 obtain ⟨n1, k1⟩ := SC.blanks hb (by omega) q2
 exact ⟨q1, R, Srch.go ks 0 s.size R n1 hks k1, q3⟩
end JS
end Go.Proofs.YtbimfhaokgigkaaGreatDoor
