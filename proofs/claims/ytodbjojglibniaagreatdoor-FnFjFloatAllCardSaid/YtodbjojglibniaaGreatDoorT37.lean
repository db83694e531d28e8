/- Walks of functions of FnFjFloatAll (G7); conditions stand ahead of each theorem. -/
import Derived.Test.YtodbjojglibniaaGreatDoorT36
set_option linter.unusedVariables false
set_option linter.unusedSimpArgs false
namespace Go.Proofs.YtodbjojglibniaaGreatDoor
open Go.RowKit Go.Proofs.YtodbjojglibniaaGreatDoorW.PrintWords Go.Proofs.YtodbjojglibniaaGreatDoorW.PrintLast

theorem value_calls {s : ByteArray} {neg : Bool} {W F : Nat} {x esg : Int} {N : Nat} (h : Num0 s neg W F x esg N) (hs : s.size ≤ 800) (w : World) : Calls Tryz.prog 18 #[.string s] w (ValPost w neg (NumX s neg W F x esg N)) := by
  cases neg with
  | true => exact value_true h hs w
  | false => exact value_false h hs w
/-- What a float function with an ok says: a float that is the nearest, or no. -/
def OkPost (w : World) (neg : Bool) (X : Rat) (e : Ending) (w' : World) : Prop :=
  Below w.heap.size w w' ∧ ((∃ f, e = .returned (.tuple #[.float .f64 f, .bool false])) ∨ ∃ r, FP.Near X r ∧ e = .returned (.tuple #[.float .f64 (FP.wordOf neg r), .bool true]))
set_option maxRecDepth 100000 in
theorem nearestTo_calls {s : ByteArray} {neg : Bool} {W F : Nat} {x esg : Int} {N : Nat} (h : Num0 s neg W F x esg N) (hs : s.size ≤ 800) (w : World) : Calls Tryz.prog 10 #[.string s] w (OkPost w neg (NumX s neg W F x esg N)) := by
  obtain ⟨X, hX⟩ : ∃ X, X = NumX s neg W F x esg N := ⟨_, rfl⟩
  have CV := value_calls h hs w
  rw [← hX] at CV ⊢
  have CV := Aside0.mk CV
  obtain ⟨R, hR⟩ : ∃ R, R = OkPost w neg X := ⟨_, rfl⟩
  rw [← hR]
  have HR := Aside0.mk hR
  have t8 : decide ((800 : Int) < (s.size : Int)) = false := decide_eq_false (by omega)
  have t8n : decide (800 < s.size) = false := decide_eq_false (by omega)
  clear hR h hs hX
  go_enter Tryz.func10, Tryz.ntmps10
  go_wp2_with fail
  refine CV.out.mono ?_
  rintro e w1 ⟨hbel, rfl | ⟨ds, g, p, rfl, hD, hlead, hp, hval⟩⟩
  · go_wp2_with fail
    rw [HR.out]
    exact ⟨hbel.alloc hbel.size _, .inl ⟨_, rfl⟩⟩
  · have CN := Aside0.mk (fun w2 => near_calls hD hlead p hp neg w2)
    have HB := Aside0.mk (And.intro hbel hval)
    have hz := hbel.size
    clear hbel hval hD hlead hp
    go_wp2_with (go_at_call 19; refine (CN.out _).mono ?_; rintro e w3 ⟨r, hn, rfl, hbel3⟩)
    rw [HR.out]
    rw [HB.out.2] at hn
    have b3 := hbel3.mono (show w.heap.size ≤ _ by simp; omega)
    exact ⟨(HB.out.1.alloc hz _).trans b3, .inr ⟨r, hn, rfl⟩⟩

end Go.Proofs.YtodbjojglibniaaGreatDoor
