/-
  A parameter that is an array of strings, opened: its value is written out as a list of strings.
-/
import Derived.Test.Qxb6617248aRows
import Derived.WalkKit
import Derived.ProofKit
import Derived.OpenShut
import Derived.ShutString
import Derived.ChangeOld
import Derived.Below
namespace Go.Proofs.Qxb6617248a
open Go.ChangeShapes Go.WideShapes Go.ChangeAt Go.RowKit

theorem own : ownKnob Try.prog.godebug = none := by kernel_rfl
theorem laidOut : laidOutB Try.prog = true := by kernel_rfl
theorem cells9 : Try.prog.cellsOf 9 = 1 := by kernel_rfl
theorem cells22 : Try.prog.cellsOf 22 = 11 := by kernel_rfl
theorem cells32 : Try.prog.cellsOf 32 = 8 := by kernel_rfl
theorem cells40 : Try.prog.cellsOf 40 = 7 := by kernel_rfl

theorem strings_of {cs : List Value} (h : ∀ i, i < cs.length → ∃ s : ByteArray, cs[i]? = some (.string s)) : ∃ l : List ByteArray, cs = l.map Value.string := by
  induction cs with
  | nil => exact ⟨[], rfl⟩
  | cons c r ih =>
    obtain ⟨s, hs⟩ := h 0 (by simp)
    obtain ⟨l, hl⟩ := ih (fun i hi => by simpa using h (i + 1) (by simpa using hi))
    refine ⟨s :: l, ?_⟩
    simp at hs
    simp [hs, hl]

/-- AN ARRAY OF STRINGS BY VALUE. -/
theorem open_strArr {H : Type} {enc : TypeId × Value → H} {P : Program} {W : World} {r : Reach} {b0 base n : Nat} {sp : Nat → Bool} {held : Bool} {t e : TypeId} {v : Value} {d : DataW H} {p : List MemPlace}
    (ht : P.underlying t = some (.array n e)) (he : P.underlying e = some .string) (hce : P.cellsOf e = 1) (hct : P.cellsOf t = n)
    (hok : Value.okWide P W r b0 t v) (hd : DataW.Trod enc P W base sp held t v d p) : ∃ l : List ByteArray, l.length = n ∧ v = .agg (l.map Value.string).toArray := by
  simp only [Value.okWide, ht] at hok
  obtain ⟨cs, rfl, hsz, _⟩ := hok
  obtain ⟨fuel, hf⟩ := hd
  obtain ⟨xs, m, _, _, _, hl, hel⟩ := DataW.trod_array ht hf
  rw [hct] at hsz
  obtain ⟨l, hcs⟩ : ∃ l : List ByteArray, cs.toList = l.map Value.string := by
    refine strings_of fun i hi => ?_
    have hin : i < n := by rw [← hsz]; simpa using hi
    have h1 := hel i hin
    rw [List.getElem?_eq_getElem (by omega)] at h1
    obtain ⟨s, hs, _, _⟩ := DataW.trod_string he h1
    refine ⟨s, ?_⟩
    rw [hce] at hs
    simp only [Value.cells, Nat.mul_one] at hs
    have h2 := congrArg (fun q : List Value => q[0]?) hs
    simpa [List.getElem?_take, List.getElem?_drop] using h2
  refine ⟨l, ?_, ?_⟩
  · have := congrArg List.length hcs
    simp at this
    omega
  · rw [← hcs]

theorem list8 {α : Type} {l : List α} (h : l.length = 8) : ∃ a0 a1 a2 a3 a4 a5 a6 a7, l = [a0, a1, a2, a3, a4, a5, a6, a7] := by
  match l, h with
  | [a0, a1, a2, a3, a4, a5, a6, a7], _ => exact ⟨_, _, _, _, _, _, _, _, rfl⟩
theorem list7 {α : Type} {l : List α} (h : l.length = 7) : ∃ a0 a1 a2 a3 a4 a5 a6, l = [a0, a1, a2, a3, a4, a5, a6] := by
  match l, h with
  | [a0, a1, a2, a3, a4, a5, a6], _ => exact ⟨_, _, _, _, _, _, _, rfl⟩
theorem list11 {α : Type} {l : List α} (h : l.length = 11) : ∃ a0 a1 a2 a3 a4 a5 a6 a7 a8 a9 a10, l = [a0, a1, a2, a3, a4, a5, a6, a7, a8, a9, a10] := by
  match l, h with
  | [a0, a1, a2, a3, a4, a5, a6, a7, a8, a9, a10], _ => exact ⟨_, _, _, _, _, _, _, _, _, _, _, rfl⟩
end Go.Proofs.Qxb6617248a
