import Derived.Test.Qxb6617248aBytes
namespace Go.Proofs.Qxb6617248a
open Go.RowKit

theorem stay {w1 w2 : World} {b : Nat} {o : Obj} (hb : Below w1.heap.size w1 w2) (h : w1.heap[b]? = some o) : w2.heap[b]? = some o := by
  have hlt : b < w1.heap.size := by
    rcases Nat.lt_or_ge b w1.heap.size with h' | h'
    · exact h'
    · rw [Array.getElem?_eq_none h'] at h; cases h
  rw [hb.block b hlt]; exact h

/-- All that the code behind the loops needs of a world: the two boxes lie in it; below the call's first block nothing has turned. -/
structure Boxes (w w' : World) (A B : Array Value) (t1 t2 : TypeId) : Prop where
  fst : w'.heap[w.heap.size]? = some (.cells A t1)
  snd : w'.heap[w.heap.size + 1]? = some (.cells B t2)
  size : w.heap.size + 1 + 1 ≤ w'.heap.size
  below : Below w.heap.size w w'

theorem Boxes.mk0 (w : World) (A B : Array Value) (t1 t2 : TypeId) : Boxes w ((w.alloc (.cells A t1)).alloc (.cells B t2)) A B t1 t2 :=
  ⟨heap_alloc2_old w _ _, heap_alloc2_new w _ _, by simp, ((Below.refl _ _).alloc (Nat.le_refl _) _).alloc (by simp) _⟩
theorem Boxes.next {w w1 w2 : World} {A B : Array Value} {t1 t2 : TypeId} (h : Boxes w w1 A B t1 t2) (hb : Below w1.heap.size w1 w2) : Boxes w w2 A B t1 t2 :=
  ⟨stay hb h.fst, stay hb h.snd, Nat.le_trans h.size hb.size, h.below.trans (hb.mono (by have := h.size; omega))⟩

theorem figs14a7 (f0 f1 f2 f3 f4 f5 f7 : ByteArray) (w : World) :
    Calls Try.prog 14 #[.agg #[.string f0, .string f1, .string f2, .string f3, .string f4, .string f5, .string ⟨#[]⟩, .string f7]] w fun e w' => ∃ g cap, e = .returned (.slice (some ⟨g, 0, none⟩) 7 cap) ∧ Figs w.heap.size w' (.slice (some ⟨g, 0, none⟩) 7 cap) (red7 f0 f1 f2 f3 f4 f5 f7) ∧ Below w.heap.size w w' := by
  refine (figs14a f0 f1 f2 f3 f4 f5 f7 w).mono ?_
  rintro e w' ⟨v, rfl, ⟨g, cap, rfl, h⟩, hb⟩
  exact ⟨g, cap, rfl, ⟨g, cap, rfl, h⟩, hb⟩

theorem figs14b8 (f0 f1 f2 f3 f4 f5 f6 f7 : ByteArray) (w : World) (h6 : f6.toList.isEmpty = false) :
    Calls Try.prog 14 #[.agg #[.string f0, .string f1, .string f2, .string f3, .string f4, .string f5, .string f6, .string f7]] w fun e w' => ∃ g cap, e = .returned (.slice (some ⟨g, 0, none⟩) 8 cap) ∧ Figs w.heap.size w' (.slice (some ⟨g, 0, none⟩) 8 cap) (red8 f0 f1 f2 f3 f4 f5 f6 f7) ∧ Below w.heap.size w w' := by
  refine (figs14b f0 f1 f2 f3 f4 f5 f6 f7 w h6).mono ?_
  rintro e w' ⟨v, rfl, ⟨g, cap, rfl, h⟩, hb⟩
  exact ⟨g, cap, rfl, ⟨g, cap, rfl, h⟩, hb⟩

theorem Figs.atRow {base : Nat} {w : World} {g n cap : Nat} {l : List (ByteArray × ByteArray)} (h : Figs base w (.slice (some ⟨g, 0, none⟩) n cap) l) (i : Nat) (hi : i < l.length) :
    w.cell? ⟨g, i * 2, none⟩ = some (.string (nm l i)) ∧ w.cell? ⟨g, i * 2 + 1, none⟩ = some (.string (vl l i)) := by
  obtain ⟨g', cap', e, hg, hlt, hown⟩ := h
  simp only [Value.slice.injEq, Option.some.injEq, Addr.mk.injEq, and_true] at e
  obtain ⟨rfl, rfl, rfl⟩ := e
  exact Figs.cells hown i hi

end Go.Proofs.Qxb6617248a
