import Derived.Test.Qxb6617248aOpen
import Derived.Test.Qxb6617248aSwRedWalks
namespace Go.Proofs.Qxb6617248a.swRed
open Go.ChangeShapes Go.WideShapes Go.ChangeAt Go.RowKit
set_option linter.unusedVariables false

theorem empty_of {s : ByteArray} (h : s.toList.isEmpty = true) : s = ⟨#[]⟩ := by
  have h1 : s.data.toList = [] := by rw [← ByteArray.toList_eq]; simpa using h
  obtain ⟨⟨l⟩⟩ := s
  obtain rfl : l = [] := h1
  rfl

theorem walk (f0 f1 f2 f3 f4 f5 f6 f7 f8 f9 f10 g0 g1 g2 g3 g4 g5 g6 g7 : ByteArray) (w : World) :
    Calls Try.prog 4 #[.agg #[.string f0, .string f1, .string f2, .string f3, .string f4, .string f5, .string f6, .string f7, .string f8, .string f9, .string f10], .agg #[.string g0, .string g1, .string g2, .string g3, .string g4, .string g5, .string g6, .string g7]] w fun e w' => e = .returned (.bool true) ∧ Below w.heap.size w w' := by
  cases hb : g6.toList.isEmpty
  · exact walk4_y f0 f1 f2 f3 f4 f5 f6 f7 f8 f9 f10 g0 g1 g2 g3 g4 g5 g6 g7 w hb
  · rw [empty_of hb]
    exact walk4_n f0 f1 f2 f3 f4 f5 f6 f7 f8 f9 f10 g0 g1 g2 g3 g4 g5 g7 w

/-! ### THE ROW's STEP (the guide's own frame for a law, at two arrays of strings) -/
set_option maxRecDepth 100000 in
theorem lifted (os : Os) (started : os.Started) (H : Type) (enc : TypeId × Value → H) :
    ReturnsInHanded {} Try.checked os 4 .any (Rows.fnSwitchFiguresNamedAsRedemptionSpec.pre6 enc Try.prog Try.f4 Rows.fnSwitchFiguresNamedAsRedemptionRow.domain false) (Rows.fnSwitchFiguresNamedAsRedemptionSpec.post enc Try.prog Try.f4 false true false false) := by
  refine returnsInHanded_of_change (C := Try.checked) own started (by kernel_rfl) Try.func4
    (ChangeSpec.witness6 (enc := enc) (C := Try.checked) false ⟨#[], #[.agg #[.string ByteArray.empty, .string ByteArray.empty, .string ByteArray.empty, .string ByteArray.empty, .string ByteArray.empty, .string ByteArray.empty, .string ByteArray.empty, .string ByteArray.empty, .string ByteArray.empty, .string ByteArray.empty, .string ByteArray.empty], .agg #[.string ByteArray.empty, .string ByteArray.empty, .string ByteArray.empty, .string ByteArray.empty, .string ByteArray.empty, .string ByteArray.empty, .string ByteArray.empty, .string ByteArray.empty]], []⟩ 8 (by kernel_rfl) (by kernel_rfl) (by kernel_rfl) (by kernel_rfl)) ?_
  intro W base args ds gs before hval0 hW hcnd _
  have hval : ∀ (j : Nat) t v, Try.f4.params[j]? = some t → args[j]? = some v → Value.okWide Try.prog W .any base t v := hval0
  have hW' := hW
  obtain ⟨p, q, hA0, hV, rfl, hfz, hnd⟩ := hW
  have hA : DataW.TrodAll enc Try.prog W 0 (fun _ => true) true Try.f4.params.toList args.toList ds p := hA0
  rw [Try.params4] at hA hval
  obtain ⟨v0, vs0, d0, ds0, p0, q0, hargs, rfl, rfl, h0, r0⟩ := trodAll_cons hA
  obtain ⟨v1, vs1, d1, ds1, p1, q1, rfl, rfl, rfl, h1, r1⟩ := trodAll_cons r0
  obtain ⟨rfl, rfl, rfl⟩ := trodAll_nil r1
  obtain rfl : args = #[v0, v1] := by cases args; simp_all
  obtain ⟨rfl, rfl⟩ := trodVars_none hV
  have lt0 : ∀ x ∈ p0, x.block < W.heap.size := by obtain ⟨m, hm⟩ := h0; exact DataW.trod_lt m _ _ _ hm
  have lt1 : ∀ x ∈ p1, x.block < W.heap.size := by obtain ⟨m, hm⟩ := h1; exact DataW.trod_lt m _ _ _ hm
  obtain ⟨l0, hl0, rfl⟩ := open_strArr Try.underlying22 Try.underlying9 cells9 cells22 (hval 0 22 v0 rfl rfl) h0
  obtain ⟨l1, hl1, rfl⟩ := open_strArr Try.underlying32 Try.underlying9 cells9 cells32 (hval 1 32 v1 rfl rfl) h1
  obtain ⟨f0, f1, f2, f3, f4, f5, f6, f7, f8, f9, f10, rfl⟩ := list11 hl0
  obtain ⟨g0, g1, g2, g3, g4, g5, g6, g7, rfl⟩ := list8 hl1
  clear hA0 hval0
  refine (walk f0 f1 f2 f3 f4 f5 f6 f7 f8 f9 f10 g0 g1 g2 g3 g4 g5 g6 g7 W).mono fun e W' ⟨he, bel⟩ => ?_
  subst he
  exact ⟨_, rfl, _, _, _, [], _, [], hW', trodAll_mk1 (shut_bool Try.underlying4 _), (trodAll_cons_mk (Below.trod laidOut (by kernel_rfl) (of_decide_eq_true (by kernel_rfl)) h0 bel lt0) (trodAll_cons_mk (Below.trod laidOut (by kernel_rfl) (of_decide_eq_true (by kernel_rfl)) h1 bel lt1) trodAll_mk0)), rfl, bel.frame _, fun h => by cases h⟩

theorem over : Rows.fnSwitchFiguresNamedAsRedemptionRow.holds Try.pinned (OpenSpec.ofChange Rows.fnSwitchFiguresNamedAsRedemptionSpec) :=
  OpenClaim.holds_of_wide 4 Try.f4 rfl rfl rfl rfl rfl rfl rfl ⟨rfl, rfl, rfl, rfl, rfl⟩ rfl rfl rfl rfl rfl (by kernel_rfl) Try.func4 (by kernel_rfl)
    (of_decide_eq_true (by kernel_rfl)) (by unfold Func.isWrapper; first | (rw [if_pos (by decide +kernel)]; kernel_rfl) | (rw [if_neg (by decide +kernel)]; exact ⟨rfl, rfl⟩))
    (fun os started H enc _ => lifted os started H enc)

/-- THE STATEMENT -/
theorem proved : Rows.FnSwitchFiguresNamedAsRedemptionSaid := over
#print axioms proved
end Go.Proofs.Qxb6617248a.swRed
