import Derived.Test.Qxb6617500aRows
import Derived.WalkKit
import Derived.ProofKit
import Derived.OpenShut
import Derived.ShutString
namespace Go.Proofs.Qxb6617500a.fnUplinkIsDirectionBitClear
open Go.ChangeShapes Go.WideShapes Go.ChangeAt Go.RowKit
open Go.ChangeMaps (open_string shut_string)
set_option linter.unusedVariables false      -- a walk need not use every 'w<i>' (that an integer argument fits its kind)

theorem own : ownKnob Try.prog.godebug = none := by kernel_rfl

/-! ### The plain law: flipping the low bit of a number from 8 up to 255 leaves it at 8 or more -/
theorem xor_one_ge (m : Fin 256) : 8 ≤ m.val → 8 ≤ bits .xor .u8 (m.val : Int) 1 := by
  revert m
  decide +kernel

theorem xor_one (n : Int) (h8 : 8 ≤ n) (h255 : n ≤ 255) : 8 ≤ bits .xor .u8 n 1 := by
  obtain ⟨k, rfl⟩ := Int.eq_ofNat_of_zero_le (by omega : 0 ≤ n)
  exact xor_one_ge ⟨k, by omega⟩ (by simp; omega)

/-! ### The callee: Uplink at a number of 8 or more says false -/
theorem up_no (n : Int) (h : 8 ≤ n) (w : World) :
    Calls Try.prog 4 #[.int .u8 n] w fun e w' => e = .returned (.bool false) ∧ w' = w := by
  have e0 : (n == 0) = false := beq_eq_false_iff_ne.2 (by omega)
  have e2 : (n == 2) = false := beq_eq_false_iff_ne.2 (by omega)
  have e4 : (n == 4) = false := beq_eq_false_iff_ne.2 (by omega)
  have e6 : (n == 6) = false := beq_eq_false_iff_ne.2 (by omega)
  go_enter Try.func4, Try.ntmps4
  go_wp2
  go_ret
  exact ⟨rfl, rfl⟩

/-! ### STEP 1: THE WALK -/
theorem walk_low (n : Int) (h : n = 0 ∨ n = 1 ∨ n = 2 ∨ n = 3 ∨ n = 4 ∨ n = 5 ∨ n = 6 ∨ n = 7) (w : World) :
    Calls Try.prog 3 #[.int .u8 n] w fun e w' => e = .returned (.bool true) ∧ Grown w w' := by
  rcases h with rfl | rfl | rfl | rfl | rfl | rfl | rfl | rfl
  all_goals
    go_enter Try.func3, Try.ntmps3
    go_wp2
    go_ret
    exact ⟨rfl, Grown.refl _⟩

theorem walk_high (n : Int) (h8 : 8 ≤ n) (h255 : n ≤ 255) (w : World) :
    Calls Try.prog 3 #[.int .u8 n] w fun e w' => e = .returned (.bool true) ∧ Grown w w' := by
  have hx := xor_one n h8 h255
  go_enter Try.func3, Try.ntmps3
  go_wp2_with fail
  refine (up_no n h8 _).mono ?_
  rintro e w' ⟨rfl, rfl⟩
  go_wp2_with fail
  refine (up_no _ hx _).mono ?_
  rintro e w' ⟨rfl, rfl⟩
  go_wp2_with fail
  go_ret
  exact ⟨rfl, Grown.refl _⟩

theorem walk (a0 : Int) (w0 : (Lit.int .u8 a0).wf = true) (w : World) :
    Calls Try.prog 3 #[.int .u8 a0] w fun e w' => e = .returned (.bool true) ∧ Grown w w' := by
  have hb := bounds_u8 w0
  by_cases h : a0 < 8
  · exact walk_low a0 (by omega) w
  · exact walk_high a0 (by omega) (by omega) w

/-! ### THE ROW's STEP: WRITTEN OUT: LEAVE IT -/
set_option maxRecDepth 100000 in
theorem lifted (os : Os) (started : os.Started) (H : Type) (enc : TypeId × Value → H) :
    ReturnsInHanded {} Try.checked os 3 .any (Rows.fnUplinkIsDirectionBitClearSpec.pre6 enc Try.prog Try.f3 Rows.fnUplinkIsDirectionBitClearRow.domain false) (Rows.fnUplinkIsDirectionBitClearSpec.post enc Try.prog Try.f3 false true false false) := by
  refine returnsInHanded_of_change (C := Try.checked) own started (by kernel_rfl) Try.func3
    (ChangeSpec.witness6 (enc := enc) (C := Try.checked) false ⟨#[], #[.int .u8 0], []⟩ 8 (by kernel_rfl) (by kernel_rfl) (by kernel_rfl) (by kernel_rfl)) ?_
  intro W base args ds gs before hval0 hW hcnd _
  have hval : ∀ (j : Nat) t v, Try.f3.params[j]? = some t → args[j]? = some v → Value.okWide Try.prog W .any base t v := hval0
  have hW' := hW
  obtain ⟨p, q, hA0, hV, rfl, hfz, hnd⟩ := hW
  have hA : DataW.TrodAll enc Try.prog W 0 (fun _ => true) true Try.f3.params.toList args.toList ds p := hA0
  rw [Try.params3] at hA hval
  obtain ⟨v0, vs0, d0, ds0, p0, q0, hargs, rfl, rfl, h0, r0⟩ := trodAll_cons hA
  obtain ⟨rfl, rfl, rfl⟩ := trodAll_nil r0
  obtain rfl : args = #[v0] := by cases args; simp_all
  obtain ⟨rfl, rfl⟩ := trodVars_none hV
  obtain ⟨a0, rfl, rfl, rfl, w0⟩ := open_int Try.underlying5 (hval 0 5 v0 rfl rfl) h0
  clear hA0 hval0
  simp only [List.append_nil] at hW'
  refine (walk a0 w0 W).mono fun e W' ⟨he, hg⟩ => ?_
  subst he
  exact ⟨_, rfl, post_of_same (pa := []) (pv := []) hW' (fun _ _ _ => (trodAll_cons_mk (shut_bool Try.underlying4 _) trodAll_mk0)) (fun sp _ => (trodAll_cons_mk (shut_int Try.underlying5 w0) trodAll_mk0)) (fun _ _ => rfl) rfl
    (hg.frame _) hg.2.1 (ok_one (by kernel_rfl) rfl (okWide_bool_mk Try.underlying4 _))⟩

theorem over : Rows.fnUplinkIsDirectionBitClearRow.holds Try.pinned (OpenSpec.ofChange Rows.fnUplinkIsDirectionBitClearSpec) :=
  OpenClaim.holds_of_wide 3 Try.f3 rfl rfl rfl rfl rfl rfl rfl ⟨rfl, rfl, rfl, rfl, rfl⟩ rfl rfl rfl rfl rfl (by kernel_rfl) Try.func3 (by kernel_rfl)
    (of_decide_eq_true (by kernel_rfl)) (by unfold Func.isWrapper; first | (rw [if_pos (by decide +kernel)]; kernel_rfl) | (rw [if_neg (by decide +kernel)]; exact ⟨rfl, rfl⟩))
    (fun os started H enc _ => lifted os started H enc)

/-- ████ THE STATEMENT ████ -/
theorem proved : Rows.FnUplinkIsDirectionBitClearSaid :=
  over
#print axioms proved
end Go.Proofs.Qxb6617500a.fnUplinkIsDirectionBitClear
