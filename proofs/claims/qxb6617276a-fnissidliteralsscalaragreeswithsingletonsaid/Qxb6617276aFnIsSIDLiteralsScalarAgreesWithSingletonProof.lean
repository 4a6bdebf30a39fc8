import Derived.Test.Qxb6617276aRows
import Derived.WalkKit
import Derived.ProofKit
import Derived.OpenShut
import Derived.ShutString
import Derived.Below
import Derived.ChangeOld
import Derived.Test.Qxb6617276aSidWalks
namespace Go.Proofs.Qxb6617276a.fnIsSIDLiteralsScalarAgreesWithSingleton
open Go.ChangeShapes Go.WideShapes Go.ChangeAt Go.RowKit
open Go.ChangeMaps (open_string shut_string)
set_option linter.unusedVariables false      -- a walk need not use every 'w<i>' (that an integer argument fits its kind)

theorem own : ownKnob Try.prog.godebug = none := by kernel_rfl


open Go.Proofs.Qxb6617276a.sid in
set_option maxHeartbeats 400000 in
theorem walk_attr (k : Int) (w : World) (hk : (k == 2) = false) :
    Calls Try.prog 6 #[.int .u8 k, .bool true] w fun e w' => e = .returned (.bool true) ∧ Below w.heap.size w w' := by
  have HL : Hid (∀ (p : Nat) (w1 : World), w1.cell? ⟨p, 0, none⟩ = some (.int .u8 k) → w1.cell? ⟨p, 1, none⟩ = some (.bool true) → Calls Try.prog 12 #[.pointer (some ⟨p, 0, none⟩)] w1 fun e w' => e = .returned (.bool false) ∧ w' = w1) := by
    intro p w1 h0 h1
    exact sid12 _ _ _ (sid15_attr p w1 h1)
  have HS : Hid (∀ (p : Nat) (wa wr : World), p = wa.heap.size → Mid wa wr 2 true 1 1 (fun _ => k) → Calls Try.prog 12 #[.pointer (some ⟨p, 0, none⟩)] wr fun e w' => e = .returned (.bool false) ∧ w' = wr) := by
    rintro p wa wr rfl h
    have h2 := sid12_mid h (by omega)
    have e : (!true && allSid (fun _ => k) 1) = false := by rfl
    rwa [e] at h2
  go_enter Try.func6, Try.ntmps6
  go_wp2_with fail
  refine (val13_nil k true w).mono ?_
  rintro e w1 ⟨rfl, h0, h1, _, hb1⟩
  go_wp2_with fail
  refine (HL.out w.heap.size w1 h0 h1).mono ?_
  rintro e w' ⟨rfl, hw⟩
  obtain rfl : w1 = w' := hw.symm
  clear h0 h1 HL
  go_wp2_with fail
  refine (val13 2 true w1.heap.size 0 1 1 (fun _ => k) _ (by omega) (fun i hi => by obtain rfl : i = 0 := (by omega); simp)).mono ?_
  rintro e w2 ⟨rfl, hM⟩
  have hb2 : Below w.heap.size w w2 := (hb1.alloc hb1.size _).trans (hM.below.mono (by have := hb1.size; simp; omega))
  go_wp2_with fail
  refine (HS.out _ _ w2 (by simp) hM).mono ?_
  rintro e w' ⟨rfl, hw⟩
  obtain rfl : w2 = w' := hw.symm
  clear HS hM
  go_wp2_with fail
  go_ret
  exact ⟨rfl, hb2⟩

open Go.Proofs.Qxb6617276a.sid in
set_option maxHeartbeats 400000 in
theorem walk_sid (w : World) :
    Calls Try.prog 6 #[.int .u8 7, .bool false] w fun e w' => e = .returned (.bool true) ∧ Below w.heap.size w w' := by
  have HL : Hid (∀ (p : Nat) (w1 : World), w1.cell? ⟨p, 0, none⟩ = some (.int .u8 7) → w1.cell? ⟨p, 1, none⟩ = some (.bool false) → Calls Try.prog 12 #[.pointer (some ⟨p, 0, none⟩)] w1 fun e w' => e = .returned (.bool true) ∧ w' = w1) := by
    intro p w1 h0 h1
    exact sid12 _ _ _ (sid15_lone p 7 w1 (by decide) h0 h1)
  have HS : Hid (∀ (p : Nat) (wa wr : World), p = wa.heap.size → Mid wa wr 2 false 1 1 (fun _ => 7) → Calls Try.prog 12 #[.pointer (some ⟨p, 0, none⟩)] wr fun e w' => e = .returned (.bool true) ∧ w' = wr) := by
    rintro p wa wr rfl h
    have h2 := sid12_mid h (by omega)
    have e : (!false && allSid (fun _ => 7) 1) = true := by simp [allSid]
    rwa [e] at h2
  go_enter Try.func6, Try.ntmps6
  go_wp2_with fail
  refine (val13_nil 7 false w).mono ?_
  rintro e w1 ⟨rfl, h0, h1, _, hb1⟩
  go_wp2_with fail
  refine (HL.out w.heap.size w1 h0 h1).mono ?_
  rintro e w' ⟨rfl, hw⟩
  obtain rfl : w1 = w' := hw.symm
  clear h0 h1 HL
  go_wp2_with fail
  refine (val13 2 false w1.heap.size 0 1 1 (fun _ => 7) _ (by omega) (fun i hi => by obtain rfl : i = 0 := (by omega); simp)).mono ?_
  rintro e w2 ⟨rfl, hM⟩
  have hb2 : Below w.heap.size w w2 := (hb1.alloc hb1.size _).trans (hM.below.mono (by have := hb1.size; simp; omega))
  go_wp2_with fail
  refine (HS.out _ _ w2 (by simp) hM).mono ?_
  rintro e w' ⟨rfl, hw⟩
  obtain rfl : w2 = w' := hw.symm
  clear HS hM
  go_wp2_with fail
  go_ret
  exact ⟨rfl, hb2⟩

open Go.Proofs.Qxb6617276a.sid in
set_option maxHeartbeats 400000 in
theorem walk_other (k : Int) (w : World) (hk : (k == 2) = false) (h7 : (k == 7) = false) :
    Calls Try.prog 6 #[.int .u8 k, .bool false] w fun e w' => e = .returned (.bool true) ∧ Below w.heap.size w w' := by
  have HL : Hid (∀ (p : Nat) (w1 : World), w1.cell? ⟨p, 0, none⟩ = some (.int .u8 k) → w1.cell? ⟨p, 1, none⟩ = some (.bool false) → Calls Try.prog 12 #[.pointer (some ⟨p, 0, none⟩)] w1 fun e w' => e = .returned (.bool false) ∧ w' = w1) := by
    intro p w1 h0 h1
    have := sid12 _ _ _ (sid15_lone p k w1 hk h0 h1)
    rwa [h7] at this
  have HS : Hid (∀ (p : Nat) (wa wr : World), p = wa.heap.size → Mid wa wr 2 false 1 1 (fun _ => k) → Calls Try.prog 12 #[.pointer (some ⟨p, 0, none⟩)] wr fun e w' => e = .returned (.bool false) ∧ w' = wr) := by
    rintro p wa wr rfl h
    have h2 := sid12_mid h (by omega)
    have e : (!false && allSid (fun _ => k) 1) = false := by simp only [allSid, h7]; rfl
    rwa [e] at h2
  go_enter Try.func6, Try.ntmps6
  go_wp2_with fail
  refine (val13_nil k false w).mono ?_
  rintro e w1 ⟨rfl, h0, h1, _, hb1⟩
  go_wp2_with fail
  refine (HL.out w.heap.size w1 h0 h1).mono ?_
  rintro e w' ⟨rfl, hw⟩
  obtain rfl : w1 = w' := hw.symm
  clear h0 h1 HL
  go_wp2_with fail
  refine (val13 2 false w1.heap.size 0 1 1 (fun _ => k) _ (by omega) (fun i hi => by obtain rfl : i = 0 := (by omega); simp)).mono ?_
  rintro e w2 ⟨rfl, hM⟩
  have hb2 : Below w.heap.size w w2 := (hb1.alloc hb1.size _).trans (hM.below.mono (by have := hb1.size; simp; omega))
  go_wp2_with fail
  refine (HS.out _ _ w2 (by simp) hM).mono ?_
  rintro e w' ⟨rfl, hw⟩
  obtain rfl : w2 = w' := hw.symm
  clear HS hM
  go_wp2_with fail
  go_ret
  exact ⟨rfl, hb2⟩

theorem walk_set (b : Bool) (w : World) :
    Calls Try.prog 6 #[.int .u8 2, .bool b] w fun e w' => e = .returned (.bool true) ∧ Below w.heap.size w w' := by
  go_enter Try.func6, Try.ntmps6
  go_wp2
  go_ret
  exact ⟨rfl, Below.refl _ _⟩

theorem walk (a0 : Int) (a1 : Bool) (w : World) :
    Calls Try.prog 6 #[.int .u8 a0, .bool a1] w fun e w' => e = .returned (.bool true) ∧ Below w.heap.size w w' := by
  by_cases h2 : a0 = 2
  · subst h2; exact walk_set a1 w
  · have hk : (a0 == 2) = false := by simp [h2]
    cases a1
    · by_cases h7 : a0 = 7
      · subst h7; exact walk_sid w
      · exact walk_other a0 w hk (by simp [h7])
    · exact walk_attr a0 w hk

/-! ### THE ROW's STEP: WRITTEN OUT: LEAVE IT -/
set_option maxRecDepth 100000 in
theorem lifted (os : Os) (started : os.Started) (H : Type) (enc : TypeId × Value → H) :
    ReturnsInHanded {} Try.checked os 6 .any (Rows.fnIsSIDLiteralsScalarAgreesWithSingletonSpec.pre6 enc Try.prog Try.f6 Rows.fnIsSIDLiteralsScalarAgreesWithSingletonRow.domain false) (Rows.fnIsSIDLiteralsScalarAgreesWithSingletonSpec.post enc Try.prog Try.f6 false true false false) := by
  refine returnsInHanded_of_change (C := Try.checked) own started (by kernel_rfl) Try.func6
    (ChangeSpec.witness6 (enc := enc) (C := Try.checked) false ⟨#[], #[.int .u8 0, .bool false], []⟩ 8 (by kernel_rfl) (by kernel_rfl) (by kernel_rfl) (by kernel_rfl)) ?_
  intro W base args ds gs before hval0 hW hcnd _
  have hval : ∀ (j : Nat) t v, Try.f6.params[j]? = some t → args[j]? = some v → Value.okWide Try.prog W .any base t v := hval0
  have hW' := hW
  obtain ⟨p, q, hA0, hV, rfl, hfz, hnd⟩ := hW
  have hA : DataW.TrodAll enc Try.prog W 0 (fun _ => true) true Try.f6.params.toList args.toList ds p := hA0
  rw [Try.params6] at hA hval
  obtain ⟨v0, vs0, d0, ds0, p0, q0, hargs, rfl, rfl, h0, r0⟩ := trodAll_cons hA
  obtain ⟨v1, vs1, d1, ds1, p1, q1, rfl, rfl, rfl, h1, r1⟩ := trodAll_cons r0
  obtain ⟨rfl, rfl, rfl⟩ := trodAll_nil r1
  obtain rfl : args = #[v0, v1] := by cases args; simp_all
  obtain ⟨rfl, rfl⟩ := trodVars_none hV
  obtain ⟨a0, rfl, rfl, rfl, w0⟩ := open_int Try.underlying5 (hval 0 5 v0 rfl rfl) h0
  obtain ⟨a1, rfl, rfl, rfl⟩ := open_bool Try.underlying4 (hval 1 4 v1 rfl rfl) h1
  clear hA0 hval0
  refine (walk a0 a1 W).mono fun e W' ⟨he, bel⟩ => ?_
  subst he
  exact ⟨_, rfl, _, _, _, [], _, [], hW', trodAll_mk1 (shut_bool Try.underlying4 _), (trodAll_cons_mk (shut_int Try.underlying5 w0) (trodAll_cons_mk (shut_bool Try.underlying4 _) trodAll_mk0)), rfl, bel.frame _, fun h => by cases h⟩

theorem over : Rows.fnIsSIDLiteralsScalarAgreesWithSingletonRow.holds Try.pinned (OpenSpec.ofChange Rows.fnIsSIDLiteralsScalarAgreesWithSingletonSpec) :=
  OpenClaim.holds_of_wide 6 Try.f6 rfl rfl rfl rfl rfl rfl rfl ⟨rfl, rfl, rfl, rfl, rfl⟩ rfl rfl rfl rfl rfl (by kernel_rfl) Try.func6 (by kernel_rfl)
    (of_decide_eq_true (by kernel_rfl)) (by unfold Func.isWrapper; first | (rw [if_pos (by decide +kernel)]; kernel_rfl) | (rw [if_neg (by decide +kernel)]; exact ⟨rfl, rfl⟩))
    (fun os started H enc _ => lifted os started H enc)

/-- ████ THE STATEMENT ████ -/
theorem proved : Rows.FnIsSIDLiteralsScalarAgreesWithSingletonSaid :=
  over
#print axioms proved
end Go.Proofs.Qxb6617276a.fnIsSIDLiteralsScalarAgreesWithSingleton
