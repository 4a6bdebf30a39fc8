import Derived.Test.Qxb6617276aSplitWalks
namespace Go.Proofs.Qxb6617276a.fnIsSIDLiteralsSplitsAtAnyCut
open Go.ChangeShapes Go.WideShapes Go.ChangeAt Go.RowKit Go.Proofs.Qxb6617276a.sid
open Go.ChangeMaps (open_string shut_string)
set_option linter.unusedVariables false


theorem walk (a0 : Bool) (a1 : Option Addr) (len1 cap1 : Nat) (z1 : List Int) (a2 : Int) (w : World) (w1 : IsRow .u8 w a1 len1 cap1 z1) (w2 : (Lit.int .i64 a2).wf = true) :
    Calls Try.prog 5 #[.bool a0, .slice a1 len1 cap1, .int .i64 a2] w fun e w' => e = .returned (.bool true) ∧ Below w.heap.size w w' := by
  have hlen : len1 ≤ 9223372036854775807 := by
    rcases w1 with ⟨_, rfl, _, _⟩ | ⟨x, _, hl, hm, _⟩
    · omega
    · unfold maxLen at hm; omega
  by_cases ho : 65536 < len1 ∨ a2 < 0 ∨ (len1 : Int) < a2
  · refine (walk_out a0 a1 len1 cap1 a2 w hlen ho).mono ?_
    rintro e w' ⟨rfl, rfl⟩
    exact ⟨rfl, Below.refl _ _⟩
  · rcases w1 with ⟨rfl, rfl, rfl, rfl⟩ | ⟨x, rfl, hl, hm, hzl, hcell, hwz⟩
    · obtain rfl : a2 = 0 := by simp at ho; omega
      cases a0
      · exact walk_nil_false w
      · exact walk_nil_true w
    · obtain ⟨c, rfl⟩ := Int.eq_ofNat_of_zero_le (show 0 ≤ a2 by omega)
      have hsplit := allSid_shift (fun k => z1.getD k 0) c (len1 - c)
      rw [show c + (len1 - c) = len1 by omega] at hsplit
      by_cases hc : len1 = c
      · subst hc
        cases a0
        · cases hS : allSid (fun k => z1.getD k 0) len1
          · exact core_eq_ff x len1 cap1 z1 w (by omega) hl hzl hcell hS (by rw [hS]; rfl) (by rw [hS]; rfl) rfl
          · exact core_eq_ft x len1 cap1 z1 w (by omega) hl hzl hcell hS (by rw [hS]; rfl) (by rw [hS]; rfl) rfl
        · exact core_eq_t _ x len1 cap1 z1 w (by omega) hl hzl hcell rfl rfl rfl rfl
      · cases a0
        · cases hL : allSid (fun k => z1.getD k 0) c
          · cases hR : allSid (fun i => z1.getD (c + i) 0) (len1 - c)
            · have hS : allSid (fun k => z1.getD k 0) len1 = false := by rw [hsplit, hL]; rfl
              exact core_lt_ff x len1 cap1 c z1 w (by omega) (by omega) hc hl hzl hcell hS (by rw [hS]; rfl) (by rw [hL]; rfl) (by rw [hR]; rfl)
            · have hS : allSid (fun k => z1.getD k 0) len1 = false := by rw [hsplit, hL]; rfl
              exact core_lt_ft x len1 cap1 c z1 w (by omega) (by omega) hc hl hzl hcell hS (by rw [hS]; rfl) (by rw [hL]; rfl) (by rw [hR]; rfl)
          · cases hR : allSid (fun i => z1.getD (c + i) 0) (len1 - c)
            · have hS : allSid (fun k => z1.getD k 0) len1 = false := by rw [hsplit, hL, hR]; rfl
              exact core_lt_tf x len1 cap1 c z1 w (by omega) (by omega) hc hl hzl hcell hS (by rw [hS]; rfl) (by rw [hL]; rfl) (by rw [hR]; rfl)
            · have hS : allSid (fun k => z1.getD k 0) len1 = true := by rw [hsplit, hL, hR]; rfl
              exact core_lt_tt x len1 cap1 c z1 w (by omega) (by omega) hc hl hzl hcell hS (by rw [hS]; rfl) (by rw [hL]; rfl) (by rw [hR]; rfl)
        · exact core_lt_t _ x len1 cap1 c z1 w (by omega) (by omega) hc hl hzl hcell rfl rfl rfl rfl

/-! ### THE ROW's STEP: WRITTEN OUT: LEAVE IT -/
set_option maxRecDepth 100000 in
theorem lifted (os : Os) (started : os.Started) (H : Type) (enc : TypeId × Value → H) :
    ReturnsInHanded {} Try.checked os 5 .any (Rows.fnIsSIDLiteralsSplitsAtAnyCutSpec.pre6 enc Try.prog Try.f5 Rows.fnIsSIDLiteralsSplitsAtAnyCutRow.domain false) (Rows.fnIsSIDLiteralsSplitsAtAnyCutSpec.post enc Try.prog Try.f5 false true false false) := by
  refine returnsInHanded_of_change (C := Try.checked) own started (by kernel_rfl) Try.func5
    (ChangeSpec.witness6 (enc := enc) (C := Try.checked) false ⟨#[], #[.bool false, .slice none 0 0, .int .i64 0], []⟩ 8 (by kernel_rfl) (by kernel_rfl) (by kernel_rfl) (by kernel_rfl)) ?_
  intro W base args ds gs before hval0 hW hcnd _
  have hval : ∀ (j : Nat) t v, Try.f5.params[j]? = some t → args[j]? = some v → Value.okWide Try.prog W .any base t v := hval0
  have hW' := hW
  obtain ⟨p, q, hA0, hV, rfl, hfz, hnd⟩ := hW
  have hA : DataW.TrodAll enc Try.prog W 0 (fun _ => true) true Try.f5.params.toList args.toList ds p := hA0
  rw [Try.params5] at hA hval
  obtain ⟨v0, vs0, d0, ds0, p0, q0, hargs, rfl, rfl, h0, r0⟩ := trodAll_cons hA
  obtain ⟨v1, vs1, d1, ds1, p1, q1, rfl, rfl, rfl, h1, r1⟩ := trodAll_cons r0
  obtain ⟨v2, vs2, d2, ds2, p2, q2, rfl, rfl, rfl, h2, r2⟩ := trodAll_cons r1
  obtain ⟨rfl, rfl, rfl⟩ := trodAll_nil r2
  obtain rfl : args = #[v0, v1, v2] := by cases args; simp_all
  obtain ⟨rfl, rfl⟩ := trodVars_none hV
  obtain ⟨a0, rfl, rfl, rfl⟩ := open_bool Try.underlying4 (hval 0 4 v0 rfl rfl) h0
  obtain ⟨a1, len1, cap1, rfl⟩ := okWide_slice Try.underlying27 (hval 1 27 v1 rfl rfl)
  have k1 := h1
  have lt1 : ∀ x ∈ p1, x.block < W.heap.size := by obtain ⟨m, hm⟩ := k1; exact DataW.trod_lt m _ _ _ hm
  obtain ⟨z1, w1⟩ : ∃ zs, IsRow .u8 W a1 len1 cap1 zs := by
    obtain ⟨fuel, hf⟩ := h1
    rcases open_ints Try.underlying27 Try.underlying5 (by kernel_rfl) hf with ⟨hcs, _⟩ | ⟨x, l, c, zs, hcs, _, hl, hm, hz, _, hcell, hwz⟩
    · simp [Value.cells] at hcs
      obtain ⟨rfl, rfl, rfl⟩ := hcs
      exact ⟨[], .inl ⟨rfl, rfl, rfl, rfl⟩⟩
    · simp [Value.cells] at hcs
      obtain ⟨rfl, rfl, rfl⟩ := hcs
      exact ⟨zs, .inr ⟨_, rfl, hl, hm, by simpa using hz, hcell, hwz⟩⟩
  obtain ⟨a2, rfl, rfl, rfl, w2⟩ := open_int Try.underlying3 (hval 2 3 v2 rfl rfl) h2
  clear hA0 hval0
  refine (walk a0 a1 len1 cap1 z1 a2 W w1 w2).mono fun e W' ⟨he, bel⟩ => ?_
  subst he
  exact ⟨_, rfl, _, _, _, [], _, [], hW', trodAll_mk1 (shut_bool Try.underlying4 _), (trodAll_cons_mk (shut_bool Try.underlying4 _) (trodAll_cons_mk (Below.trod laidOut (by kernel_rfl) (of_decide_eq_true (by kernel_rfl)) k1 bel lt1) (trodAll_cons_mk (shut_int Try.underlying3 w2) trodAll_mk0))), rfl, bel.frame _, fun h => by cases h⟩

theorem over : Rows.fnIsSIDLiteralsSplitsAtAnyCutRow.holds Try.pinned (OpenSpec.ofChange Rows.fnIsSIDLiteralsSplitsAtAnyCutSpec) :=
  OpenClaim.holds_of_wide 5 Try.f5 rfl rfl rfl rfl rfl rfl rfl ⟨rfl, rfl, rfl, rfl, rfl⟩ rfl rfl rfl rfl rfl (by kernel_rfl) Try.func5 (by kernel_rfl)
    (of_decide_eq_true (by kernel_rfl)) (by unfold Func.isWrapper; first | (rw [if_pos (by decide +kernel)]; kernel_rfl) | (rw [if_neg (by decide +kernel)]; exact ⟨rfl, rfl⟩))
    (fun os started H enc _ => lifted os started H enc)

/-- ████ THE STATEMENT ████ -/
theorem proved : Rows.FnIsSIDLiteralsSplitsAtAnyCutSaid := over
#print axioms proved
end Go.Proofs.Qxb6617276a.fnIsSIDLiteralsSplitsAtAnyCut
