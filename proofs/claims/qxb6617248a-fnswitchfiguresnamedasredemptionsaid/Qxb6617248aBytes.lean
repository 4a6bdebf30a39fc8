import Derived.Test.Qxb6617248aFigs
namespace Go.Proofs.Qxb6617248a
open Go.RowKit

/-- The ending is a bool, whichever. -/
def SomeBool (e : Ending) : Prop := ∃ b : Bool, e = .returned (.bool b)

theorem strs_at (l : List ByteArray) (k : Nat) (hk : k < l.length) : (l.map Value.string).toArray[k]? = some (.string (l.getD k ByteArray.empty)) := by
  simp [List.getElem?_eq_getElem hk]

set_option maxHeartbeats 400000 in
theorem bytes16 (f0 f1 f2 f3 f4 f5 f6 f7 g0 g1 g2 g3 g4 g5 g6 g7 : ByteArray) (w : World) :
    Calls Try.prog 16 #[.agg #[.string f0, .string f1, .string f2, .string f3, .string f4, .string f5, .string f6, .string f7], .agg #[.string g0, .string g1, .string g2, .string g3, .string g4, .string g5, .string g6, .string g7]] w fun e w' => SomeBool e ∧ Below w.heap.size w w' := by
  obtain ⟨W, hW⟩ : ∃ W, W = (w.alloc (.cells #[.string f0, .string f1, .string f2, .string f3, .string f4, .string f5, .string f6, .string f7] 32)).alloc (.cells #[.string g0, .string g1, .string g2, .string g3, .string g4, .string g5, .string g6, .string g7] 32) := ⟨_, rfl⟩
  have hbel : Below w.heap.size w W := by
    rw [hW]; exact ((Below.refl _ _).alloc (Nat.le_refl _) _).alloc (by simp) _
  have H1 : Hid (∀ k : Nat, k < 8 → ∃ s, W.cell? ⟨w.heap.size, k, none⟩ = some (.string s)) := by
    intro k hk
    rw [hW]
    exact ⟨_, (cell_of_row _ _ k _ 32 _ (heap_alloc2_old w _ _)).trans (strs_at [f0, f1, f2, f3, f4, f5, f6, f7] k hk)⟩
  have H2 : Hid (∀ k : Nat, k < 8 → ∃ s, W.cell? ⟨w.heap.size + 1, k, none⟩ = some (.string s)) := by
    intro k hk
    rw [hW]
    exact ⟨_, (cell_of_row _ _ k _ 32 _ (heap_alloc2_new w _ _)).trans (strs_at [g0, g1, g2, g3, g4, g5, g6, g7] k hk)⟩
  have HW : Hid (W = (w.alloc (.cells #[.string f0, .string f1, .string f2, .string f3, .string f4, .string f5, .string f6, .string f7] 32)).alloc (.cells #[.string g0, .string g1, .string g2, .string g3, .string g4, .string g5, .string g6, .string g7] 32)) := hW
  clear hW
  go_enter Try.func16, Try.ntmps16
  go_wp2
  rw [← HW.out]
  go_loop [5, 6] (fun t i => ∃ (k : Nat) (n : Int), k ≤ 8 ∧ i = .int .i64 k ∧ t = .int .i64 n) (fun _ i => 8 - (intOf i).toNat)
  case atStart => exact ⟨0, 0, by omega, rfl, rfl⟩
  case round =>
    obtain ⟨k, n, hk, rfl, rfl⟩ := hrel
    by_cases hlt : k < 8
    · obtain ⟨s, hs⟩ := H1.out k hlt
      go_wp2
      · go_ret
        exact ⟨⟨_, rfl⟩, hbel⟩
      · go_ret
        exact ⟨⟨_, rfl⟩, hbel⟩
      · go_round
        case rel => exact ⟨k + 1, _, by omega, by go_num, rfl⟩
        case measure => simp [intOf]; omega
    · go_wp2
      go_loop [5, 7] (fun t i => ∃ (k : Nat) (n : Int), k ≤ 8 ∧ i = .int .i64 k ∧ t = .int .i64 n) (fun _ i => 8 - (intOf i).toNat)
      case atStart => exact ⟨0, n, by omega, rfl, rfl⟩
      case round =>
        obtain ⟨q, n, hq, rfl, rfl⟩ := hrel
        by_cases hqt : q < 8
        · obtain ⟨s, hs⟩ := H2.out q hqt
          go_wp2
          · go_ret
            exact ⟨⟨_, rfl⟩, hbel⟩
          · go_ret
            exact ⟨⟨_, rfl⟩, hbel⟩
          · go_round
            case rel => exact ⟨q + 1, _, by omega, by go_num, rfl⟩
            case measure => simp [intOf]; omega
        · go_wp2
          go_ret
          exact ⟨⟨_, rfl⟩, hbel⟩

set_option maxHeartbeats 400000 in
theorem bytes18 (f0 f1 f2 f3 f4 f5 f6 f7 g0 g1 g2 g3 g4 g5 g6 : ByteArray) (w : World) :
    Calls Try.prog 18 #[.agg #[.string f0, .string f1, .string f2, .string f3, .string f4, .string f5, .string f6, .string f7], .agg #[.string g0, .string g1, .string g2, .string g3, .string g4, .string g5, .string g6]] w fun e w' => SomeBool e ∧ Below w.heap.size w w' := by
  obtain ⟨W, hW⟩ : ∃ W, W = (w.alloc (.cells #[.string f0, .string f1, .string f2, .string f3, .string f4, .string f5, .string f6, .string f7] 32)).alloc (.cells #[.string g0, .string g1, .string g2, .string g3, .string g4, .string g5, .string g6] 40) := ⟨_, rfl⟩
  have hbel : Below w.heap.size w W := by
    rw [hW]; exact ((Below.refl _ _).alloc (Nat.le_refl _) _).alloc (by simp) _
  have H1 : Hid (∀ k : Nat, k < 8 → ∃ s, W.cell? ⟨w.heap.size, k, none⟩ = some (.string s)) := by
    intro k hk
    rw [hW]
    exact ⟨_, (cell_of_row _ _ k _ 32 _ (heap_alloc2_old w _ _)).trans (strs_at [f0, f1, f2, f3, f4, f5, f6, f7] k hk)⟩
  have H2 : Hid (∀ k : Nat, k < 7 → ∃ s, W.cell? ⟨w.heap.size + 1, k, none⟩ = some (.string s)) := by
    intro k hk
    rw [hW]
    exact ⟨_, (cell_of_row _ _ k _ 40 _ (heap_alloc2_new w _ _)).trans (strs_at [g0, g1, g2, g3, g4, g5, g6] k hk)⟩
  have HW : Hid (W = (w.alloc (.cells #[.string f0, .string f1, .string f2, .string f3, .string f4, .string f5, .string f6, .string f7] 32)).alloc (.cells #[.string g0, .string g1, .string g2, .string g3, .string g4, .string g5, .string g6] 40)) := hW
  clear hW
  go_enter Try.func18, Try.ntmps18
  go_wp2
  rw [← HW.out]
  go_loop [5, 6] (fun t i => ∃ (k : Nat) (n : Int), k ≤ 8 ∧ i = .int .i64 k ∧ t = .int .i64 n) (fun _ i => 8 - (intOf i).toNat)
  case atStart => exact ⟨0, 0, by omega, rfl, rfl⟩
  case round =>
    obtain ⟨k, n, hk, rfl, rfl⟩ := hrel
    by_cases hlt : k < 8
    · obtain ⟨s, hs⟩ := H1.out k hlt
      go_wp2
      · go_ret
        exact ⟨⟨_, rfl⟩, hbel⟩
      · go_ret
        exact ⟨⟨_, rfl⟩, hbel⟩
      · go_round
        case rel => exact ⟨k + 1, _, by omega, by go_num, rfl⟩
        case measure => simp [intOf]; omega
    · go_wp2
      go_loop [5, 7] (fun t i => ∃ (k : Nat) (n : Int), k ≤ 7 ∧ i = .int .i64 k ∧ t = .int .i64 n) (fun _ i => 7 - (intOf i).toNat)
      case atStart => exact ⟨0, n, by omega, rfl, rfl⟩
      case round =>
        obtain ⟨q, n, hq, rfl, rfl⟩ := hrel
        by_cases hqt : q < 7
        · obtain ⟨s, hs⟩ := H2.out q hqt
          go_wp2
          · go_ret
            exact ⟨⟨_, rfl⟩, hbel⟩
          · go_ret
            exact ⟨⟨_, rfl⟩, hbel⟩
          · go_round
            case rel => exact ⟨q + 1, _, by omega, by go_num, rfl⟩
            case measure => simp [intOf]; omega
        · go_wp2
          go_ret
          exact ⟨⟨_, rfl⟩, hbel⟩

set_option maxHeartbeats 400000 in
theorem bytes12 (f0 f1 f2 f3 f4 f5 f6 f7 f8 f9 f10 g0 g1 g2 g3 g4 g5 g6 g7 : ByteArray) (w : World) :
    Calls Try.prog 12 #[.agg #[.string f0, .string f1, .string f2, .string f3, .string f4, .string f5, .string f6, .string f7, .string f8, .string f9, .string f10], .agg #[.string g0, .string g1, .string g2, .string g3, .string g4, .string g5, .string g6, .string g7]] w fun e w' => SomeBool e ∧ Below w.heap.size w w' := by
  obtain ⟨W, hW⟩ : ∃ W, W = (w.alloc (.cells #[.string f0, .string f1, .string f2, .string f3, .string f4, .string f5, .string f6, .string f7, .string f8, .string f9, .string f10] 22)).alloc (.cells #[.string g0, .string g1, .string g2, .string g3, .string g4, .string g5, .string g6, .string g7] 32) := ⟨_, rfl⟩
  have hbel : Below w.heap.size w W := by
    rw [hW]; exact ((Below.refl _ _).alloc (Nat.le_refl _) _).alloc (by simp) _
  have H1 : Hid (∀ k : Nat, k < 11 → ∃ s, W.cell? ⟨w.heap.size, k, none⟩ = some (.string s)) := by
    intro k hk
    rw [hW]
    exact ⟨_, (cell_of_row _ _ k _ 22 _ (heap_alloc2_old w _ _)).trans (strs_at [f0, f1, f2, f3, f4, f5, f6, f7, f8, f9, f10] k hk)⟩
  have H2 : Hid (∀ k : Nat, k < 8 → ∃ s, W.cell? ⟨w.heap.size + 1, k, none⟩ = some (.string s)) := by
    intro k hk
    rw [hW]
    exact ⟨_, (cell_of_row _ _ k _ 32 _ (heap_alloc2_new w _ _)).trans (strs_at [g0, g1, g2, g3, g4, g5, g6, g7] k hk)⟩
  have HW : Hid (W = (w.alloc (.cells #[.string f0, .string f1, .string f2, .string f3, .string f4, .string f5, .string f6, .string f7, .string f8, .string f9, .string f10] 22)).alloc (.cells #[.string g0, .string g1, .string g2, .string g3, .string g4, .string g5, .string g6, .string g7] 32)) := hW
  clear hW
  go_enter Try.func12, Try.ntmps12
  go_wp2
  rw [← HW.out]
  go_loop [5, 6] (fun t i => ∃ (k : Nat) (n : Int), k ≤ 11 ∧ i = .int .i64 k ∧ t = .int .i64 n) (fun _ i => 11 - (intOf i).toNat)
  case atStart => exact ⟨0, 0, by omega, rfl, rfl⟩
  case round =>
    obtain ⟨k, n, hk, rfl, rfl⟩ := hrel
    by_cases hlt : k < 11
    · obtain ⟨s, hs⟩ := H1.out k hlt
      go_wp2
      · go_ret
        exact ⟨⟨_, rfl⟩, hbel⟩
      · go_ret
        exact ⟨⟨_, rfl⟩, hbel⟩
      · go_round
        case rel => exact ⟨k + 1, _, by omega, by go_num, rfl⟩
        case measure => simp [intOf]; omega
    · go_wp2
      go_loop [5, 7] (fun t i => ∃ (k : Nat) (n : Int), k ≤ 8 ∧ i = .int .i64 k ∧ t = .int .i64 n) (fun _ i => 8 - (intOf i).toNat)
      case atStart => exact ⟨0, n, by omega, rfl, rfl⟩
      case round =>
        obtain ⟨q, n, hq, rfl, rfl⟩ := hrel
        by_cases hqt : q < 8
        · obtain ⟨s, hs⟩ := H2.out q hqt
          go_wp2
          · go_ret
            exact ⟨⟨_, rfl⟩, hbel⟩
          · go_ret
            exact ⟨⟨_, rfl⟩, hbel⟩
          · go_round
            case rel => exact ⟨q + 1, _, by omega, by go_num, rfl⟩
            case measure => simp [intOf]; omega
        · go_wp2
          go_ret
          exact ⟨⟨_, rfl⟩, hbel⟩
end Go.Proofs.Qxb6617248a
