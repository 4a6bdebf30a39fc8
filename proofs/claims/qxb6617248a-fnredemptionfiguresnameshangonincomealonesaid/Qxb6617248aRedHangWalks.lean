import Derived.Test.Qxb6617248aBoxes
namespace Go.Proofs.Qxb6617248a.redHang
open Go.RowKit

theorem pos17_7t (w : World) : Calls Try.prog 17 #[.int .i64 7, .bool true] w fun e w' => e = .returned (.int .i64 7) ∧ w' = w := pos17_7 true w
theorem pos17_7f (w : World) : Calls Try.prog 17 #[.int .i64 7, .bool false] w fun e w' => e = .returned (.int .i64 6) ∧ w' = w := pos17_7 false w

theorem vl8 (f0 f1 f2 f3 f4 f5 f6 f7 : ByteArray) (k : Nat) (hk : k < 8) : vl (red8 f0 f1 f2 f3 f4 f5 f6 f7) k = [f0, f1, f2, f3, f4, f5, f6, f7].getD k ByteArray.empty := by
  rcases (by omega : k = 0 ∨ k = 1 ∨ k = 2 ∨ k = 3 ∨ k = 4 ∨ k = 5 ∨ k = 6 ∨ k = 7) with rfl | rfl | rfl | rfl | rfl | rfl | rfl | rfl <;> rfl
theorem vl7 (f0 f1 f2 f3 f4 f5 f6 f7 : ByteArray) (k : Nat) (hk : k < 6) : vl (red7 f0 f1 f2 f3 f4 f5 f7) k = [f0, f1, f2, f3, f4, f5, f6, f7].getD k ByteArray.empty := by
  rcases (by omega : k = 0 ∨ k = 1 ∨ k = 2 ∨ k = 3 ∨ k = 4 ∨ k = 5) with rfl | rfl | rfl | rfl | rfl | rfl <;> rfl
/-- The name of field k, whatever the values. -/
def nmk (k : Nat) : ByteArray := nm (red8 ByteArray.empty ByteArray.empty ByteArray.empty ByteArray.empty ByteArray.empty ByteArray.empty ByteArray.empty ByteArray.empty) k
theorem nm8 (f0 f1 f2 f3 f4 f5 f6 f7 : ByteArray) (k : Nat) (hk : k < 8) : nm (red8 f0 f1 f2 f3 f4 f5 f6 f7) k = nmk k := by
  rcases (by omega : k = 0 ∨ k = 1 ∨ k = 2 ∨ k = 3 ∨ k = 4 ∨ k = 5 ∨ k = 6 ∨ k = 7) with rfl | rfl | rfl | rfl | rfl | rfl | rfl | rfl <;> rfl
theorem nm7 (f0 f1 f2 f3 f4 f5 f7 : ByteArray) (k : Nat) (hk : k < 6) : nm (red7 f0 f1 f2 f3 f4 f5 f7) k = nmk k := by
  rcases (by omega : k = 0 ∨ k = 1 ∨ k = 2 ∨ k = 3 ∨ k = 4 ∨ k = 5) with rfl | rfl | rfl | rfl | rfl | rfl <;> rfl

/-- Only draws lie between. -/
def Drawn (w w' : World) : Prop := ∃ n, w' = w.drewN n
theorem Drawn.refl (w : World) : Drawn w w := ⟨0, rfl⟩
theorem Drawn.next {w w' : World} (h : Drawn w w') (n : Nat) : Drawn w (w'.drewN n) := by
  obtain ⟨m, rfl⟩ := h
  exact ⟨m + n, by rw [World.drewN_drewN]⟩
theorem Drawn.cell {w w' : World} (h : Drawn w w') {a : Addr} {v : Option Value} (hc : w.cell? a = v) : w'.cell? a = v := by
  obtain ⟨m, rfl⟩ := h
  exact hc
theorem Drawn.below {w w' : World} (h : Drawn w w') (B : Nat) : Below B w w' := by
  obtain ⟨m, rfl⟩ := h
  exact ⟨rfl, rfl, rfl, Nat.le_refl _, fun _ _ => rfl⟩

/-- What the last loop is told of the figures of one redemption: field k stands at place p: its value is the field's, its name the field's name. -/
def FigAt (w : World) (b g k p : Nat) : Prop := ∃ s, w.cell? ⟨b, k, none⟩ = some (.string s) ∧ w.cell? ⟨g, p * 2 + 1, none⟩ = some (.string s) ∧ w.cell? ⟨g, p * 2, none⟩ = some (.string (nmk k))
theorem figAt8 {w : World} {b g cap base : Nat} {f0 f1 f2 f3 f4 f5 f6 f7 : ByteArray} (hb : w.heap[b]? = some (.cells #[.string f0, .string f1, .string f2, .string f3, .string f4, .string f5, .string f6, .string f7] 32))
    (hF : Figs base w (.slice (some ⟨g, 0, none⟩) 8 cap) (red8 f0 f1 f2 f3 f4 f5 f6 f7)) (k : Nat) (hk : k < 8) : FigAt w b g k k :=
  ⟨_, (cell_of_row _ _ k _ 32 _ hb).trans (strs_at [f0, f1, f2, f3, f4, f5, f6, f7] k hk), (Figs.atRow hF k hk).2.trans (by rw [vl8 _ _ _ _ _ _ _ _ k hk]), (Figs.atRow hF k hk).1.trans (by rw [nm8 _ _ _ _ _ _ _ _ k hk])⟩
theorem figAt7 {w : World} {b g cap base : Nat} {f0 f1 f2 f3 f4 f5 f6 f7 : ByteArray} (hb : w.heap[b]? = some (.cells #[.string f0, .string f1, .string f2, .string f3, .string f4, .string f5, .string f6, .string f7] 32))
    (hF : Figs base w (.slice (some ⟨g, 0, none⟩) 7 cap) (red7 f0 f1 f2 f3 f4 f5 f7)) (k : Nat) (hk : k < 6) : FigAt w b g k k :=
  ⟨_, (cell_of_row _ _ k _ 32 _ hb).trans (strs_at [f0, f1, f2, f3, f4, f5, f6, f7] k (by show k < 8; omega)), (Figs.atRow hF k (by show k < 7; omega)).2.trans (by rw [vl7 _ _ _ _ _ _ f6 _ k hk]), (Figs.atRow hF k (by show k < 7; omega)).1.trans (by rw [nm7 _ _ _ _ _ _ _ k hk])⟩
theorem figAt76 {w : World} {b g cap base : Nat} {f0 f1 f2 f3 f4 f5 f6 f7 : ByteArray} (hb : w.heap[b]? = some (.cells #[.string f0, .string f1, .string f2, .string f3, .string f4, .string f5, .string f6, .string f7] 32))
    (hF : Figs base w (.slice (some ⟨g, 0, none⟩) 7 cap) (red7 f0 f1 f2 f3 f4 f5 f7)) : FigAt w b g 7 6 :=
  ⟨_, (cell_of_row _ _ 7 _ 32 _ hb).trans (strs_at [f0, f1, f2, f3, f4, f5, f6, f7] 7 (by show 7 < 8; omega)), (Figs.atRow hF 6 (by show 6 < 7; omega)).2, (Figs.atRow hF 6 (by show 6 < 7; omega)).1⟩

set_option maxRecDepth 100000 in
set_option maxHeartbeats 2000000 in
theorem walk5_yy (f0 f1 f2 f3 f4 f5 f6 f7 g0 g1 g2 g3 g4 g5 g6 g7 : ByteArray) (w : World) (ha : f6.toList.isEmpty = false) (hb : g6.toList.isEmpty = false) :
    Calls Try.prog 5 #[.agg #[.string f0, .string f1, .string f2, .string f3, .string f4, .string f5, .string f6, .string f7], .agg #[.string g0, .string g1, .string g2, .string g3, .string g4, .string g5, .string g6, .string g7]] w fun e w' => e = .returned (.bool true) ∧ Below w.heap.size w w' := by
  go_enter Try.func5, Try.ntmps5
  go_wp2_with fail
  refine (bytes16 f0 f1 f2 f3 f4 f5 f6 f7 g0 g1 g2 g3 g4 g5 g6 g7 _).mono ?_
  rintro e w1 ⟨⟨b, rfl⟩, hb1⟩
  have bx1 := (Boxes.mk0 w #[.string f0, .string f1, .string f2, .string f3, .string f4, .string f5, .string f6, .string f7] #[.string g0, .string g1, .string g2, .string g3, .string g4, .string g5, .string g6, .string g7] 32 32).next hb1
  clear hb1
  cases b
  · go_wp2
    go_ret
    exact ⟨rfl, bx1.below⟩
  have H1 : Hid (∀ k : Nat, k < 8 → ∃ s, w1.cell? ⟨w.heap.size, k, none⟩ = some (.string s)) := fun k hk => ⟨_, (cell_of_row _ _ k _ 32 _ bx1.fst).trans (strs_at [f0, f1, f2, f3, f4, f5, f6, f7] k hk)⟩
  have H2 : Hid (∀ k : Nat, k < 8 → ∃ s, w1.cell? ⟨w.heap.size + 1, k, none⟩ = some (.string s)) := fun k hk => ⟨_, (cell_of_row _ _ k _ 32 _ bx1.snd).trans (strs_at [g0, g1, g2, g3, g4, g5, g6, g7] k hk)⟩
  go_wp2
  go_loop [5, 6] (fun t i => ∃ (k : Nat) (n : Int), k ≤ 8 ∧ i = .int .i64 k ∧ t = .int .i64 n) (fun _ i => 8 - (intOf i).toNat)
  case atStart => exact ⟨0, 0, by omega, rfl, rfl⟩
  case round =>
    obtain ⟨k, n, hk, rfl, rfl⟩ := hrel
    by_cases hlt : k < 8
    · obtain ⟨s, hs⟩ := H1.out k hlt
      go_wp2
      · go_ret
        exact ⟨rfl, bx1.below⟩
      · go_ret
        exact ⟨rfl, bx1.below⟩
      · go_round
        case rel => exact ⟨k + 1, _, by omega, by go_num, rfl⟩
        case measure => simp [intOf]; omega
    · go_wp2
      go_loop [5, 7] (fun t i => ∃ (k : Nat) (n : Int), k ≤ 8 ∧ i = .int .i64 k ∧ t = .int .i64 n) (fun _ i => 8 - (intOf i).toNat)
      case atStart => exact ⟨0, n, by omega, rfl, rfl⟩
      case round =>
        obtain ⟨q, n, hq, rfl, rfl⟩ := hrel
        by_cases hqt : q < 8
        · obtain ⟨s, hs⟩ := H2.out q hqt
          go_wp2
          · go_ret
            exact ⟨rfl, bx1.below⟩
          · go_ret
            exact ⟨rfl, bx1.below⟩
          · go_round
            case rel => exact ⟨q + 1, _, by omega, by go_num, rfl⟩
            case measure => simp [intOf]; omega
        · clear H1 H2
          have hf1 := bx1.fst
          go_wp2_with (refine wpList_load_row rfl 32 _ rfl w.heap.size rfl 32 _ (0, 0) _ hf1 Try.underlying32 rfl (by kernel_rfl) ?_)
          refine (red13 f0 f1 f2 f3 f4 f5 f6 f7 _).mono ?_
          rintro e w2 ⟨rfl, hb2⟩
          have bx2 := bx1.next hb2
          clear hb2 hf1 bx1
          go_wp2_with fail
          refine (figs14b8 f0 f1 f2 f3 f4 f5 f6 f7 _ ha).mono ?_
          rintro e w3 ⟨ga, capa, rfl, hFa, hb3⟩
          have bx3 := bx2.next hb3
          clear hb3 bx2
          have hf3 := bx3.snd
          go_wp2_with (refine wpList_load_row rfl 32 _ rfl (w.heap.size + 1) rfl 32 _ (0, 0) _ hf3 Try.underlying32 rfl (by kernel_rfl) ?_)
          refine (red13 g0 g1 g2 g3 g4 g5 g6 g7 _).mono ?_
          rintro e w4 ⟨rfl, hb4⟩
          have bx4 := bx3.next hb4
          have hFa4 := hFa.keep hb4
          clear hb4 hf3 bx3 hFa
          go_wp2_with fail
          refine (figs14b8 g0 g1 g2 g3 g4 g5 g6 g7 _ hb).mono ?_
          rintro e w5 ⟨gb, capb, rfl, hFb, hb5⟩
          have bx5 := bx4.next hb5
          have hFa := hFa4.keep hb5
          clear hb5 hFa4 bx4
          have c6 : w5.cell? ⟨w.heap.size, 6, none⟩ = some (.string f6) := cell_of_row _ _ 6 _ 32 _ bx5.fst
          have d6 : w5.cell? ⟨w.heap.size + 1, 6, none⟩ = some (.string g6) := cell_of_row _ _ 6 _ 32 _ bx5.snd
          go_wp2_with fail
          refine (sound11 _ (by show 8 < 1000; omega) (sound_red8 f0 f1 f2 f3 f4 f5 f6 f7) _ _ _ hFa).mono ?_
          rintro e w' ⟨rfl, hw'⟩
          obtain rfl : w5 = w' := hw'.symm
          go_wp2_with fail
          refine (sound11 _ (by show 8 < 1000; omega) (sound_red8 g0 g1 g2 g3 g4 g5 g6 g7) _ _ _ hFb).mono ?_
          rintro e w' ⟨rfl, hw'⟩
          obtain rfl : w5 = w' := hw'.symm
          go_wp2_with fail
          have HA : Hid (∀ k, k < 6 → FigAt w5 w.heap.size ga k k) := fun k hk => figAt8 bx5.fst hFa k (by omega)
          have HB : Hid (∀ k, k < 6 → FigAt w5 (w.heap.size + 1) gb k k) := fun k hk => figAt8 bx5.snd hFb k (by omega)
          have HA7 : Hid (FigAt w5 w.heap.size ga 7 7) := figAt8 bx5.fst hFa 7 (by omega)
          have HB7 : Hid (FigAt w5 (w.heap.size + 1) gb 7 7) := figAt8 bx5.snd hFb 7 (by omega)
          have HA6 : Hid (FigAt w5 w.heap.size ga 6 6) := figAt8 bx5.fst hFa 6 (by omega)
          have HB6 : Hid (FigAt w5 (w.heap.size + 1) gb 6 6) := figAt8 bx5.snd hFb 6 (by omega)
          clear hFa hFb c6 d6
          go_loopw [14] (fun i wr => ∃ (k : Nat), k ≤ 8 ∧ i = .int .i64 k ∧ Drawn w5 wr) (fun i _ => 8 - (intOf i).toNat)
          case atStart => exact ⟨0, by omega, rfl, Drawn.refl _⟩
          case round =>
            obtain ⟨j, hj, rfl, hD⟩ := hrel
            by_cases hj6 : j < 6
            · obtain ⟨s, a1, a2, a3⟩ := HA.out j hj6
              obtain ⟨t, b1, b2, b3⟩ := HB.out j hj6
              generalize nmk j = m at *
              replace a1 := hD.cell a1
              replace a2 := hD.cell a2
              replace a3 := hD.cell a3
              replace b1 := hD.cell b1
              replace b2 := hD.cell b2
              replace b3 := hD.cell b3
              have n6 : ((j : Int) != 6) = true := by rw [bne_iff_ne]; omega
              have i8 : (j : Int) < 8 := by omega
              have i0 : (0 : Int) ≤ (j : Int) := by omega
              clear HA HB HA7 HB7 HA6 HB6
              go_wp2_with fail
              go_quiet ((go_at_call 17; refine (pos17_lt _ _ _ (by omega)).mono ?_; rintro e w'' ⟨he, hw⟩; exact ⟨he, _, hw⟩))
              go_wp2_with fail
              go_quiet ((go_at_call 17; refine (pos17_lt _ _ _ (by omega)).mono ?_; rintro e w'' ⟨he, hw⟩; exact ⟨he, _, hw⟩))
              go_wp2_with fail
              go_quiet ((go_at_call 17; refine (pos17_lt _ _ _ (by omega)).mono ?_; rintro e w'' ⟨he, hw⟩; exact ⟨he, _, hw⟩))
              go_wp2_with fail
              go_roundw
              case rel => exact ⟨j + 1, by omega, by go_num, hD.next _⟩
              case measure => simp [intOf]; omega
            · by_cases hj7 : j = 6
              · subst hj7
                obtain ⟨s, a1, a2, a3⟩ := HA6.out
                replace a1 := hD.cell a1
                replace a2 := hD.cell a2
                replace a3 := hD.cell a3
                obtain ⟨t, b1, b2, b3⟩ := HB6.out
                replace b1 := hD.cell b1
                replace b2 := hD.cell b2
                replace b3 := hD.cell b3
                generalize nmk 6 = m at *
                clear HA HB HA7 HB7 HA6 HB6
                go_wp2_with fail
                go_quiet ((go_at_call 17; refine (pos17_lt _ _ _ (by omega)).mono ?_; rintro e w'' ⟨he, hw⟩; exact ⟨he, _, hw⟩))
                go_wp2_with fail
                go_quiet ((go_at_call 17; refine (pos17_lt _ _ _ (by omega)).mono ?_; rintro e w'' ⟨he, hw⟩; exact ⟨he, _, hw⟩))
                go_wp2_with fail
                go_quiet ((go_at_call 17; refine (pos17_lt _ _ _ (by omega)).mono ?_; rintro e w'' ⟨he, hw⟩; exact ⟨he, _, hw⟩))
                go_wp2_with fail
                go_roundw
                case rel => exact ⟨7, by omega, by go_num, hD.next _⟩
                case measure => simp [intOf]
              · by_cases hj8 : j = 7
                · subst hj8
                  obtain ⟨s, a1, a2, a3⟩ := HA7.out
                  obtain ⟨t, b1, b2, b3⟩ := HB7.out
                  generalize nmk 7 = m at *
                  replace a1 := hD.cell a1
                  replace a2 := hD.cell a2
                  replace a3 := hD.cell a3
                  replace b1 := hD.cell b1
                  replace b2 := hD.cell b2
                  replace b3 := hD.cell b3
                  clear HA HB HA7 HB7 HA6 HB6
                  go_wp2_with fail
                  go_quiet ((go_at_call 17; refine (pos17_7t _).mono ?_; rintro e w'' ⟨he, hw⟩; exact ⟨he, _, hw⟩))
                  go_wp2_with fail
                  go_quiet ((go_at_call 17; refine (pos17_7t _).mono ?_; rintro e w'' ⟨he, hw⟩; exact ⟨he, _, hw⟩))
                  go_wp2_with fail
                  go_quiet ((go_at_call 17; refine (pos17_7t _).mono ?_; rintro e w'' ⟨he, hw⟩; exact ⟨he, _, hw⟩))
                  go_wp2_with fail
                  go_roundw
                  case rel => exact ⟨8, by omega, by go_num, hD.next _⟩
                  case measure => simp [intOf]
                · obtain rfl : j = 8 := by omega
                  go_wp2
                  go_ret
                  exact ⟨rfl, bx5.below.trans (hD.below _)⟩

set_option maxRecDepth 100000 in
set_option maxHeartbeats 2000000 in
theorem walk5_yn (f0 f1 f2 f3 f4 f5 f6 f7 g0 g1 g2 g3 g4 g5 g7 : ByteArray) (w : World) (ha : f6.toList.isEmpty = false) :
    Calls Try.prog 5 #[.agg #[.string f0, .string f1, .string f2, .string f3, .string f4, .string f5, .string f6, .string f7], .agg #[.string g0, .string g1, .string g2, .string g3, .string g4, .string g5, .string ⟨#[]⟩, .string g7]] w fun e w' => e = .returned (.bool true) ∧ Below w.heap.size w w' := by
  go_enter Try.func5, Try.ntmps5
  go_wp2_with fail
  refine (bytes16 f0 f1 f2 f3 f4 f5 f6 f7 g0 g1 g2 g3 g4 g5 ⟨#[]⟩ g7 _).mono ?_
  rintro e w1 ⟨⟨b, rfl⟩, hb1⟩
  have bx1 := (Boxes.mk0 w #[.string f0, .string f1, .string f2, .string f3, .string f4, .string f5, .string f6, .string f7] #[.string g0, .string g1, .string g2, .string g3, .string g4, .string g5, .string ⟨#[]⟩, .string g7] 32 32).next hb1
  clear hb1
  cases b
  · go_wp2
    go_ret
    exact ⟨rfl, bx1.below⟩
  have H1 : Hid (∀ k : Nat, k < 8 → ∃ s, w1.cell? ⟨w.heap.size, k, none⟩ = some (.string s)) := fun k hk => ⟨_, (cell_of_row _ _ k _ 32 _ bx1.fst).trans (strs_at [f0, f1, f2, f3, f4, f5, f6, f7] k hk)⟩
  have H2 : Hid (∀ k : Nat, k < 8 → ∃ s, w1.cell? ⟨w.heap.size + 1, k, none⟩ = some (.string s)) := fun k hk => ⟨_, (cell_of_row _ _ k _ 32 _ bx1.snd).trans (strs_at [g0, g1, g2, g3, g4, g5, ⟨#[]⟩, g7] k hk)⟩
  go_wp2
  go_loop [5, 6] (fun t i => ∃ (k : Nat) (n : Int), k ≤ 8 ∧ i = .int .i64 k ∧ t = .int .i64 n) (fun _ i => 8 - (intOf i).toNat)
  case atStart => exact ⟨0, 0, by omega, rfl, rfl⟩
  case round =>
    obtain ⟨k, n, hk, rfl, rfl⟩ := hrel
    by_cases hlt : k < 8
    · obtain ⟨s, hs⟩ := H1.out k hlt
      go_wp2
      · go_ret
        exact ⟨rfl, bx1.below⟩
      · go_ret
        exact ⟨rfl, bx1.below⟩
      · go_round
        case rel => exact ⟨k + 1, _, by omega, by go_num, rfl⟩
        case measure => simp [intOf]; omega
    · go_wp2
      go_loop [5, 7] (fun t i => ∃ (k : Nat) (n : Int), k ≤ 8 ∧ i = .int .i64 k ∧ t = .int .i64 n) (fun _ i => 8 - (intOf i).toNat)
      case atStart => exact ⟨0, n, by omega, rfl, rfl⟩
      case round =>
        obtain ⟨q, n, hq, rfl, rfl⟩ := hrel
        by_cases hqt : q < 8
        · obtain ⟨s, hs⟩ := H2.out q hqt
          go_wp2
          · go_ret
            exact ⟨rfl, bx1.below⟩
          · go_ret
            exact ⟨rfl, bx1.below⟩
          · go_round
            case rel => exact ⟨q + 1, _, by omega, by go_num, rfl⟩
            case measure => simp [intOf]; omega
        · clear H1 H2
          have hf1 := bx1.fst
          go_wp2_with (refine wpList_load_row rfl 32 _ rfl w.heap.size rfl 32 _ (0, 0) _ hf1 Try.underlying32 rfl (by kernel_rfl) ?_)
          refine (red13 f0 f1 f2 f3 f4 f5 f6 f7 _).mono ?_
          rintro e w2 ⟨rfl, hb2⟩
          have bx2 := bx1.next hb2
          clear hb2 hf1 bx1
          go_wp2_with fail
          refine (figs14b8 f0 f1 f2 f3 f4 f5 f6 f7 _ ha).mono ?_
          rintro e w3 ⟨ga, capa, rfl, hFa, hb3⟩
          have bx3 := bx2.next hb3
          clear hb3 bx2
          have hf3 := bx3.snd
          go_wp2_with (refine wpList_load_row rfl 32 _ rfl (w.heap.size + 1) rfl 32 _ (0, 0) _ hf3 Try.underlying32 rfl (by kernel_rfl) ?_)
          refine (red13 g0 g1 g2 g3 g4 g5 ⟨#[]⟩ g7 _).mono ?_
          rintro e w4 ⟨rfl, hb4⟩
          have bx4 := bx3.next hb4
          have hFa4 := hFa.keep hb4
          clear hb4 hf3 bx3 hFa
          go_wp2_with fail
          refine (figs14a7 g0 g1 g2 g3 g4 g5 g7 _).mono ?_
          rintro e w5 ⟨gb, capb, rfl, hFb, hb5⟩
          have bx5 := bx4.next hb5
          have hFa := hFa4.keep hb5
          clear hb5 hFa4 bx4
          have c6 : w5.cell? ⟨w.heap.size, 6, none⟩ = some (.string f6) := cell_of_row _ _ 6 _ 32 _ bx5.fst
          have d6 : w5.cell? ⟨w.heap.size + 1, 6, none⟩ = some (.string ⟨#[]⟩) := cell_of_row _ _ 6 _ 32 _ bx5.snd
          go_wp2_with fail
          refine (sound11 _ (by show 8 < 1000; omega) (sound_red8 f0 f1 f2 f3 f4 f5 f6 f7) _ _ _ hFa).mono ?_
          rintro e w' ⟨rfl, hw'⟩
          obtain rfl : w5 = w' := hw'.symm
          go_wp2_with fail
          refine (sound11 _ (by show 7 < 1000; omega) (sound_red7 g0 g1 g2 g3 g4 g5 g7) _ _ _ hFb).mono ?_
          rintro e w' ⟨rfl, hw'⟩
          obtain rfl : w5 = w' := hw'.symm
          go_wp2_with fail
          have HA : Hid (∀ k, k < 6 → FigAt w5 w.heap.size ga k k) := fun k hk => figAt8 bx5.fst hFa k (by omega)
          have HB : Hid (∀ k, k < 6 → FigAt w5 (w.heap.size + 1) gb k k) := fun k hk => figAt7 bx5.snd hFb k hk
          have HA7 : Hid (FigAt w5 w.heap.size ga 7 7) := figAt8 bx5.fst hFa 7 (by omega)
          have HB7 : Hid (FigAt w5 (w.heap.size + 1) gb 7 6) := figAt76 bx5.snd hFb
          have HA6 : Hid (FigAt w5 w.heap.size ga 6 6) := figAt8 bx5.fst hFa 6 (by omega)
          skip
          clear hFa hFb c6 d6
          go_loopw [14] (fun i wr => ∃ (k : Nat), k ≤ 8 ∧ i = .int .i64 k ∧ Drawn w5 wr) (fun i _ => 8 - (intOf i).toNat)
          case atStart => exact ⟨0, by omega, rfl, Drawn.refl _⟩
          case round =>
            obtain ⟨j, hj, rfl, hD⟩ := hrel
            by_cases hj6 : j < 6
            · obtain ⟨s, a1, a2, a3⟩ := HA.out j hj6
              obtain ⟨t, b1, b2, b3⟩ := HB.out j hj6
              generalize nmk j = m at *
              replace a1 := hD.cell a1
              replace a2 := hD.cell a2
              replace a3 := hD.cell a3
              replace b1 := hD.cell b1
              replace b2 := hD.cell b2
              replace b3 := hD.cell b3
              have n6 : ((j : Int) != 6) = true := by rw [bne_iff_ne]; omega
              have i8 : (j : Int) < 8 := by omega
              have i0 : (0 : Int) ≤ (j : Int) := by omega
              clear HA HB HA7 HB7 HA6
              go_wp2_with fail
              go_quiet ((go_at_call 17; refine (pos17_lt _ _ _ (by omega)).mono ?_; rintro e w'' ⟨he, hw⟩; exact ⟨he, _, hw⟩))
              go_wp2_with fail
              go_quiet ((go_at_call 17; refine (pos17_lt _ _ _ (by omega)).mono ?_; rintro e w'' ⟨he, hw⟩; exact ⟨he, _, hw⟩))
              go_wp2_with fail
              go_quiet ((go_at_call 17; refine (pos17_lt _ _ _ (by omega)).mono ?_; rintro e w'' ⟨he, hw⟩; exact ⟨he, _, hw⟩))
              go_wp2_with fail
              go_roundw
              case rel => exact ⟨j + 1, by omega, by go_num, hD.next _⟩
              case measure => simp [intOf]; omega
            · by_cases hj7 : j = 6
              · subst hj7
                obtain ⟨s, a1, a2, a3⟩ := HA6.out
                replace a1 := hD.cell a1
                replace a2 := hD.cell a2
                replace a3 := hD.cell a3
                generalize nmk 6 = m at *
                clear HA HB HA7 HB7 HA6
                go_wp2_with fail
                go_quiet ((go_at_call 17; refine (pos17_lt _ _ _ (by omega)).mono ?_; rintro e w'' ⟨he, hw⟩; exact ⟨he, _, hw⟩))
                go_wp2_with fail
                go_quiet (fail)
                go_wp2_with fail
                go_quiet (fail)
                go_wp2_with fail
                go_roundw
                case rel => exact ⟨7, by omega, by go_num, hD.next _⟩
                case measure => simp [intOf]
              · by_cases hj8 : j = 7
                · subst hj8
                  obtain ⟨s, a1, a2, a3⟩ := HA7.out
                  obtain ⟨t, b1, b2, b3⟩ := HB7.out
                  generalize nmk 7 = m at *
                  replace a1 := hD.cell a1
                  replace a2 := hD.cell a2
                  replace a3 := hD.cell a3
                  replace b1 := hD.cell b1
                  replace b2 := hD.cell b2
                  replace b3 := hD.cell b3
                  clear HA HB HA7 HB7 HA6
                  go_wp2_with fail
                  go_quiet ((go_at_call 17; refine (pos17_7t _).mono ?_; rintro e w'' ⟨he, hw⟩; exact ⟨he, _, hw⟩))
                  go_wp2_with fail
                  go_quiet ((go_at_call 17; refine (pos17_7f _).mono ?_; rintro e w'' ⟨he, hw⟩; exact ⟨he, _, hw⟩))
                  go_wp2_with fail
                  go_quiet ((go_at_call 17; refine (pos17_7 _ _).mono ?_; rintro e w'' ⟨he, hw⟩; exact ⟨he, _, hw⟩))
                  go_wp2_with fail
                  go_roundw
                  case rel => exact ⟨8, by omega, by go_num, hD.next _⟩
                  case measure => simp [intOf]
                · obtain rfl : j = 8 := by omega
                  go_wp2
                  go_ret
                  exact ⟨rfl, bx5.below.trans (hD.below _)⟩

set_option maxRecDepth 100000 in
set_option maxHeartbeats 2000000 in
theorem walk5_ny (f0 f1 f2 f3 f4 f5 f7 g0 g1 g2 g3 g4 g5 g6 g7 : ByteArray) (w : World) (hb : g6.toList.isEmpty = false) :
    Calls Try.prog 5 #[.agg #[.string f0, .string f1, .string f2, .string f3, .string f4, .string f5, .string ⟨#[]⟩, .string f7], .agg #[.string g0, .string g1, .string g2, .string g3, .string g4, .string g5, .string g6, .string g7]] w fun e w' => e = .returned (.bool true) ∧ Below w.heap.size w w' := by
  go_enter Try.func5, Try.ntmps5
  go_wp2_with fail
  refine (bytes16 f0 f1 f2 f3 f4 f5 ⟨#[]⟩ f7 g0 g1 g2 g3 g4 g5 g6 g7 _).mono ?_
  rintro e w1 ⟨⟨b, rfl⟩, hb1⟩
  have bx1 := (Boxes.mk0 w #[.string f0, .string f1, .string f2, .string f3, .string f4, .string f5, .string ⟨#[]⟩, .string f7] #[.string g0, .string g1, .string g2, .string g3, .string g4, .string g5, .string g6, .string g7] 32 32).next hb1
  clear hb1
  cases b
  · go_wp2
    go_ret
    exact ⟨rfl, bx1.below⟩
  have H1 : Hid (∀ k : Nat, k < 8 → ∃ s, w1.cell? ⟨w.heap.size, k, none⟩ = some (.string s)) := fun k hk => ⟨_, (cell_of_row _ _ k _ 32 _ bx1.fst).trans (strs_at [f0, f1, f2, f3, f4, f5, ⟨#[]⟩, f7] k hk)⟩
  have H2 : Hid (∀ k : Nat, k < 8 → ∃ s, w1.cell? ⟨w.heap.size + 1, k, none⟩ = some (.string s)) := fun k hk => ⟨_, (cell_of_row _ _ k _ 32 _ bx1.snd).trans (strs_at [g0, g1, g2, g3, g4, g5, g6, g7] k hk)⟩
  go_wp2
  go_loop [5, 6] (fun t i => ∃ (k : Nat) (n : Int), k ≤ 8 ∧ i = .int .i64 k ∧ t = .int .i64 n) (fun _ i => 8 - (intOf i).toNat)
  case atStart => exact ⟨0, 0, by omega, rfl, rfl⟩
  case round =>
    obtain ⟨k, n, hk, rfl, rfl⟩ := hrel
    by_cases hlt : k < 8
    · obtain ⟨s, hs⟩ := H1.out k hlt
      go_wp2
      · go_ret
        exact ⟨rfl, bx1.below⟩
      · go_ret
        exact ⟨rfl, bx1.below⟩
      · go_round
        case rel => exact ⟨k + 1, _, by omega, by go_num, rfl⟩
        case measure => simp [intOf]; omega
    · go_wp2
      go_loop [5, 7] (fun t i => ∃ (k : Nat) (n : Int), k ≤ 8 ∧ i = .int .i64 k ∧ t = .int .i64 n) (fun _ i => 8 - (intOf i).toNat)
      case atStart => exact ⟨0, n, by omega, rfl, rfl⟩
      case round =>
        obtain ⟨q, n, hq, rfl, rfl⟩ := hrel
        by_cases hqt : q < 8
        · obtain ⟨s, hs⟩ := H2.out q hqt
          go_wp2
          · go_ret
            exact ⟨rfl, bx1.below⟩
          · go_ret
            exact ⟨rfl, bx1.below⟩
          · go_round
            case rel => exact ⟨q + 1, _, by omega, by go_num, rfl⟩
            case measure => simp [intOf]; omega
        · clear H1 H2
          have hf1 := bx1.fst
          go_wp2_with (refine wpList_load_row rfl 32 _ rfl w.heap.size rfl 32 _ (0, 0) _ hf1 Try.underlying32 rfl (by kernel_rfl) ?_)
          refine (red13 f0 f1 f2 f3 f4 f5 ⟨#[]⟩ f7 _).mono ?_
          rintro e w2 ⟨rfl, hb2⟩
          have bx2 := bx1.next hb2
          clear hb2 hf1 bx1
          go_wp2_with fail
          refine (figs14a7 f0 f1 f2 f3 f4 f5 f7 _).mono ?_
          rintro e w3 ⟨ga, capa, rfl, hFa, hb3⟩
          have bx3 := bx2.next hb3
          clear hb3 bx2
          have hf3 := bx3.snd
          go_wp2_with (refine wpList_load_row rfl 32 _ rfl (w.heap.size + 1) rfl 32 _ (0, 0) _ hf3 Try.underlying32 rfl (by kernel_rfl) ?_)
          refine (red13 g0 g1 g2 g3 g4 g5 g6 g7 _).mono ?_
          rintro e w4 ⟨rfl, hb4⟩
          have bx4 := bx3.next hb4
          have hFa4 := hFa.keep hb4
          clear hb4 hf3 bx3 hFa
          go_wp2_with fail
          refine (figs14b8 g0 g1 g2 g3 g4 g5 g6 g7 _ hb).mono ?_
          rintro e w5 ⟨gb, capb, rfl, hFb, hb5⟩
          have bx5 := bx4.next hb5
          have hFa := hFa4.keep hb5
          clear hb5 hFa4 bx4
          have c6 : w5.cell? ⟨w.heap.size, 6, none⟩ = some (.string ⟨#[]⟩) := cell_of_row _ _ 6 _ 32 _ bx5.fst
          have d6 : w5.cell? ⟨w.heap.size + 1, 6, none⟩ = some (.string g6) := cell_of_row _ _ 6 _ 32 _ bx5.snd
          go_wp2_with fail
          refine (sound11 _ (by show 7 < 1000; omega) (sound_red7 f0 f1 f2 f3 f4 f5 f7) _ _ _ hFa).mono ?_
          rintro e w' ⟨rfl, hw'⟩
          obtain rfl : w5 = w' := hw'.symm
          go_wp2_with fail
          refine (sound11 _ (by show 8 < 1000; omega) (sound_red8 g0 g1 g2 g3 g4 g5 g6 g7) _ _ _ hFb).mono ?_
          rintro e w' ⟨rfl, hw'⟩
          obtain rfl : w5 = w' := hw'.symm
          go_wp2_with fail
          have HA : Hid (∀ k, k < 6 → FigAt w5 w.heap.size ga k k) := fun k hk => figAt7 bx5.fst hFa k hk
          have HB : Hid (∀ k, k < 6 → FigAt w5 (w.heap.size + 1) gb k k) := fun k hk => figAt8 bx5.snd hFb k (by omega)
          have HA7 : Hid (FigAt w5 w.heap.size ga 7 6) := figAt76 bx5.fst hFa
          have HB7 : Hid (FigAt w5 (w.heap.size + 1) gb 7 7) := figAt8 bx5.snd hFb 7 (by omega)
          skip
          have HB6 : Hid (FigAt w5 (w.heap.size + 1) gb 6 6) := figAt8 bx5.snd hFb 6 (by omega)
          clear hFa hFb c6 d6
          go_loopw [14] (fun i wr => ∃ (k : Nat), k ≤ 8 ∧ i = .int .i64 k ∧ Drawn w5 wr) (fun i _ => 8 - (intOf i).toNat)
          case atStart => exact ⟨0, by omega, rfl, Drawn.refl _⟩
          case round =>
            obtain ⟨j, hj, rfl, hD⟩ := hrel
            by_cases hj6 : j < 6
            · obtain ⟨s, a1, a2, a3⟩ := HA.out j hj6
              obtain ⟨t, b1, b2, b3⟩ := HB.out j hj6
              generalize nmk j = m at *
              replace a1 := hD.cell a1
              replace a2 := hD.cell a2
              replace a3 := hD.cell a3
              replace b1 := hD.cell b1
              replace b2 := hD.cell b2
              replace b3 := hD.cell b3
              have n6 : ((j : Int) != 6) = true := by rw [bne_iff_ne]; omega
              have i8 : (j : Int) < 8 := by omega
              have i0 : (0 : Int) ≤ (j : Int) := by omega
              clear HA HB HA7 HB7 HB6
              go_wp2_with fail
              go_quiet ((go_at_call 17; refine (pos17_lt _ _ _ (by omega)).mono ?_; rintro e w'' ⟨he, hw⟩; exact ⟨he, _, hw⟩))
              go_wp2_with fail
              go_quiet ((go_at_call 17; refine (pos17_lt _ _ _ (by omega)).mono ?_; rintro e w'' ⟨he, hw⟩; exact ⟨he, _, hw⟩))
              go_wp2_with fail
              go_quiet ((go_at_call 17; refine (pos17_lt _ _ _ (by omega)).mono ?_; rintro e w'' ⟨he, hw⟩; exact ⟨he, _, hw⟩))
              go_wp2_with fail
              go_roundw
              case rel => exact ⟨j + 1, by omega, by go_num, hD.next _⟩
              case measure => simp [intOf]; omega
            · by_cases hj7 : j = 6
              · subst hj7
                obtain ⟨t, b1, b2, b3⟩ := HB6.out
                replace b1 := hD.cell b1
                replace b2 := hD.cell b2
                replace b3 := hD.cell b3
                generalize nmk 6 = m at *
                clear HA HB HA7 HB7 HB6
                go_wp2_with fail
                go_quiet (fail)
                go_wp2_with fail
                go_quiet ((go_at_call 17; refine (pos17_lt _ _ _ (by omega)).mono ?_; rintro e w'' ⟨he, hw⟩; exact ⟨he, _, hw⟩))
                go_wp2_with fail
                go_quiet (fail)
                go_wp2_with fail
                go_roundw
                case rel => exact ⟨7, by omega, by go_num, hD.next _⟩
                case measure => simp [intOf]
              · by_cases hj8 : j = 7
                · subst hj8
                  obtain ⟨s, a1, a2, a3⟩ := HA7.out
                  obtain ⟨t, b1, b2, b3⟩ := HB7.out
                  generalize nmk 7 = m at *
                  replace a1 := hD.cell a1
                  replace a2 := hD.cell a2
                  replace a3 := hD.cell a3
                  replace b1 := hD.cell b1
                  replace b2 := hD.cell b2
                  replace b3 := hD.cell b3
                  clear HA HB HA7 HB7 HB6
                  go_wp2_with fail
                  go_quiet ((go_at_call 17; refine (pos17_7f _).mono ?_; rintro e w'' ⟨he, hw⟩; exact ⟨he, _, hw⟩))
                  go_wp2_with fail
                  go_quiet ((go_at_call 17; refine (pos17_7t _).mono ?_; rintro e w'' ⟨he, hw⟩; exact ⟨he, _, hw⟩))
                  go_wp2_with fail
                  go_quiet ((go_at_call 17; refine (pos17_7 _ _).mono ?_; rintro e w'' ⟨he, hw⟩; exact ⟨he, _, hw⟩))
                  go_wp2_with fail
                  go_roundw
                  case rel => exact ⟨8, by omega, by go_num, hD.next _⟩
                  case measure => simp [intOf]
                · obtain rfl : j = 8 := by omega
                  go_wp2
                  go_ret
                  exact ⟨rfl, bx5.below.trans (hD.below _)⟩

set_option maxRecDepth 100000 in
set_option maxHeartbeats 2000000 in
theorem walk5_nn (f0 f1 f2 f3 f4 f5 f7 g0 g1 g2 g3 g4 g5 g7 : ByteArray) (w : World) :
    Calls Try.prog 5 #[.agg #[.string f0, .string f1, .string f2, .string f3, .string f4, .string f5, .string ⟨#[]⟩, .string f7], .agg #[.string g0, .string g1, .string g2, .string g3, .string g4, .string g5, .string ⟨#[]⟩, .string g7]] w fun e w' => e = .returned (.bool true) ∧ Below w.heap.size w w' := by
  go_enter Try.func5, Try.ntmps5
  go_wp2_with fail
  refine (bytes16 f0 f1 f2 f3 f4 f5 ⟨#[]⟩ f7 g0 g1 g2 g3 g4 g5 ⟨#[]⟩ g7 _).mono ?_
  rintro e w1 ⟨⟨b, rfl⟩, hb1⟩
  have bx1 := (Boxes.mk0 w #[.string f0, .string f1, .string f2, .string f3, .string f4, .string f5, .string ⟨#[]⟩, .string f7] #[.string g0, .string g1, .string g2, .string g3, .string g4, .string g5, .string ⟨#[]⟩, .string g7] 32 32).next hb1
  clear hb1
  cases b
  · go_wp2
    go_ret
    exact ⟨rfl, bx1.below⟩
  have H1 : Hid (∀ k : Nat, k < 8 → ∃ s, w1.cell? ⟨w.heap.size, k, none⟩ = some (.string s)) := fun k hk => ⟨_, (cell_of_row _ _ k _ 32 _ bx1.fst).trans (strs_at [f0, f1, f2, f3, f4, f5, ⟨#[]⟩, f7] k hk)⟩
  have H2 : Hid (∀ k : Nat, k < 8 → ∃ s, w1.cell? ⟨w.heap.size + 1, k, none⟩ = some (.string s)) := fun k hk => ⟨_, (cell_of_row _ _ k _ 32 _ bx1.snd).trans (strs_at [g0, g1, g2, g3, g4, g5, ⟨#[]⟩, g7] k hk)⟩
  go_wp2
  go_loop [5, 6] (fun t i => ∃ (k : Nat) (n : Int), k ≤ 8 ∧ i = .int .i64 k ∧ t = .int .i64 n) (fun _ i => 8 - (intOf i).toNat)
  case atStart => exact ⟨0, 0, by omega, rfl, rfl⟩
  case round =>
    obtain ⟨k, n, hk, rfl, rfl⟩ := hrel
    by_cases hlt : k < 8
    · obtain ⟨s, hs⟩ := H1.out k hlt
      go_wp2
      · go_ret
        exact ⟨rfl, bx1.below⟩
      · go_ret
        exact ⟨rfl, bx1.below⟩
      · go_round
        case rel => exact ⟨k + 1, _, by omega, by go_num, rfl⟩
        case measure => simp [intOf]; omega
    · go_wp2
      go_loop [5, 7] (fun t i => ∃ (k : Nat) (n : Int), k ≤ 8 ∧ i = .int .i64 k ∧ t = .int .i64 n) (fun _ i => 8 - (intOf i).toNat)
      case atStart => exact ⟨0, n, by omega, rfl, rfl⟩
      case round =>
        obtain ⟨q, n, hq, rfl, rfl⟩ := hrel
        by_cases hqt : q < 8
        · obtain ⟨s, hs⟩ := H2.out q hqt
          go_wp2
          · go_ret
            exact ⟨rfl, bx1.below⟩
          · go_ret
            exact ⟨rfl, bx1.below⟩
          · go_round
            case rel => exact ⟨q + 1, _, by omega, by go_num, rfl⟩
            case measure => simp [intOf]; omega
        · clear H1 H2
          have hf1 := bx1.fst
          go_wp2_with (refine wpList_load_row rfl 32 _ rfl w.heap.size rfl 32 _ (0, 0) _ hf1 Try.underlying32 rfl (by kernel_rfl) ?_)
          refine (red13 f0 f1 f2 f3 f4 f5 ⟨#[]⟩ f7 _).mono ?_
          rintro e w2 ⟨rfl, hb2⟩
          have bx2 := bx1.next hb2
          clear hb2 hf1 bx1
          go_wp2_with fail
          refine (figs14a7 f0 f1 f2 f3 f4 f5 f7 _).mono ?_
          rintro e w3 ⟨ga, capa, rfl, hFa, hb3⟩
          have bx3 := bx2.next hb3
          clear hb3 bx2
          have hf3 := bx3.snd
          go_wp2_with (refine wpList_load_row rfl 32 _ rfl (w.heap.size + 1) rfl 32 _ (0, 0) _ hf3 Try.underlying32 rfl (by kernel_rfl) ?_)
          refine (red13 g0 g1 g2 g3 g4 g5 ⟨#[]⟩ g7 _).mono ?_
          rintro e w4 ⟨rfl, hb4⟩
          have bx4 := bx3.next hb4
          have hFa4 := hFa.keep hb4
          clear hb4 hf3 bx3 hFa
          go_wp2_with fail
          refine (figs14a7 g0 g1 g2 g3 g4 g5 g7 _).mono ?_
          rintro e w5 ⟨gb, capb, rfl, hFb, hb5⟩
          have bx5 := bx4.next hb5
          have hFa := hFa4.keep hb5
          clear hb5 hFa4 bx4
          have c6 : w5.cell? ⟨w.heap.size, 6, none⟩ = some (.string ⟨#[]⟩) := cell_of_row _ _ 6 _ 32 _ bx5.fst
          have d6 : w5.cell? ⟨w.heap.size + 1, 6, none⟩ = some (.string ⟨#[]⟩) := cell_of_row _ _ 6 _ 32 _ bx5.snd
          go_wp2_with fail
          refine (sound11 _ (by show 7 < 1000; omega) (sound_red7 f0 f1 f2 f3 f4 f5 f7) _ _ _ hFa).mono ?_
          rintro e w' ⟨rfl, hw'⟩
          obtain rfl : w5 = w' := hw'.symm
          go_wp2_with fail
          refine (sound11 _ (by show 7 < 1000; omega) (sound_red7 g0 g1 g2 g3 g4 g5 g7) _ _ _ hFb).mono ?_
          rintro e w' ⟨rfl, hw'⟩
          obtain rfl : w5 = w' := hw'.symm
          go_wp2_with fail
          have HA : Hid (∀ k, k < 6 → FigAt w5 w.heap.size ga k k) := fun k hk => figAt7 bx5.fst hFa k hk
          have HB : Hid (∀ k, k < 6 → FigAt w5 (w.heap.size + 1) gb k k) := fun k hk => figAt7 bx5.snd hFb k hk
          have HA7 : Hid (FigAt w5 w.heap.size ga 7 6) := figAt76 bx5.fst hFa
          have HB7 : Hid (FigAt w5 (w.heap.size + 1) gb 7 6) := figAt76 bx5.snd hFb
          skip
          skip
          clear hFa hFb c6 d6
          go_loopw [14] (fun i wr => ∃ (k : Nat), k ≤ 8 ∧ i = .int .i64 k ∧ Drawn w5 wr) (fun i _ => 8 - (intOf i).toNat)
          case atStart => exact ⟨0, by omega, rfl, Drawn.refl _⟩
          case round =>
            obtain ⟨j, hj, rfl, hD⟩ := hrel
            by_cases hj6 : j < 6
            · obtain ⟨s, a1, a2, a3⟩ := HA.out j hj6
              obtain ⟨t, b1, b2, b3⟩ := HB.out j hj6
              generalize nmk j = m at *
              replace a1 := hD.cell a1
              replace a2 := hD.cell a2
              replace a3 := hD.cell a3
              replace b1 := hD.cell b1
              replace b2 := hD.cell b2
              replace b3 := hD.cell b3
              have n6 : ((j : Int) != 6) = true := by rw [bne_iff_ne]; omega
              have i8 : (j : Int) < 8 := by omega
              have i0 : (0 : Int) ≤ (j : Int) := by omega
              clear HA HB HA7 HB7
              go_wp2_with fail
              go_quiet ((go_at_call 17; refine (pos17_lt _ _ _ (by omega)).mono ?_; rintro e w'' ⟨he, hw⟩; exact ⟨he, _, hw⟩))
              go_wp2_with fail
              go_quiet ((go_at_call 17; refine (pos17_lt _ _ _ (by omega)).mono ?_; rintro e w'' ⟨he, hw⟩; exact ⟨he, _, hw⟩))
              go_wp2_with fail
              go_quiet ((go_at_call 17; refine (pos17_lt _ _ _ (by omega)).mono ?_; rintro e w'' ⟨he, hw⟩; exact ⟨he, _, hw⟩))
              go_wp2_with fail
              go_roundw
              case rel => exact ⟨j + 1, by omega, by go_num, hD.next _⟩
              case measure => simp [intOf]; omega
            · by_cases hj7 : j = 6
              · subst hj7
                clear HA HB HA7 HB7
                go_wp2_with fail
                go_quiet (fail)
                go_wp2_with fail
                go_quiet (fail)
                go_wp2_with fail
                go_quiet (fail)
                go_wp2_with fail
                go_roundw
                case rel => exact ⟨7, by omega, by go_num, hD.next _⟩
                case measure => simp [intOf]
              · by_cases hj8 : j = 7
                · subst hj8
                  obtain ⟨s, a1, a2, a3⟩ := HA7.out
                  obtain ⟨t, b1, b2, b3⟩ := HB7.out
                  generalize nmk 7 = m at *
                  replace a1 := hD.cell a1
                  replace a2 := hD.cell a2
                  replace a3 := hD.cell a3
                  replace b1 := hD.cell b1
                  replace b2 := hD.cell b2
                  replace b3 := hD.cell b3
                  clear HA HB HA7 HB7
                  go_wp2_with fail
                  go_quiet ((go_at_call 17; refine (pos17_7f _).mono ?_; rintro e w'' ⟨he, hw⟩; exact ⟨he, _, hw⟩))
                  go_wp2_with fail
                  go_quiet ((go_at_call 17; refine (pos17_7f _).mono ?_; rintro e w'' ⟨he, hw⟩; exact ⟨he, _, hw⟩))
                  go_wp2_with fail
                  go_quiet ((go_at_call 17; refine (pos17_7f _).mono ?_; rintro e w'' ⟨he, hw⟩; exact ⟨he, _, hw⟩))
                  go_wp2_with fail
                  go_roundw
                  case rel => exact ⟨8, by omega, by go_num, hD.next _⟩
                  case measure => simp [intOf]
                · obtain rfl : j = 8 := by omega
                  go_wp2
                  go_ret
                  exact ⟨rfl, bx5.below.trans (hD.below _)⟩
end Go.Proofs.Qxb6617248a.redHang
