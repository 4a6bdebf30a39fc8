import Derived.Test.Qxb6617248aBoxes
namespace Go.Proofs.Qxb6617248a.redSub
open Go.RowKit

/-- Only draws lie between. -/
def Drawn (w w' : World) : Prop := ∃ n, w' = w.drewN n
theorem Drawn.refl (w : World) : Drawn w w := ⟨0, rfl⟩
theorem Drawn.next {w w' : World} (h : Drawn w w') (n : Nat) : Drawn w (w'.drewN n) := by
  obtain ⟨m, rfl⟩ := h
  exact ⟨m + n, by rw [World.drewN_drewN]⟩
theorem Drawn.cell {w w' : World} (h : Drawn w w') {a : Addr} {v : Option Value} (hc : w.cell? a = v) : w'.cell? a = v := by
  obtain ⟨m, rfl⟩ := h
  exact hc
theorem Drawn.below {w w' : World} (h : Drawn w w') (B : Nat) : Below B w w' := by
  obtain ⟨m, rfl⟩ := h
  exact ⟨rfl, rfl, rfl, Nat.le_refl _, fun _ _ => rfl⟩
/-- One string stands at two places. -/
def Twin (w : World) (b o b' o' : Nat) : Prop := ∃ s, w.cell? ⟨b, o, none⟩ = some (.string s) ∧ w.cell? ⟨b', o', none⟩ = some (.string s)

/-- The rows of the figures. -/
def subRows (g0 g1 g2 g3 g4 g5 g6 : ByteArray) : List (ByteArray × ByteArray) := [(⟨#[103, 114, 111, 115, 115, 95, 97, 109, 111, 117, 110, 116]⟩, g0), (⟨#[102, 101, 101, 95, 114, 117, 108, 101]⟩, g1), (⟨#[110, 101, 116, 95, 97, 109, 111, 117, 110, 116]⟩, g2), (⟨#[102, 101, 101]⟩, g3), (⟨#[105, 110, 116, 101, 114, 101, 115, 116]⟩, g4), (⟨#[112, 97, 114]⟩, g5), (⟨#[115, 104, 97, 114, 101, 115]⟩, g6)]
theorem sound_sub (g0 g1 g2 g3 g4 g5 g6 : ByteArray) : Sound (subRows g0 g1 g2 g3 g4 g5 g6) := sound_of (by show soundB [_, _, _, _, _, _, _] = true; dsimp only; decide +kernel)

set_option maxHeartbeats 400000 in
theorem subOf (g0 g1 g2 g3 g4 g5 g6 : ByteArray) (w : World) :
    Calls Try.prog 19 #[.agg #[.string g0, .string g1, .string g2, .string g3, .string g4, .string g5, .string g6]] w fun e w' => e = .returned (.agg #[.string g0, .string g1, .string g2, .string g3, .string g4, .string g5, .string g6]) ∧ Below w.heap.size w w' := by
  go_enter Try.func19, Try.ntmps19
  go_wp2
  exact bodyPost_ret (v := .agg #[.string g0, .string g1, .string g2, .string g3, .string g4, .string g5, .string g6]) (by simp [results, Try.results19, go_sem]) rfl ⟨rfl, ((Below.refl _ _).alloc (Nat.le_refl _) _).alloc (by simp) _⟩

set_option maxHeartbeats 400000 in
theorem subFigs (g0 g1 g2 g3 g4 g5 g6 : ByteArray) (w : World) :
    Calls Try.prog 20 #[.agg #[.string g0, .string g1, .string g2, .string g3, .string g4, .string g5, .string g6]] w fun e w' => ∃ g cap, e = .returned (.slice (some ⟨g, 0, none⟩) 7 cap) ∧ Figs w.heap.size w' (.slice (some ⟨g, 0, none⟩) 7 cap) (subRows g0 g1 g2 g3 g4 g5 g6) ∧ Below w.heap.size w w' := by
  have hown0 : ∀ A : Obj, ((w.alloc A).alloc (.cells #[.string (⟨#[103, 114, 111, 115, 115, 95, 97, 109, 111, 117, 110, 116]⟩), .string g0, .string (⟨#[102, 101, 101, 95, 114, 117, 108, 101]⟩), .string g1, .string (⟨#[110, 101, 116, 95, 97, 109, 111, 117, 110, 116]⟩), .string g2, .string (⟨#[102, 101, 101]⟩), .string g3, .string (⟨#[105, 110, 116, 101, 114, 101, 115, 116]⟩), .string g4, .string (⟨#[112, 97, 114]⟩), .string g5, .string (⟨#[115, 104, 97, 114, 101, 115]⟩), .string g6] 31)).ownsRow w.heap.size 31 2 (.slice (some ⟨w.heap.size + 1, 0, none⟩) 7 7) 7 [.string (⟨#[103, 114, 111, 115, 115, 95, 97, 109, 111, 117, 110, 116]⟩), .string g0, .string (⟨#[102, 101, 101, 95, 114, 117, 108, 101]⟩), .string g1, .string (⟨#[110, 101, 116, 95, 97, 109, 111, 117, 110, 116]⟩), .string g2, .string (⟨#[102, 101, 101]⟩), .string g3, .string (⟨#[105, 110, 116, 101, 114, 101, 115, 116]⟩), .string g4, .string (⟨#[112, 97, 114]⟩), .string g5, .string (⟨#[115, 104, 97, 114, 101, 115]⟩), .string g6] := by
    intro A
    have := World.ownsRow_lit (base := w.heap.size) (e := 31) (size := 2) (w.alloc A) #[.string (⟨#[103, 114, 111, 115, 115, 95, 97, 109, 111, 117, 110, 116]⟩), .string g0, .string (⟨#[102, 101, 101, 95, 114, 117, 108, 101]⟩), .string g1, .string (⟨#[110, 101, 116, 95, 97, 109, 111, 117, 110, 116]⟩), .string g2, .string (⟨#[102, 101, 101]⟩), .string g3, .string (⟨#[105, 110, 116, 101, 114, 101, 115, 116]⟩), .string g4, .string (⟨#[112, 97, 114]⟩), .string g5, .string (⟨#[115, 104, 97, 114, 101, 115]⟩), .string g6] 7 (by simp) (by decide) rfl
    simpa using this
  have hown := hown0 (.cells #[.string g0, .string g1, .string g2, .string g3, .string g4, .string g5, .string g6] 43)
  have HO : Hid ((((w.alloc (.cells #[.string g0, .string g1, .string g2, .string g3, .string g4, .string g5, .string g6] 43)).alloc (.cells #[.string (⟨#[103, 114, 111, 115, 115, 95, 97, 109, 111, 117, 110, 116]⟩), .string g0, .string (⟨#[102, 101, 101, 95, 114, 117, 108, 101]⟩), .string g1, .string (⟨#[110, 101, 116, 95, 97, 109, 111, 117, 110, 116]⟩), .string g2, .string (⟨#[102, 101, 101]⟩), .string g3, .string (⟨#[105, 110, 116, 101, 114, 101, 115, 116]⟩), .string g4, .string (⟨#[112, 97, 114]⟩), .string g5, .string (⟨#[115, 104, 97, 114, 101, 115]⟩), .string g6] 31))).ownsRow w.heap.size 31 2 (.slice (some ⟨w.heap.size + 1, 0, none⟩) 7 7) 7 [.string (⟨#[103, 114, 111, 115, 115, 95, 97, 109, 111, 117, 110, 116]⟩), .string g0, .string (⟨#[102, 101, 101, 95, 114, 117, 108, 101]⟩), .string g1, .string (⟨#[110, 101, 116, 95, 97, 109, 111, 117, 110, 116]⟩), .string g2, .string (⟨#[102, 101, 101]⟩), .string g3, .string (⟨#[105, 110, 116, 101, 114, 101, 115, 116]⟩), .string g4, .string (⟨#[112, 97, 114]⟩), .string g5, .string (⟨#[115, 104, 97, 114, 101, 115]⟩), .string g6]) := hown
  clear hown0 hown
  go_enter Try.func20, Try.ntmps20
  go_wp2
  go_ret
  exact ⟨w.heap.size + 1, 7, rfl, ⟨w.heap.size + 1, 7, rfl, by omega, by simp, HO.out⟩, ((Below.refl _ _).alloc (Nat.le_refl _) _).alloc (by simp) _⟩

theorem subVals {w : World} {b g cap base : Nat} {g0 g1 g2 g3 g4 g5 g6 : ByteArray} (hb : w.heap[b]? = some (.cells #[.string g0, .string g1, .string g2, .string g3, .string g4, .string g5, .string g6] 40))
    (hF : Figs base w (.slice (some ⟨g, 0, none⟩) 7 cap) (subRows g0 g1 g2 g3 g4 g5 g6)) (k : Nat) (hk : k < 7) : Twin w b k g (k * 2 + 1) := by
  refine ⟨_, (cell_of_row _ _ k _ 40 _ hb).trans (strs_at [g0, g1, g2, g3, g4, g5, g6] k hk), (Figs.atRow hF k hk).2.trans ?_⟩
  rcases (by omega : k = 0 ∨ k = 1 ∨ k = 2 ∨ k = 3 ∨ k = 4 ∨ k = 5 ∨ k = 6) with rfl | rfl | rfl | rfl | rfl | rfl | rfl <;> rfl

set_option maxRecDepth 100000 in
set_option maxHeartbeats 2000000 in
theorem walk6_y (f0 f1 f2 f3 f4 f5 f6 f7 g0 g1 g2 g3 g4 g5 g6 : ByteArray) (w : World) (ha : f6.toList.isEmpty = false) :
    Calls Try.prog 6 #[.agg #[.string f0, .string f1, .string f2, .string f3, .string f4, .string f5, .string f6, .string f7], .agg #[.string g0, .string g1, .string g2, .string g3, .string g4, .string g5, .string g6]] w fun e w' => e = .returned (.bool true) ∧ Below w.heap.size w w' := by
  go_enter Try.func6, Try.ntmps6
  go_wp2_with fail
  refine (bytes18 f0 f1 f2 f3 f4 f5 f6 f7 g0 g1 g2 g3 g4 g5 g6 _).mono ?_
  rintro e w1 ⟨⟨b, rfl⟩, hb1⟩
  have bx1 := (Boxes.mk0 w #[.string f0, .string f1, .string f2, .string f3, .string f4, .string f5, .string f6, .string f7] #[.string g0, .string g1, .string g2, .string g3, .string g4, .string g5, .string g6] 32 40).next hb1
  clear hb1
  cases b
  · go_wp2
    go_ret
    exact ⟨rfl, bx1.below⟩
  have H1 : Hid (∀ k : Nat, k < 8 → ∃ s, w1.cell? ⟨w.heap.size, k, none⟩ = some (.string s)) := fun k hk => ⟨_, (cell_of_row _ _ k _ 32 _ bx1.fst).trans (strs_at [f0, f1, f2, f3, f4, f5, f6, f7] k hk)⟩
  have H2 : Hid (∀ k : Nat, k < 7 → ∃ s, w1.cell? ⟨w.heap.size + 1, k, none⟩ = some (.string s)) := fun k hk => ⟨_, (cell_of_row _ _ k _ 40 _ bx1.snd).trans (strs_at [g0, g1, g2, g3, g4, g5, g6] k hk)⟩
  go_wp2
  go_loop [5, 6] (fun t i => ∃ (k : Nat) (n : Int), k ≤ 8 ∧ i = .int .i64 k ∧ t = .int .i64 n) (fun _ i => 8 - (intOf i).toNat)
  case atStart => exact ⟨0, 0, by omega, rfl, rfl⟩
  case round =>
    obtain ⟨k, n, hk, rfl, rfl⟩ := hrel
    by_cases hlt : k < 8
    · obtain ⟨s, hs⟩ := H1.out k hlt
      go_wp2
      · go_ret
        exact ⟨rfl, bx1.below⟩
      · go_ret
        exact ⟨rfl, bx1.below⟩
      · go_round
        case rel => exact ⟨k + 1, _, by omega, by go_num, rfl⟩
        case measure => simp [intOf]; omega
    · go_wp2
      go_loop [5, 7] (fun t i => ∃ (k : Nat) (n : Int), k ≤ 7 ∧ i = .int .i64 k ∧ t = .int .i64 n) (fun _ i => 7 - (intOf i).toNat)
      case atStart => exact ⟨0, n, by omega, rfl, rfl⟩
      case round =>
        obtain ⟨q, n, hq, rfl, rfl⟩ := hrel
        by_cases hqt : q < 7
        · obtain ⟨s, hs⟩ := H2.out q hqt
          go_wp2
          · go_ret
            exact ⟨rfl, bx1.below⟩
          · go_ret
            exact ⟨rfl, bx1.below⟩
          · go_round
            case rel => exact ⟨q + 1, _, by omega, by go_num, rfl⟩
            case measure => simp [intOf]; omega
        · clear H1 H2
          have hf1 := bx1.fst
          go_wp2_with (refine wpList_load_row rfl 32 _ rfl w.heap.size rfl 32 _ (0, 0) _ hf1 Try.underlying32 rfl (by kernel_rfl) ?_)
          refine (red13 f0 f1 f2 f3 f4 f5 f6 f7 _).mono ?_
          rintro e w2 ⟨rfl, hb2⟩
          have bx2 := bx1.next hb2
          clear hb2 hf1 bx1
          go_wp2_with fail
          refine (figs14b8 f0 f1 f2 f3 f4 f5 f6 f7 _ ha).mono ?_
          rintro e w3 ⟨ga, capa, rfl, hFa, hb3⟩
          have bx3 := bx2.next hb3
          clear hb3 bx2
          have hf3 := bx3.snd
          go_wp2_with (refine wpList_load_row rfl 40 _ rfl (w.heap.size + 1) rfl 40 _ (0, 0) _ hf3 Try.underlying40 rfl (by kernel_rfl) ?_)
          refine (subOf g0 g1 g2 g3 g4 g5 g6 _).mono ?_
          rintro e w4 ⟨rfl, hb4⟩
          have bx4 := bx3.next hb4
          have hFa4 := hFa.keep hb4
          clear hb4 hf3 bx3 hFa
          go_wp2_with fail
          refine (subFigs g0 g1 g2 g3 g4 g5 g6 _).mono ?_
          rintro e w5 ⟨gb, capb, rfl, hFb, hb5⟩
          have bx5 := bx4.next hb5
          have hFa := hFa4.keep hb5
          clear hb5 hFa4 bx4
          have c6 : w5.cell? ⟨w.heap.size, 6, none⟩ = some (.string f6) := cell_of_row _ _ 6 _ 32 _ bx5.fst
          go_wp2_with fail
          refine (sound11 _ (by show 8 < 1000; omega) (sound_red8 f0 f1 f2 f3 f4 f5 f6 f7) _ _ _ hFa).mono ?_
          rintro e w' ⟨rfl, hw'⟩
          obtain rfl : w5 = w' := hw'.symm
          go_wp2_with fail
          refine (sound11 _ (by show 7 < 1000; omega) (sound_sub g0 g1 g2 g3 g4 g5 g6) _ _ _ hFb).mono ?_
          rintro e w' ⟨rfl, hw'⟩
          obtain rfl : w5 = w' := hw'.symm
          go_wp2_with fail
          have HS : Hid (∀ k, k < 7 → Twin w5 (w.heap.size + 1) k gb (k * 2 + 1)) := subVals bx5.snd hFb
          have T0 : Hid (Twin w5 w.heap.size 0 ga 1) := ⟨_, cell_of_row _ _ 0 _ 32 _ bx5.fst, (Figs.atRow hFa 0 (by show 0 < 8; omega)).2⟩
          have T2 : Hid (Twin w5 w.heap.size 2 ga 5) := ⟨_, cell_of_row _ _ 2 _ 32 _ bx5.fst, (Figs.atRow hFa 2 (by show 2 < 8; omega)).2⟩
          have T3 : Hid (Twin w5 w.heap.size 3 ga 7) := ⟨_, cell_of_row _ _ 3 _ 32 _ bx5.fst, (Figs.atRow hFa 3 (by show 3 < 8; omega)).2⟩
          have T4 : Hid (Twin w5 w.heap.size 4 ga 9) := ⟨_, cell_of_row _ _ 4 _ 32 _ bx5.fst, (Figs.atRow hFa 4 (by show 4 < 8; omega)).2⟩
          have N0 : Hid (Twin w5 ga 0 gb 12) := ⟨_, (Figs.atRow hFa 0 (by show 0 < 8; omega)).1, (Figs.atRow hFb 6 (by show 6 < 7; omega)).1⟩
          have N2 : Hid (Twin w5 ga 4 gb 0) := ⟨_, (Figs.atRow hFa 2 (by show 2 < 8; omega)).1, (Figs.atRow hFb 0 (by show 0 < 7; omega)).1⟩
          have N3 : Hid (Twin w5 ga 6 gb 2) := ⟨_, (Figs.atRow hFa 3 (by show 3 < 8; omega)).1, (Figs.atRow hFb 1 (by show 1 < 7; omega)).1⟩
          have N4 : Hid (Twin w5 ga 8 gb 6) := ⟨_, (Figs.atRow hFa 4 (by show 4 < 8; omega)).1, (Figs.atRow hFb 3 (by show 3 < 7; omega)).1⟩
          clear hFa hFb c6
          go_loopw [11] (fun i wr => ∃ (k : Nat), k ≤ 7 ∧ i = .int .i64 k ∧ Drawn w5 wr) (fun i _ => 7 - (intOf i).toNat)
          case atStart => exact ⟨0, by omega, rfl, Drawn.refl _⟩
          case round =>
            obtain ⟨j, hj, rfl, hD⟩ := hrel
            by_cases hj7 : j < 7
            · obtain ⟨s, a1, a2⟩ := HS.out j hj7
              replace a1 := hD.cell a1
              replace a2 := hD.cell a2
              have i7 : (j : Int) < 7 := by omega
              have i0 : (0 : Int) ≤ (j : Int) := by omega
              clear HS T0 T2 T3 T4 N0 N2 N3 N4
              go_wp2_with fail
              go_quiet (fail)
              go_wp2_with fail
              go_roundw
              case rel => exact ⟨j + 1, by omega, by go_num, hD.next _⟩
              case measure => simp [intOf]; omega
            · obtain rfl : j = 7 := by omega
              obtain ⟨s0, x0, y0⟩ := T0.out
              replace x0 := hD.cell x0
              replace y0 := hD.cell y0
              obtain ⟨m0, u0, v0⟩ := N0.out
              replace u0 := hD.cell u0
              replace v0 := hD.cell v0
              obtain ⟨s2, x2, y2⟩ := T2.out
              replace x2 := hD.cell x2
              replace y2 := hD.cell y2
              obtain ⟨m2, u2, v2⟩ := N2.out
              replace u2 := hD.cell u2
              replace v2 := hD.cell v2
              obtain ⟨s3, x3, y3⟩ := T3.out
              replace x3 := hD.cell x3
              replace y3 := hD.cell y3
              obtain ⟨m3, u3, v3⟩ := N3.out
              replace u3 := hD.cell u3
              replace v3 := hD.cell v3
              obtain ⟨s4, x4, y4⟩ := T4.out
              replace x4 := hD.cell x4
              replace y4 := hD.cell y4
              obtain ⟨m4, u4, v4⟩ := N4.out
              replace u4 := hD.cell u4
              replace v4 := hD.cell v4
              clear HS T0 T2 T3 T4 N0 N2 N3 N4
              go_wp2_with fail
              go_quiet (fail)
              go_wp2_with fail
              go_quiet (fail)
              go_wp2_with fail
              go_ret
              exact ⟨rfl, bx5.below.trans (((hD.next _).next _).below _)⟩

set_option maxRecDepth 100000 in
set_option maxHeartbeats 2000000 in
theorem walk6_n (f0 f1 f2 f3 f4 f5 f7 g0 g1 g2 g3 g4 g5 g6 : ByteArray) (w : World) :
    Calls Try.prog 6 #[.agg #[.string f0, .string f1, .string f2, .string f3, .string f4, .string f5, .string ⟨#[]⟩, .string f7], .agg #[.string g0, .string g1, .string g2, .string g3, .string g4, .string g5, .string g6]] w fun e w' => e = .returned (.bool true) ∧ Below w.heap.size w w' := by
  go_enter Try.func6, Try.ntmps6
  go_wp2_with fail
  refine (bytes18 f0 f1 f2 f3 f4 f5 ⟨#[]⟩ f7 g0 g1 g2 g3 g4 g5 g6 _).mono ?_
  rintro e w1 ⟨⟨b, rfl⟩, hb1⟩
  have bx1 := (Boxes.mk0 w #[.string f0, .string f1, .string f2, .string f3, .string f4, .string f5, .string ⟨#[]⟩, .string f7] #[.string g0, .string g1, .string g2, .string g3, .string g4, .string g5, .string g6] 32 40).next hb1
  clear hb1
  cases b
  · go_wp2
    go_ret
    exact ⟨rfl, bx1.below⟩
  have H1 : Hid (∀ k : Nat, k < 8 → ∃ s, w1.cell? ⟨w.heap.size, k, none⟩ = some (.string s)) := fun k hk => ⟨_, (cell_of_row _ _ k _ 32 _ bx1.fst).trans (strs_at [f0, f1, f2, f3, f4, f5, ⟨#[]⟩, f7] k hk)⟩
  have H2 : Hid (∀ k : Nat, k < 7 → ∃ s, w1.cell? ⟨w.heap.size + 1, k, none⟩ = some (.string s)) := fun k hk => ⟨_, (cell_of_row _ _ k _ 40 _ bx1.snd).trans (strs_at [g0, g1, g2, g3, g4, g5, g6] k hk)⟩
  go_wp2
  go_loop [5, 6] (fun t i => ∃ (k : Nat) (n : Int), k ≤ 8 ∧ i = .int .i64 k ∧ t = .int .i64 n) (fun _ i => 8 - (intOf i).toNat)
  case atStart => exact ⟨0, 0, by omega, rfl, rfl⟩
  case round =>
    obtain ⟨k, n, hk, rfl, rfl⟩ := hrel
    by_cases hlt : k < 8
    · obtain ⟨s, hs⟩ := H1.out k hlt
      go_wp2
      · go_ret
        exact ⟨rfl, bx1.below⟩
      · go_ret
        exact ⟨rfl, bx1.below⟩
      · go_round
        case rel => exact ⟨k + 1, _, by omega, by go_num, rfl⟩
        case measure => simp [intOf]; omega
    · go_wp2
      go_loop [5, 7] (fun t i => ∃ (k : Nat) (n : Int), k ≤ 7 ∧ i = .int .i64 k ∧ t = .int .i64 n) (fun _ i => 7 - (intOf i).toNat)
      case atStart => exact ⟨0, n, by omega, rfl, rfl⟩
      case round =>
        obtain ⟨q, n, hq, rfl, rfl⟩ := hrel
        by_cases hqt : q < 7
        · obtain ⟨s, hs⟩ := H2.out q hqt
          go_wp2
          · go_ret
            exact ⟨rfl, bx1.below⟩
          · go_ret
            exact ⟨rfl, bx1.below⟩
          · go_round
            case rel => exact ⟨q + 1, _, by omega, by go_num, rfl⟩
            case measure => simp [intOf]; omega
        · clear H1 H2
          have hf1 := bx1.fst
          go_wp2_with (refine wpList_load_row rfl 32 _ rfl w.heap.size rfl 32 _ (0, 0) _ hf1 Try.underlying32 rfl (by kernel_rfl) ?_)
          refine (red13 f0 f1 f2 f3 f4 f5 ⟨#[]⟩ f7 _).mono ?_
          rintro e w2 ⟨rfl, hb2⟩
          have bx2 := bx1.next hb2
          clear hb2 hf1 bx1
          go_wp2_with fail
          refine (figs14a7 f0 f1 f2 f3 f4 f5 f7 _).mono ?_
          rintro e w3 ⟨ga, capa, rfl, hFa, hb3⟩
          have bx3 := bx2.next hb3
          clear hb3 bx2
          have hf3 := bx3.snd
          go_wp2_with (refine wpList_load_row rfl 40 _ rfl (w.heap.size + 1) rfl 40 _ (0, 0) _ hf3 Try.underlying40 rfl (by kernel_rfl) ?_)
          refine (subOf g0 g1 g2 g3 g4 g5 g6 _).mono ?_
          rintro e w4 ⟨rfl, hb4⟩
          have bx4 := bx3.next hb4
          have hFa4 := hFa.keep hb4
          clear hb4 hf3 bx3 hFa
          go_wp2_with fail
          refine (subFigs g0 g1 g2 g3 g4 g5 g6 _).mono ?_
          rintro e w5 ⟨gb, capb, rfl, hFb, hb5⟩
          have bx5 := bx4.next hb5
          have hFa := hFa4.keep hb5
          clear hb5 hFa4 bx4
          have c6 : w5.cell? ⟨w.heap.size, 6, none⟩ = some (.string ⟨#[]⟩) := cell_of_row _ _ 6 _ 32 _ bx5.fst
          go_wp2_with fail
          refine (sound11 _ (by show 7 < 1000; omega) (sound_red7 f0 f1 f2 f3 f4 f5 f7) _ _ _ hFa).mono ?_
          rintro e w' ⟨rfl, hw'⟩
          obtain rfl : w5 = w' := hw'.symm
          go_wp2_with fail
          refine (sound11 _ (by show 7 < 1000; omega) (sound_sub g0 g1 g2 g3 g4 g5 g6) _ _ _ hFb).mono ?_
          rintro e w' ⟨rfl, hw'⟩
          obtain rfl : w5 = w' := hw'.symm
          go_wp2_with fail
          have HS : Hid (∀ k, k < 7 → Twin w5 (w.heap.size + 1) k gb (k * 2 + 1)) := subVals bx5.snd hFb
          have T0 : Hid (Twin w5 w.heap.size 0 ga 1) := ⟨_, cell_of_row _ _ 0 _ 32 _ bx5.fst, (Figs.atRow hFa 0 (by show 0 < 7; omega)).2⟩
          have T2 : Hid (Twin w5 w.heap.size 2 ga 5) := ⟨_, cell_of_row _ _ 2 _ 32 _ bx5.fst, (Figs.atRow hFa 2 (by show 2 < 7; omega)).2⟩
          have T3 : Hid (Twin w5 w.heap.size 3 ga 7) := ⟨_, cell_of_row _ _ 3 _ 32 _ bx5.fst, (Figs.atRow hFa 3 (by show 3 < 7; omega)).2⟩
          have T4 : Hid (Twin w5 w.heap.size 4 ga 9) := ⟨_, cell_of_row _ _ 4 _ 32 _ bx5.fst, (Figs.atRow hFa 4 (by show 4 < 7; omega)).2⟩
          have N0 : Hid (Twin w5 ga 0 gb 12) := ⟨_, (Figs.atRow hFa 0 (by show 0 < 7; omega)).1, (Figs.atRow hFb 6 (by show 6 < 7; omega)).1⟩
          have N2 : Hid (Twin w5 ga 4 gb 0) := ⟨_, (Figs.atRow hFa 2 (by show 2 < 7; omega)).1, (Figs.atRow hFb 0 (by show 0 < 7; omega)).1⟩
          have N3 : Hid (Twin w5 ga 6 gb 2) := ⟨_, (Figs.atRow hFa 3 (by show 3 < 7; omega)).1, (Figs.atRow hFb 1 (by show 1 < 7; omega)).1⟩
          have N4 : Hid (Twin w5 ga 8 gb 6) := ⟨_, (Figs.atRow hFa 4 (by show 4 < 7; omega)).1, (Figs.atRow hFb 3 (by show 3 < 7; omega)).1⟩
          clear hFa hFb c6
          go_loopw [11] (fun i wr => ∃ (k : Nat), k ≤ 7 ∧ i = .int .i64 k ∧ Drawn w5 wr) (fun i _ => 7 - (intOf i).toNat)
          case atStart => exact ⟨0, by omega, rfl, Drawn.refl _⟩
          case round =>
            obtain ⟨j, hj, rfl, hD⟩ := hrel
            by_cases hj7 : j < 7
            · obtain ⟨s, a1, a2⟩ := HS.out j hj7
              replace a1 := hD.cell a1
              replace a2 := hD.cell a2
              have i7 : (j : Int) < 7 := by omega
              have i0 : (0 : Int) ≤ (j : Int) := by omega
              clear HS T0 T2 T3 T4 N0 N2 N3 N4
              go_wp2_with fail
              go_quiet (fail)
              go_wp2_with fail
              go_roundw
              case rel => exact ⟨j + 1, by omega, by go_num, hD.next _⟩
              case measure => simp [intOf]; omega
            · obtain rfl : j = 7 := by omega
              obtain ⟨s0, x0, y0⟩ := T0.out
              replace x0 := hD.cell x0
              replace y0 := hD.cell y0
              obtain ⟨m0, u0, v0⟩ := N0.out
              replace u0 := hD.cell u0
              replace v0 := hD.cell v0
              obtain ⟨s2, x2, y2⟩ := T2.out
              replace x2 := hD.cell x2
              replace y2 := hD.cell y2
              obtain ⟨m2, u2, v2⟩ := N2.out
              replace u2 := hD.cell u2
              replace v2 := hD.cell v2
              obtain ⟨s3, x3, y3⟩ := T3.out
              replace x3 := hD.cell x3
              replace y3 := hD.cell y3
              obtain ⟨m3, u3, v3⟩ := N3.out
              replace u3 := hD.cell u3
              replace v3 := hD.cell v3
              obtain ⟨s4, x4, y4⟩ := T4.out
              replace x4 := hD.cell x4
              replace y4 := hD.cell y4
              obtain ⟨m4, u4, v4⟩ := N4.out
              replace u4 := hD.cell u4
              replace v4 := hD.cell v4
              clear HS T0 T2 T3 T4 N0 N2 N3 N4
              go_wp2_with fail
              go_quiet (fail)
              go_wp2_with fail
              go_quiet (fail)
              go_wp2_with fail
              go_ret
              exact ⟨rfl, bx5.below.trans (((hD.next _).next _).below _)⟩
end Go.Proofs.Qxb6617248a.redSub
