import Derived.Test.Qxb6617248aBoxes
namespace Go.Proofs.Qxb6617248a.swRed
open Go.RowKit

/-- Only draws lie between. -/
def Drawn (w w' : World) : Prop := ∃ n, w' = w.drewN n
theorem Drawn.refl (w : World) : Drawn w w := ⟨0, rfl⟩
theorem Drawn.next {w w' : World} (h : Drawn w w') (n : Nat) : Drawn w (w'.drewN n) := by
  obtain ⟨m, rfl⟩ := h
  exact ⟨m + n, by rw [World.drewN_drewN]⟩
theorem Drawn.cell {w w' : World} (h : Drawn w w') {a : Addr} {v : Option Value} (hc : w.cell? a = v) : w'.cell? a = v := by
  obtain ⟨m, rfl⟩ := h
  exact hc
theorem Drawn.below {w w' : World} (h : Drawn w w') (B : Nat) : Below B w w' := by
  obtain ⟨m, rfl⟩ := h
  exact ⟨rfl, rfl, rfl, Nat.le_refl _, fun _ _ => rfl⟩
/-- One string stands at two places. -/
def Twin (w : World) (b o b' o' : Nat) : Prop := ∃ s, w.cell? ⟨b, o, none⟩ = some (.string s) ∧ w.cell? ⟨b', o', none⟩ = some (.string s)

/-- The rows of the figures. -/
def swRows (f0 f1 f2 f3 f4 f5 f6 f7 f8 f9 f10 : ByteArray) : List (ByteArray × ByteArray) := [(⟨#[111, 117, 116, 95, 115, 104, 97, 114, 101, 115]⟩, f0), (⟨#[111, 117, 116, 95, 110, 97, 118]⟩, f1), (⟨#[111, 117, 116, 95, 97, 109, 111, 117, 110, 116]⟩, f2), (⟨#[114, 101, 100, 101, 109, 112, 116, 105, 111, 110, 95, 102, 101, 101]⟩, f3), (⟨#[114, 101, 100, 101, 109, 112, 116, 105, 111, 110, 95, 102, 101, 101, 95, 116, 111, 95, 102, 117, 110, 100]⟩, f4), (⟨#[105, 110, 95, 97, 109, 111, 117, 110, 116]⟩, f5), (⟨#[102, 101, 101, 95, 100, 105, 102, 102, 101, 114, 101, 110, 99, 101, 95, 114, 117, 108, 101]⟩, f6), (⟨#[102, 101, 101, 95, 100, 105, 102, 102, 101, 114, 101, 110, 99, 101]⟩, f7), (⟨#[110, 101, 116, 95, 105, 110, 95, 97, 109, 111, 117, 110, 116]⟩, f8), (⟨#[105, 110, 95, 110, 97, 118]⟩, f9), (⟨#[105, 110, 95, 115, 104, 97, 114, 101, 115]⟩, f10)]
theorem sound_sw (f0 f1 f2 f3 f4 f5 f6 f7 f8 f9 f10 : ByteArray) : Sound (swRows f0 f1 f2 f3 f4 f5 f6 f7 f8 f9 f10) := sound_of (by show soundB [_, _, _, _, _, _, _, _, _, _, _] = true; dsimp only; decide +kernel)

set_option maxHeartbeats 400000 in
theorem swOf (f0 f1 f2 f3 f4 f5 f6 f7 f8 f9 f10 : ByteArray) (w : World) :
    Calls Try.prog 9 #[.agg #[.string f0, .string f1, .string f2, .string f3, .string f4, .string f5, .string f6, .string f7, .string f8, .string f9, .string f10]] w fun e w' => e = .returned (.agg #[.string f0, .string f1, .string f2, .string f3, .string f4, .string f5, .string f6, .string f7, .string f8, .string f9, .string f10]) ∧ Below w.heap.size w w' := by
  go_enter Try.func9, Try.ntmps9
  go_wp2
  exact bodyPost_ret (v := .agg #[.string f0, .string f1, .string f2, .string f3, .string f4, .string f5, .string f6, .string f7, .string f8, .string f9, .string f10]) (by simp [results, Try.results9, go_sem]) rfl ⟨rfl, ((Below.refl _ _).alloc (Nat.le_refl _) _).alloc (by simp) _⟩

set_option maxHeartbeats 400000 in
theorem swFigs (f0 f1 f2 f3 f4 f5 f6 f7 f8 f9 f10 : ByteArray) (w : World) :
    Calls Try.prog 10 #[.agg #[.string f0, .string f1, .string f2, .string f3, .string f4, .string f5, .string f6, .string f7, .string f8, .string f9, .string f10]] w fun e w' => ∃ g cap, e = .returned (.slice (some ⟨g, 0, none⟩) 11 cap) ∧ Figs w.heap.size w' (.slice (some ⟨g, 0, none⟩) 11 cap) (swRows f0 f1 f2 f3 f4 f5 f6 f7 f8 f9 f10) ∧ Below w.heap.size w w' := by
  have hown0 : ∀ A : Obj, ((w.alloc A).alloc (.cells #[.string (⟨#[111, 117, 116, 95, 115, 104, 97, 114, 101, 115]⟩), .string f0, .string (⟨#[111, 117, 116, 95, 110, 97, 118]⟩), .string f1, .string (⟨#[111, 117, 116, 95, 97, 109, 111, 117, 110, 116]⟩), .string f2, .string (⟨#[114, 101, 100, 101, 109, 112, 116, 105, 111, 110, 95, 102, 101, 101]⟩), .string f3, .string (⟨#[114, 101, 100, 101, 109, 112, 116, 105, 111, 110, 95, 102, 101, 101, 95, 116, 111, 95, 102, 117, 110, 100]⟩), .string f4, .string (⟨#[105, 110, 95, 97, 109, 111, 117, 110, 116]⟩), .string f5, .string (⟨#[102, 101, 101, 95, 100, 105, 102, 102, 101, 114, 101, 110, 99, 101, 95, 114, 117, 108, 101]⟩), .string f6, .string (⟨#[102, 101, 101, 95, 100, 105, 102, 102, 101, 114, 101, 110, 99, 101]⟩), .string f7, .string (⟨#[110, 101, 116, 95, 105, 110, 95, 97, 109, 111, 117, 110, 116]⟩), .string f8, .string (⟨#[105, 110, 95, 110, 97, 118]⟩), .string f9, .string (⟨#[105, 110, 95, 115, 104, 97, 114, 101, 115]⟩), .string f10] 31)).ownsRow w.heap.size 31 2 (.slice (some ⟨w.heap.size + 1, 0, none⟩) 11 11) 11 [.string (⟨#[111, 117, 116, 95, 115, 104, 97, 114, 101, 115]⟩), .string f0, .string (⟨#[111, 117, 116, 95, 110, 97, 118]⟩), .string f1, .string (⟨#[111, 117, 116, 95, 97, 109, 111, 117, 110, 116]⟩), .string f2, .string (⟨#[114, 101, 100, 101, 109, 112, 116, 105, 111, 110, 95, 102, 101, 101]⟩), .string f3, .string (⟨#[114, 101, 100, 101, 109, 112, 116, 105, 111, 110, 95, 102, 101, 101, 95, 116, 111, 95, 102, 117, 110, 100]⟩), .string f4, .string (⟨#[105, 110, 95, 97, 109, 111, 117, 110, 116]⟩), .string f5, .string (⟨#[102, 101, 101, 95, 100, 105, 102, 102, 101, 114, 101, 110, 99, 101, 95, 114, 117, 108, 101]⟩), .string f6, .string (⟨#[102, 101, 101, 95, 100, 105, 102, 102, 101, 114, 101, 110, 99, 101]⟩), .string f7, .string (⟨#[110, 101, 116, 95, 105, 110, 95, 97, 109, 111, 117, 110, 116]⟩), .string f8, .string (⟨#[105, 110, 95, 110, 97, 118]⟩), .string f9, .string (⟨#[105, 110, 95, 115, 104, 97, 114, 101, 115]⟩), .string f10] := by
    intro A
    have := World.ownsRow_lit (base := w.heap.size) (e := 31) (size := 2) (w.alloc A) #[.string (⟨#[111, 117, 116, 95, 115, 104, 97, 114, 101, 115]⟩), .string f0, .string (⟨#[111, 117, 116, 95, 110, 97, 118]⟩), .string f1, .string (⟨#[111, 117, 116, 95, 97, 109, 111, 117, 110, 116]⟩), .string f2, .string (⟨#[114, 101, 100, 101, 109, 112, 116, 105, 111, 110, 95, 102, 101, 101]⟩), .string f3, .string (⟨#[114, 101, 100, 101, 109, 112, 116, 105, 111, 110, 95, 102, 101, 101, 95, 116, 111, 95, 102, 117, 110, 100]⟩), .string f4, .string (⟨#[105, 110, 95, 97, 109, 111, 117, 110, 116]⟩), .string f5, .string (⟨#[102, 101, 101, 95, 100, 105, 102, 102, 101, 114, 101, 110, 99, 101, 95, 114, 117, 108, 101]⟩), .string f6, .string (⟨#[102, 101, 101, 95, 100, 105, 102, 102, 101, 114, 101, 110, 99, 101]⟩), .string f7, .string (⟨#[110, 101, 116, 95, 105, 110, 95, 97, 109, 111, 117, 110, 116]⟩), .string f8, .string (⟨#[105, 110, 95, 110, 97, 118]⟩), .string f9, .string (⟨#[105, 110, 95, 115, 104, 97, 114, 101, 115]⟩), .string f10] 11 (by simp) (by decide) rfl
    simpa using this
  have hown := hown0 (.cells #[.string f0, .string f1, .string f2, .string f3, .string f4, .string f5, .string f6, .string f7, .string f8, .string f9, .string f10] 26)
  have HO : Hid ((((w.alloc (.cells #[.string f0, .string f1, .string f2, .string f3, .string f4, .string f5, .string f6, .string f7, .string f8, .string f9, .string f10] 26)).alloc (.cells #[.string (⟨#[111, 117, 116, 95, 115, 104, 97, 114, 101, 115]⟩), .string f0, .string (⟨#[111, 117, 116, 95, 110, 97, 118]⟩), .string f1, .string (⟨#[111, 117, 116, 95, 97, 109, 111, 117, 110, 116]⟩), .string f2, .string (⟨#[114, 101, 100, 101, 109, 112, 116, 105, 111, 110, 95, 102, 101, 101]⟩), .string f3, .string (⟨#[114, 101, 100, 101, 109, 112, 116, 105, 111, 110, 95, 102, 101, 101, 95, 116, 111, 95, 102, 117, 110, 100]⟩), .string f4, .string (⟨#[105, 110, 95, 97, 109, 111, 117, 110, 116]⟩), .string f5, .string (⟨#[102, 101, 101, 95, 100, 105, 102, 102, 101, 114, 101, 110, 99, 101, 95, 114, 117, 108, 101]⟩), .string f6, .string (⟨#[102, 101, 101, 95, 100, 105, 102, 102, 101, 114, 101, 110, 99, 101]⟩), .string f7, .string (⟨#[110, 101, 116, 95, 105, 110, 95, 97, 109, 111, 117, 110, 116]⟩), .string f8, .string (⟨#[105, 110, 95, 110, 97, 118]⟩), .string f9, .string (⟨#[105, 110, 95, 115, 104, 97, 114, 101, 115]⟩), .string f10] 31))).ownsRow w.heap.size 31 2 (.slice (some ⟨w.heap.size + 1, 0, none⟩) 11 11) 11 [.string (⟨#[111, 117, 116, 95, 115, 104, 97, 114, 101, 115]⟩), .string f0, .string (⟨#[111, 117, 116, 95, 110, 97, 118]⟩), .string f1, .string (⟨#[111, 117, 116, 95, 97, 109, 111, 117, 110, 116]⟩), .string f2, .string (⟨#[114, 101, 100, 101, 109, 112, 116, 105, 111, 110, 95, 102, 101, 101]⟩), .string f3, .string (⟨#[114, 101, 100, 101, 109, 112, 116, 105, 111, 110, 95, 102, 101, 101, 95, 116, 111, 95, 102, 117, 110, 100]⟩), .string f4, .string (⟨#[105, 110, 95, 97, 109, 111, 117, 110, 116]⟩), .string f5, .string (⟨#[102, 101, 101, 95, 100, 105, 102, 102, 101, 114, 101, 110, 99, 101, 95, 114, 117, 108, 101]⟩), .string f6, .string (⟨#[102, 101, 101, 95, 100, 105, 102, 102, 101, 114, 101, 110, 99, 101]⟩), .string f7, .string (⟨#[110, 101, 116, 95, 105, 110, 95, 97, 109, 111, 117, 110, 116]⟩), .string f8, .string (⟨#[105, 110, 95, 110, 97, 118]⟩), .string f9, .string (⟨#[105, 110, 95, 115, 104, 97, 114, 101, 115]⟩), .string f10]) := hown
  clear hown0 hown
  go_enter Try.func10, Try.ntmps10
  go_wp2
  go_ret
  exact ⟨w.heap.size + 1, 11, rfl, ⟨w.heap.size + 1, 11, rfl, by omega, by simp, HO.out⟩, ((Below.refl _ _).alloc (Nat.le_refl _) _).alloc (by simp) _⟩

theorem swVals {w : World} {b g cap base : Nat} {f0 f1 f2 f3 f4 f5 f6 f7 f8 f9 f10 : ByteArray} (hb : w.heap[b]? = some (.cells #[.string f0, .string f1, .string f2, .string f3, .string f4, .string f5, .string f6, .string f7, .string f8, .string f9, .string f10] 22))
    (hF : Figs base w (.slice (some ⟨g, 0, none⟩) 11 cap) (swRows f0 f1 f2 f3 f4 f5 f6 f7 f8 f9 f10)) (k : Nat) (hk : k < 11) : Twin w b k g (k * 2 + 1) := by
  refine ⟨_, (cell_of_row _ _ k _ 22 _ hb).trans (strs_at [f0, f1, f2, f3, f4, f5, f6, f7, f8, f9, f10] k hk), (Figs.atRow hF k hk).2.trans ?_⟩
  rcases (by omega : k = 0 ∨ k = 1 ∨ k = 2 ∨ k = 3 ∨ k = 4 ∨ k = 5 ∨ k = 6 ∨ k = 7 ∨ k = 8 ∨ k = 9 ∨ k = 10) with rfl | rfl | rfl | rfl | rfl | rfl | rfl | rfl | rfl | rfl | rfl <;> rfl

set_option maxHeartbeats 400000 in
theorem suf22 (s t : ByteArray) (w : World) (hs : s.size < 1000) (ht : t.size ≤ s.size) (he : ((s.extract (s.size - t.size) s.size).toList == t.toList) = true) :
    Calls Try.prog 22 #[.string s, .string t] w fun e w' => e = .returned (.bool true) ∧ w' = w := by
  go_enter Try.func22, Try.ntmps22
  go_wp2
  go_ret
  exact ⟨rfl, rfl⟩

/-- 'n' is '<side>_<m>', the side not empty. -/
def sufOk (n m : ByteArray) : Bool :=
  decide (m.size + 1 < n.size) && decide (n.size < 1000) && decide (((⟨#[95]⟩ : ByteArray) ++ m).size = m.size + 1) && ((n.extract (n.size - ((⟨#[95]⟩ : ByteArray) ++ m).size) n.size).toList == ((⟨#[95]⟩ : ByteArray) ++ m).toList)

set_option maxHeartbeats 400000 in
theorem pair15 (g1 n1 c1 g2 n2 c2 si ri : Nat) (zi zr : Int) (hzi : zi = si) (hzr : zr = ri) (v n m : ByteArray) (w : World) (hok : sufOk n m = true) (h1 : si < n1) (h2 : ri < n2)
    (hc1 : w.cell? ⟨g1, si * 2, none⟩ = some (.string n)) (hc2 : w.cell? ⟨g2, ri * 2, none⟩ = some (.string m)) (hc3 : w.cell? ⟨g2, ri * 2 + 1, none⟩ = some (.string v)) :
    Calls Try.prog 15 #[.slice (some ⟨g1, 0, none⟩) n1 c1, .int .i64 zi, .slice (some ⟨g2, 0, none⟩) n2 c2, .int .i64 zr, .string v] w fun e w' => e = .returned (.bool true) ∧ w' = w := by
  subst hzi hzr
  simp only [sufOk, Bool.and_eq_true, decide_eq_true_eq] at hok
  obtain ⟨⟨⟨hm, hn⟩, hsz⟩, he⟩ := hok
  have H22 : Hid (∀ w : World, Calls Try.prog 22 #[.string n, .string (⟨#[95]⟩ ++ m)] w fun e w' => e = .returned (.bool true) ∧ w' = w) := fun w => suf22 n _ w hn (by omega) he
  have hm' : (m.size : Int) + 1 < n.size := by omega
  clear he hsz
  go_enter Try.func15, Try.ntmps15
  go_wp2_with fail
  refine (H22.out _).mono ?_
  rintro e w' ⟨rfl, hw⟩
  obtain rfl : w = w' := hw.symm
  go_wp2_with fail
  go_ret
  exact ⟨rfl, rfl⟩

set_option maxRecDepth 100000 in
set_option maxHeartbeats 2000000 in
theorem walk4_y (f0 f1 f2 f3 f4 f5 f6 f7 f8 f9 f10 g0 g1 g2 g3 g4 g5 g6 g7 : ByteArray) (w : World) (hb : g6.toList.isEmpty = false) :
    Calls Try.prog 4 #[.agg #[.string f0, .string f1, .string f2, .string f3, .string f4, .string f5, .string f6, .string f7, .string f8, .string f9, .string f10], .agg #[.string g0, .string g1, .string g2, .string g3, .string g4, .string g5, .string g6, .string g7]] w fun e w' => e = .returned (.bool true) ∧ Below w.heap.size w w' := by
  go_enter Try.func4, Try.ntmps4
  go_wp2_with fail
  refine (bytes12 f0 f1 f2 f3 f4 f5 f6 f7 f8 f9 f10 g0 g1 g2 g3 g4 g5 g6 g7 _).mono ?_
  rintro e w1 ⟨⟨b, rfl⟩, hb1⟩
  have bx1 := (Boxes.mk0 w #[.string f0, .string f1, .string f2, .string f3, .string f4, .string f5, .string f6, .string f7, .string f8, .string f9, .string f10] #[.string g0, .string g1, .string g2, .string g3, .string g4, .string g5, .string g6, .string g7] 22 32).next hb1
  clear hb1
  cases b
  · go_wp2
    go_ret
    exact ⟨rfl, bx1.below⟩
  have H1 : Hid (∀ k : Nat, k < 11 → ∃ s, w1.cell? ⟨w.heap.size, k, none⟩ = some (.string s)) := fun k hk => ⟨_, (cell_of_row _ _ k _ 22 _ bx1.fst).trans (strs_at [f0, f1, f2, f3, f4, f5, f6, f7, f8, f9, f10] k hk)⟩
  have H2 : Hid (∀ k : Nat, k < 8 → ∃ s, w1.cell? ⟨w.heap.size + 1, k, none⟩ = some (.string s)) := fun k hk => ⟨_, (cell_of_row _ _ k _ 32 _ bx1.snd).trans (strs_at [g0, g1, g2, g3, g4, g5, g6, g7] k hk)⟩
  go_wp2
  go_loop [5, 6] (fun t i => ∃ (k : Nat) (n : Int), k ≤ 11 ∧ i = .int .i64 k ∧ t = .int .i64 n) (fun _ i => 11 - (intOf i).toNat)
  case atStart => exact ⟨0, 0, by omega, rfl, rfl⟩
  case round =>
    obtain ⟨k, n, hk, rfl, rfl⟩ := hrel
    by_cases hlt : k < 11
    · obtain ⟨s, hs⟩ := H1.out k hlt
      go_wp2
      · go_ret
        exact ⟨rfl, bx1.below⟩
      · go_ret
        exact ⟨rfl, bx1.below⟩
      · go_round
        case rel => exact ⟨k + 1, _, by omega, by go_num, rfl⟩
        case measure => simp [intOf]; omega
    · go_wp2
      go_loop [5, 7] (fun t i => ∃ (k : Nat) (n : Int), k ≤ 8 ∧ i = .int .i64 k ∧ t = .int .i64 n) (fun _ i => 8 - (intOf i).toNat)
      case atStart => exact ⟨0, n, by omega, rfl, rfl⟩
      case round =>
        obtain ⟨q, n, hq, rfl, rfl⟩ := hrel
        by_cases hqt : q < 8
        · obtain ⟨s, hs⟩ := H2.out q hqt
          go_wp2
          · go_ret
            exact ⟨rfl, bx1.below⟩
          · go_ret
            exact ⟨rfl, bx1.below⟩
          · go_round
            case rel => exact ⟨q + 1, _, by omega, by go_num, rfl⟩
            case measure => simp [intOf]; omega
        · clear H1 H2
          have hf1 := bx1.fst
          go_wp2_with (refine wpList_load_row rfl 22 _ rfl w.heap.size rfl 22 _ (0, 0) _ hf1 Try.underlying22 rfl (by kernel_rfl) ?_)
          refine (swOf f0 f1 f2 f3 f4 f5 f6 f7 f8 f9 f10 _).mono ?_
          rintro e w2 ⟨rfl, hb2⟩
          have bx2 := bx1.next hb2
          clear hb2 hf1 bx1
          go_wp2_with fail
          refine (swFigs f0 f1 f2 f3 f4 f5 f6 f7 f8 f9 f10 _).mono ?_
          rintro e w3 ⟨ga, capa, rfl, hFa, hb3⟩
          have bx3 := bx2.next hb3
          clear hb3 bx2
          have hf3 := bx3.snd
          go_wp2_with (refine wpList_load_row rfl 32 _ rfl (w.heap.size + 1) rfl 32 _ (0, 0) _ hf3 Try.underlying32 rfl (by kernel_rfl) ?_)
          refine (red13 g0 g1 g2 g3 g4 g5 g6 g7 _).mono ?_
          rintro e w4 ⟨rfl, hb4⟩
          have bx4 := bx3.next hb4
          have hFa4 := hFa.keep hb4
          clear hb4 hf3 bx3 hFa
          go_wp2_with fail
          refine (figs14b8 g0 g1 g2 g3 g4 g5 g6 g7 _ hb).mono ?_
          rintro e w5 ⟨gb, capb, rfl, hFb, hb5⟩
          have bx5 := bx4.next hb5
          have hFa := hFa4.keep hb5
          clear hb5 hFa4 bx4
          have d6 : w5.cell? ⟨w.heap.size + 1, 6, none⟩ = some (.string g6) := cell_of_row _ _ 6 _ 32 _ bx5.snd
          go_wp2_with fail
          refine (sound11 _ (by show 11 < 1000; omega) (sound_sw f0 f1 f2 f3 f4 f5 f6 f7 f8 f9 f10) _ _ _ hFa).mono ?_
          rintro e w' ⟨rfl, hw'⟩
          obtain rfl : w5 = w' := hw'.symm
          go_wp2_with fail
          refine (sound11 _ (by show 8 < 1000; omega) (sound_red8 g0 g1 g2 g3 g4 g5 g6 g7) _ _ _ hFb).mono ?_
          rintro e w' ⟨rfl, hw'⟩
          obtain rfl : w5 = w' := hw'.symm
          go_wp2_with fail
          have HS : Hid (∀ k, k < 11 → Twin w5 w.heap.size k ga (k * 2 + 1)) := swVals bx5.fst hFa
          clear d6
          go_loopw [11] (fun i wr => ∃ (k : Nat), k ≤ 11 ∧ i = .int .i64 k ∧ Drawn w5 wr) (fun i _ => 11 - (intOf i).toNat)
          case atStart => exact ⟨0, by omega, rfl, Drawn.refl _⟩
          case round =>
            obtain ⟨j, hj, rfl, hD⟩ := hrel
            by_cases hj7 : j < 11
            · obtain ⟨s, a1, a2⟩ := HS.out j hj7
              replace a1 := hD.cell a1
              replace a2 := hD.cell a2
              have i7 : (j : Int) < 11 := by omega
              have i0 : (0 : Int) ≤ (j : Int) := by omega
              clear HS hFa hFb
              go_wp2_with fail
              go_quiet (fail)
              go_wp2_with fail
              go_roundw
              case rel => exact ⟨j + 1, by omega, by go_num, hD.next _⟩
              case measure => simp [intOf]; omega
            · obtain rfl : j = 11 := by omega
              have r0 : wr.cell? ⟨w.heap.size + 1, 0, none⟩ = some (.string g0) := hD.cell (cell_of_row _ _ 0 _ 32 _ bx5.snd)
              have r1 : wr.cell? ⟨w.heap.size + 1, 1, none⟩ = some (.string g1) := hD.cell (cell_of_row _ _ 1 _ 32 _ bx5.snd)
              have r4 : wr.cell? ⟨w.heap.size + 1, 4, none⟩ = some (.string g4) := hD.cell (cell_of_row _ _ 4 _ 32 _ bx5.snd)
              have r5 : wr.cell? ⟨w.heap.size + 1, 5, none⟩ = some (.string g5) := hD.cell (cell_of_row _ _ 5 _ 32 _ bx5.snd)
              have P0 : Hid (Calls Try.prog 15 #[.slice (some ⟨ga, 0, none⟩) 11 capa, .int .i64 0, .slice (some ⟨gb, 0, none⟩) 8 capb, .int .i64 0, .string g0] wr fun e w' => e = .returned (.bool true) ∧ w' = wr) :=
                pair15 ga 11 capa gb 8 capb 0 0 0 0 rfl rfl _ ⟨#[111, 117, 116, 95, 115, 104, 97, 114, 101, 115]⟩ ⟨#[115, 104, 97, 114, 101, 115]⟩ wr (by decide +kernel) (by omega) (by omega) (hD.cell (Figs.atRow hFa 0 (by show 0 < 11; omega)).1) (hD.cell (Figs.atRow hFb 0 (by show 0 < 8; omega)).1) (hD.cell (Figs.atRow hFb 0 (by show 0 < 8; omega)).2)
              have P1 : Hid (Calls Try.prog 15 #[.slice (some ⟨ga, 0, none⟩) 11 capa, .int .i64 1, .slice (some ⟨gb, 0, none⟩) 8 capb, .int .i64 1, .string g1] wr fun e w' => e = .returned (.bool true) ∧ w' = wr) :=
                pair15 ga 11 capa gb 8 capb 1 1 1 1 rfl rfl _ ⟨#[111, 117, 116, 95, 110, 97, 118]⟩ ⟨#[110, 97, 118]⟩ wr (by decide +kernel) (by omega) (by omega) (hD.cell (Figs.atRow hFa 1 (by show 1 < 11; omega)).1) (hD.cell (Figs.atRow hFb 1 (by show 1 < 8; omega)).1) (hD.cell (Figs.atRow hFb 1 (by show 1 < 8; omega)).2)
              have P2 : Hid (Calls Try.prog 15 #[.slice (some ⟨ga, 0, none⟩) 11 capa, .int .i64 3, .slice (some ⟨gb, 0, none⟩) 8 capb, .int .i64 4, .string g4] wr fun e w' => e = .returned (.bool true) ∧ w' = wr) :=
                pair15 ga 11 capa gb 8 capb 3 4 3 4 rfl rfl _ ⟨#[114, 101, 100, 101, 109, 112, 116, 105, 111, 110, 95, 102, 101, 101]⟩ ⟨#[102, 101, 101]⟩ wr (by decide +kernel) (by omega) (by omega) (hD.cell (Figs.atRow hFa 3 (by show 3 < 11; omega)).1) (hD.cell (Figs.atRow hFb 4 (by show 4 < 8; omega)).1) (hD.cell (Figs.atRow hFb 4 (by show 4 < 8; omega)).2)
              have P3 : Hid (Calls Try.prog 15 #[.slice (some ⟨ga, 0, none⟩) 11 capa, .int .i64 4, .slice (some ⟨gb, 0, none⟩) 8 capb, .int .i64 5, .string g5] wr fun e w' => e = .returned (.bool true) ∧ w' = wr) :=
                pair15 ga 11 capa gb 8 capb 4 5 4 5 rfl rfl _ ⟨#[114, 101, 100, 101, 109, 112, 116, 105, 111, 110, 95, 102, 101, 101, 95, 116, 111, 95, 102, 117, 110, 100]⟩ ⟨#[102, 101, 101, 95, 116, 111, 95, 102, 117, 110, 100]⟩ wr (by decide +kernel) (by omega) (by omega) (hD.cell (Figs.atRow hFa 4 (by show 4 < 11; omega)).1) (hD.cell (Figs.atRow hFb 5 (by show 5 < 8; omega)).1) (hD.cell (Figs.atRow hFb 5 (by show 5 < 8; omega)).2)
              have P4 : Hid (Calls Try.prog 15 #[.slice (some ⟨ga, 0, none⟩) 11 capa, .int .i64 9, .slice (some ⟨gb, 0, none⟩) 8 capb, .int .i64 1, .string g1] wr fun e w' => e = .returned (.bool true) ∧ w' = wr) :=
                pair15 ga 11 capa gb 8 capb 9 1 9 1 rfl rfl _ ⟨#[105, 110, 95, 110, 97, 118]⟩ ⟨#[110, 97, 118]⟩ wr (by decide +kernel) (by omega) (by omega) (hD.cell (Figs.atRow hFa 9 (by show 9 < 11; omega)).1) (hD.cell (Figs.atRow hFb 1 (by show 1 < 8; omega)).1) (hD.cell (Figs.atRow hFb 1 (by show 1 < 8; omega)).2)
              have P5 : Hid (Calls Try.prog 15 #[.slice (some ⟨ga, 0, none⟩) 11 capa, .int .i64 10, .slice (some ⟨gb, 0, none⟩) 8 capb, .int .i64 0, .string g0] wr fun e w' => e = .returned (.bool true) ∧ w' = wr) :=
                pair15 ga 11 capa gb 8 capb 10 0 10 0 rfl rfl _ ⟨#[105, 110, 95, 115, 104, 97, 114, 101, 115]⟩ ⟨#[115, 104, 97, 114, 101, 115]⟩ wr (by decide +kernel) (by omega) (by omega) (hD.cell (Figs.atRow hFa 10 (by show 10 < 11; omega)).1) (hD.cell (Figs.atRow hFb 0 (by show 0 < 8; omega)).1) (hD.cell (Figs.atRow hFb 0 (by show 0 < 8; omega)).2)
              clear HS hFa hFb
              go_wp2_with fail
              refine P0.out.mono ?_
              rintro e w' ⟨rfl, hw'⟩
              obtain rfl : wr = w' := hw'.symm
              go_wp2_with fail
              refine P1.out.mono ?_
              rintro e w' ⟨rfl, hw'⟩
              obtain rfl : wr = w' := hw'.symm
              go_wp2_with fail
              refine P2.out.mono ?_
              rintro e w' ⟨rfl, hw'⟩
              obtain rfl : wr = w' := hw'.symm
              go_wp2_with fail
              refine P3.out.mono ?_
              rintro e w' ⟨rfl, hw'⟩
              obtain rfl : wr = w' := hw'.symm
              go_wp2_with fail
              refine P4.out.mono ?_
              rintro e w' ⟨rfl, hw'⟩
              obtain rfl : wr = w' := hw'.symm
              go_wp2_with fail
              refine P5.out.mono ?_
              rintro e w' ⟨rfl, hw'⟩
              obtain rfl : wr = w' := hw'.symm
              go_wp2_with fail
              go_ret
              exact ⟨rfl, bx5.below.trans (hD.below _)⟩

set_option maxRecDepth 100000 in
set_option maxHeartbeats 2000000 in
theorem walk4_n (f0 f1 f2 f3 f4 f5 f6 f7 f8 f9 f10 g0 g1 g2 g3 g4 g5 g7 : ByteArray) (w : World) :
    Calls Try.prog 4 #[.agg #[.string f0, .string f1, .string f2, .string f3, .string f4, .string f5, .string f6, .string f7, .string f8, .string f9, .string f10], .agg #[.string g0, .string g1, .string g2, .string g3, .string g4, .string g5, .string ⟨#[]⟩, .string g7]] w fun e w' => e = .returned (.bool true) ∧ Below w.heap.size w w' := by
  go_enter Try.func4, Try.ntmps4
  go_wp2_with fail
  refine (bytes12 f0 f1 f2 f3 f4 f5 f6 f7 f8 f9 f10 g0 g1 g2 g3 g4 g5 ⟨#[]⟩ g7 _).mono ?_
  rintro e w1 ⟨⟨b, rfl⟩, hb1⟩
  have bx1 := (Boxes.mk0 w #[.string f0, .string f1, .string f2, .string f3, .string f4, .string f5, .string f6, .string f7, .string f8, .string f9, .string f10] #[.string g0, .string g1, .string g2, .string g3, .string g4, .string g5, .string ⟨#[]⟩, .string g7] 22 32).next hb1
  clear hb1
  cases b
  · go_wp2
    go_ret
    exact ⟨rfl, bx1.below⟩
  have H1 : Hid (∀ k : Nat, k < 11 → ∃ s, w1.cell? ⟨w.heap.size, k, none⟩ = some (.string s)) := fun k hk => ⟨_, (cell_of_row _ _ k _ 22 _ bx1.fst).trans (strs_at [f0, f1, f2, f3, f4, f5, f6, f7, f8, f9, f10] k hk)⟩
  have H2 : Hid (∀ k : Nat, k < 8 → ∃ s, w1.cell? ⟨w.heap.size + 1, k, none⟩ = some (.string s)) := fun k hk => ⟨_, (cell_of_row _ _ k _ 32 _ bx1.snd).trans (strs_at [g0, g1, g2, g3, g4, g5, ⟨#[]⟩, g7] k hk)⟩
  go_wp2
  go_loop [5, 6] (fun t i => ∃ (k : Nat) (n : Int), k ≤ 11 ∧ i = .int .i64 k ∧ t = .int .i64 n) (fun _ i => 11 - (intOf i).toNat)
  case atStart => exact ⟨0, 0, by omega, rfl, rfl⟩
  case round =>
    obtain ⟨k, n, hk, rfl, rfl⟩ := hrel
    by_cases hlt : k < 11
    · obtain ⟨s, hs⟩ := H1.out k hlt
      go_wp2
      · go_ret
        exact ⟨rfl, bx1.below⟩
      · go_ret
        exact ⟨rfl, bx1.below⟩
      · go_round
        case rel => exact ⟨k + 1, _, by omega, by go_num, rfl⟩
        case measure => simp [intOf]; omega
    · go_wp2
      go_loop [5, 7] (fun t i => ∃ (k : Nat) (n : Int), k ≤ 8 ∧ i = .int .i64 k ∧ t = .int .i64 n) (fun _ i => 8 - (intOf i).toNat)
      case atStart => exact ⟨0, n, by omega, rfl, rfl⟩
      case round =>
        obtain ⟨q, n, hq, rfl, rfl⟩ := hrel
        by_cases hqt : q < 8
        · obtain ⟨s, hs⟩ := H2.out q hqt
          go_wp2
          · go_ret
            exact ⟨rfl, bx1.below⟩
          · go_ret
            exact ⟨rfl, bx1.below⟩
          · go_round
            case rel => exact ⟨q + 1, _, by omega, by go_num, rfl⟩
            case measure => simp [intOf]; omega
        · clear H1 H2
          have hf1 := bx1.fst
          go_wp2_with (refine wpList_load_row rfl 22 _ rfl w.heap.size rfl 22 _ (0, 0) _ hf1 Try.underlying22 rfl (by kernel_rfl) ?_)
          refine (swOf f0 f1 f2 f3 f4 f5 f6 f7 f8 f9 f10 _).mono ?_
          rintro e w2 ⟨rfl, hb2⟩
          have bx2 := bx1.next hb2
          clear hb2 hf1 bx1
          go_wp2_with fail
          refine (swFigs f0 f1 f2 f3 f4 f5 f6 f7 f8 f9 f10 _).mono ?_
          rintro e w3 ⟨ga, capa, rfl, hFa, hb3⟩
          have bx3 := bx2.next hb3
          clear hb3 bx2
          have hf3 := bx3.snd
          go_wp2_with (refine wpList_load_row rfl 32 _ rfl (w.heap.size + 1) rfl 32 _ (0, 0) _ hf3 Try.underlying32 rfl (by kernel_rfl) ?_)
          refine (red13 g0 g1 g2 g3 g4 g5 ⟨#[]⟩ g7 _).mono ?_
          rintro e w4 ⟨rfl, hb4⟩
          have bx4 := bx3.next hb4
          have hFa4 := hFa.keep hb4
          clear hb4 hf3 bx3 hFa
          go_wp2_with fail
          refine (figs14a7 g0 g1 g2 g3 g4 g5 g7 _).mono ?_
          rintro e w5 ⟨gb, capb, rfl, hFb, hb5⟩
          have bx5 := bx4.next hb5
          have hFa := hFa4.keep hb5
          clear hb5 hFa4 bx4
          have d6 : w5.cell? ⟨w.heap.size + 1, 6, none⟩ = some (.string ⟨#[]⟩) := cell_of_row _ _ 6 _ 32 _ bx5.snd
          go_wp2_with fail
          refine (sound11 _ (by show 11 < 1000; omega) (sound_sw f0 f1 f2 f3 f4 f5 f6 f7 f8 f9 f10) _ _ _ hFa).mono ?_
          rintro e w' ⟨rfl, hw'⟩
          obtain rfl : w5 = w' := hw'.symm
          go_wp2_with fail
          refine (sound11 _ (by show 7 < 1000; omega) (sound_red7 g0 g1 g2 g3 g4 g5 g7) _ _ _ hFb).mono ?_
          rintro e w' ⟨rfl, hw'⟩
          obtain rfl : w5 = w' := hw'.symm
          go_wp2_with fail
          have HS : Hid (∀ k, k < 11 → Twin w5 w.heap.size k ga (k * 2 + 1)) := swVals bx5.fst hFa
          clear d6
          go_loopw [11] (fun i wr => ∃ (k : Nat), k ≤ 11 ∧ i = .int .i64 k ∧ Drawn w5 wr) (fun i _ => 11 - (intOf i).toNat)
          case atStart => exact ⟨0, by omega, rfl, Drawn.refl _⟩
          case round =>
            obtain ⟨j, hj, rfl, hD⟩ := hrel
            by_cases hj7 : j < 11
            · obtain ⟨s, a1, a2⟩ := HS.out j hj7
              replace a1 := hD.cell a1
              replace a2 := hD.cell a2
              have i7 : (j : Int) < 11 := by omega
              have i0 : (0 : Int) ≤ (j : Int) := by omega
              clear HS hFa hFb
              go_wp2_with fail
              go_quiet (fail)
              go_wp2_with fail
              go_roundw
              case rel => exact ⟨j + 1, by omega, by go_num, hD.next _⟩
              case measure => simp [intOf]; omega
            · obtain rfl : j = 11 := by omega
              have r0 : wr.cell? ⟨w.heap.size + 1, 0, none⟩ = some (.string g0) := hD.cell (cell_of_row _ _ 0 _ 32 _ bx5.snd)
              have r1 : wr.cell? ⟨w.heap.size + 1, 1, none⟩ = some (.string g1) := hD.cell (cell_of_row _ _ 1 _ 32 _ bx5.snd)
              have r4 : wr.cell? ⟨w.heap.size + 1, 4, none⟩ = some (.string g4) := hD.cell (cell_of_row _ _ 4 _ 32 _ bx5.snd)
              have r5 : wr.cell? ⟨w.heap.size + 1, 5, none⟩ = some (.string g5) := hD.cell (cell_of_row _ _ 5 _ 32 _ bx5.snd)
              have P0 : Hid (Calls Try.prog 15 #[.slice (some ⟨ga, 0, none⟩) 11 capa, .int .i64 0, .slice (some ⟨gb, 0, none⟩) 7 capb, .int .i64 0, .string g0] wr fun e w' => e = .returned (.bool true) ∧ w' = wr) :=
                pair15 ga 11 capa gb 7 capb 0 0 0 0 rfl rfl _ ⟨#[111, 117, 116, 95, 115, 104, 97, 114, 101, 115]⟩ ⟨#[115, 104, 97, 114, 101, 115]⟩ wr (by decide +kernel) (by omega) (by omega) (hD.cell (Figs.atRow hFa 0 (by show 0 < 11; omega)).1) (hD.cell (Figs.atRow hFb 0 (by show 0 < 7; omega)).1) (hD.cell (Figs.atRow hFb 0 (by show 0 < 7; omega)).2)
              have P1 : Hid (Calls Try.prog 15 #[.slice (some ⟨ga, 0, none⟩) 11 capa, .int .i64 1, .slice (some ⟨gb, 0, none⟩) 7 capb, .int .i64 1, .string g1] wr fun e w' => e = .returned (.bool true) ∧ w' = wr) :=
                pair15 ga 11 capa gb 7 capb 1 1 1 1 rfl rfl _ ⟨#[111, 117, 116, 95, 110, 97, 118]⟩ ⟨#[110, 97, 118]⟩ wr (by decide +kernel) (by omega) (by omega) (hD.cell (Figs.atRow hFa 1 (by show 1 < 11; omega)).1) (hD.cell (Figs.atRow hFb 1 (by show 1 < 7; omega)).1) (hD.cell (Figs.atRow hFb 1 (by show 1 < 7; omega)).2)
              have P2 : Hid (Calls Try.prog 15 #[.slice (some ⟨ga, 0, none⟩) 11 capa, .int .i64 3, .slice (some ⟨gb, 0, none⟩) 7 capb, .int .i64 4, .string g4] wr fun e w' => e = .returned (.bool true) ∧ w' = wr) :=
                pair15 ga 11 capa gb 7 capb 3 4 3 4 rfl rfl _ ⟨#[114, 101, 100, 101, 109, 112, 116, 105, 111, 110, 95, 102, 101, 101]⟩ ⟨#[102, 101, 101]⟩ wr (by decide +kernel) (by omega) (by omega) (hD.cell (Figs.atRow hFa 3 (by show 3 < 11; omega)).1) (hD.cell (Figs.atRow hFb 4 (by show 4 < 7; omega)).1) (hD.cell (Figs.atRow hFb 4 (by show 4 < 7; omega)).2)
              have P3 : Hid (Calls Try.prog 15 #[.slice (some ⟨ga, 0, none⟩) 11 capa, .int .i64 4, .slice (some ⟨gb, 0, none⟩) 7 capb, .int .i64 5, .string g5] wr fun e w' => e = .returned (.bool true) ∧ w' = wr) :=
                pair15 ga 11 capa gb 7 capb 4 5 4 5 rfl rfl _ ⟨#[114, 101, 100, 101, 109, 112, 116, 105, 111, 110, 95, 102, 101, 101, 95, 116, 111, 95, 102, 117, 110, 100]⟩ ⟨#[102, 101, 101, 95, 116, 111, 95, 102, 117, 110, 100]⟩ wr (by decide +kernel) (by omega) (by omega) (hD.cell (Figs.atRow hFa 4 (by show 4 < 11; omega)).1) (hD.cell (Figs.atRow hFb 5 (by show 5 < 7; omega)).1) (hD.cell (Figs.atRow hFb 5 (by show 5 < 7; omega)).2)
              have P4 : Hid (Calls Try.prog 15 #[.slice (some ⟨ga, 0, none⟩) 11 capa, .int .i64 9, .slice (some ⟨gb, 0, none⟩) 7 capb, .int .i64 1, .string g1] wr fun e w' => e = .returned (.bool true) ∧ w' = wr) :=
                pair15 ga 11 capa gb 7 capb 9 1 9 1 rfl rfl _ ⟨#[105, 110, 95, 110, 97, 118]⟩ ⟨#[110, 97, 118]⟩ wr (by decide +kernel) (by omega) (by omega) (hD.cell (Figs.atRow hFa 9 (by show 9 < 11; omega)).1) (hD.cell (Figs.atRow hFb 1 (by show 1 < 7; omega)).1) (hD.cell (Figs.atRow hFb 1 (by show 1 < 7; omega)).2)
              have P5 : Hid (Calls Try.prog 15 #[.slice (some ⟨ga, 0, none⟩) 11 capa, .int .i64 10, .slice (some ⟨gb, 0, none⟩) 7 capb, .int .i64 0, .string g0] wr fun e w' => e = .returned (.bool true) ∧ w' = wr) :=
                pair15 ga 11 capa gb 7 capb 10 0 10 0 rfl rfl _ ⟨#[105, 110, 95, 115, 104, 97, 114, 101, 115]⟩ ⟨#[115, 104, 97, 114, 101, 115]⟩ wr (by decide +kernel) (by omega) (by omega) (hD.cell (Figs.atRow hFa 10 (by show 10 < 11; omega)).1) (hD.cell (Figs.atRow hFb 0 (by show 0 < 7; omega)).1) (hD.cell (Figs.atRow hFb 0 (by show 0 < 7; omega)).2)
              clear HS hFa hFb
              go_wp2_with fail
              refine P0.out.mono ?_
              rintro e w' ⟨rfl, hw'⟩
              obtain rfl : wr = w' := hw'.symm
              go_wp2_with fail
              refine P1.out.mono ?_
              rintro e w' ⟨rfl, hw'⟩
              obtain rfl : wr = w' := hw'.symm
              go_wp2_with fail
              refine P2.out.mono ?_
              rintro e w' ⟨rfl, hw'⟩
              obtain rfl : wr = w' := hw'.symm
              go_wp2_with fail
              refine P3.out.mono ?_
              rintro e w' ⟨rfl, hw'⟩
              obtain rfl : wr = w' := hw'.symm
              go_wp2_with fail
              refine P4.out.mono ?_
              rintro e w' ⟨rfl, hw'⟩
              obtain rfl : wr = w' := hw'.symm
              go_wp2_with fail
              refine P5.out.mono ?_
              rintro e w' ⟨rfl, hw'⟩
              obtain rfl : wr = w' := hw'.symm
              go_wp2_with fail
              go_ret
              exact ⟨rfl, bx5.below.trans (hD.below _)⟩
end Go.Proofs.Qxb6617248a.swRed
