import Derived.Test.Qxb6617276aRows
import Derived.Test.Qxb6617276aLeastLaw
import Derived.WalkKit
import Derived.WalkLawsBesides
import Derived.ProofKit
import Derived.Below
namespace Go.Proofs.Qxb6617276a.fnLeastTreeLeastIsMinOfRun
open Go.RowKit leastLaw

set_option maxHeartbeats 400000 in
theorem bytes7 (a : Option Addr) (len cap : Nat) (i j : Int) (w : World) (hl : len ≤ 9223372036854775807) :
    Calls Try.prog 7 #[.slice a len cap, .int .i64 i, .int .i64 j] w fun e w' => e = .returned (.bool (decide (len ≤ 1048576))) ∧ w' = w := by
  by_cases h : len ≤ 1048576
  · go_enter Try.func7, Try.ntmps7
    go_wp2
    go_ret
    exact ⟨by simp [h], rfl⟩
  · have h' : 1048576 < len := by omega
    go_enter Try.func7, Try.ntmps7
    go_wp2
    go_ret
    exact ⟨by simp [h], rfl⟩

set_option maxHeartbeats 400000 in
theorem least14 (g cap n : Nat) (z : Nat → Int) (i j : Nat) (w : World) (hn : n ≤ 65536) (hij : i < j) (hj : j ≤ n) (hwf : Wf z n)
    (hz : ∀ k, -2147483648 ≤ z k ∧ z k ≤ 2147483647) (hc : ∀ k, k < 2 * n → w.cell? ⟨g, k, none⟩ = some (.int .i32 (z k))) :
    Calls Try.prog 14 #[.slice (some ⟨g, 0, none⟩) (2 * n) cap, .int .i64 i, .int .i64 j] w fun e w' => e = .returned (.int .i64 (mnr z (n + i) (j - i - 1))) ∧ w' = w := by
  have HC : Hid (∀ k, k < 2 * n → w.cell? ⟨g, k, none⟩ = some (.int .i32 (z k))) := hc
  have HZ : Hid (∀ k, -2147483648 ≤ z k ∧ z k ≤ 2147483647) := hz
  have HW : Hid (Wf z n) := hwf
  clear hc hz hwf
  have c0 := HC.out (n + i) (by omega)
  have b0 := HZ.out (n + i)
  have HI : Hid (Inv z (mnr z (n + i) (j - i - 1)) (z (n + i)) (n + i) (n + i + (j - i - 1) + 1)) := inv_start z (n + i) (j - i - 1)
  generalize mnr z (n + i) (j - i - 1) = M at *
  go_enter Try.func14, Try.ntmps14
  go_wp2
  go_loop [1, 2, 8] (fun p q l => ∃ (a b : Nat) (x : Int), p = .int .i64 a ∧ q = .int .i64 b ∧ l = .int .i32 x ∧ 1 ≤ a ∧ a ≤ b ∧ b ≤ 2 * n ∧ -2147483648 ≤ x ∧ x ≤ 2147483647 ∧ Hid (Inv z M x a b)) (fun _ q _ => (intOf q).toNat)
  case atStart => exact ⟨n + i, j + n, _, by go_num, by go_num, rfl, by omega, by omega, by omega, b0.1, b0.2, by rw [show j + n = n + i + (j - i - 1) + 1 by omega]; exact HI⟩
  case round =>
    obtain ⟨a, b, x, rfl, rfl, rfl, h1, hab, hb, hx1, hx2, HV⟩ := hrel
    by_cases hlt : a < b
    · have ca := HC.out a (by omega)
      have za := HZ.out a
      have cb := HC.out (b - 1) (by omega)
      have zb := HZ.out (b - 1)
      rcases Nat.mod_two_eq_zero_or_one a with ea | ea
      · rcases Nat.mod_two_eq_zero_or_one b with eb | eb
        · have H2 : Hid (Inv z M x (a / 2) (b / 2)) := round_ee HW.out HV.out hlt h1 hb ea eb
          clear HV
          go_wp2
          go_round
          case rel => exact ⟨a / 2, b / 2, x, by go_num, by go_num, by go_num, by omega, by omega, by omega, by omega, by omega, H2⟩
          case measure => simp [intOf]; omega
        · have H2 : Hid (Inv z M (min x (z (b - 1))) (a / 2) ((b - 1) / 2)) := round_eo HW.out HV.out hlt h1 hb ea eb
          clear HV
          go_wp2
          go_round
          case rel => exact ⟨a / 2, (b - 1) / 2, (min x (z (b - 1))), by go_num, by go_num, by go_num, by omega, by omega, by omega, by omega, by omega, H2⟩
          case measure => simp [intOf]; omega
      · rcases Nat.mod_two_eq_zero_or_one b with eb | eb
        · have H2 : Hid (Inv z M (min x (z a)) ((a + 1) / 2) (b / 2)) := round_oe HW.out HV.out hlt h1 hb ea eb
          clear HV
          go_wp2
          go_round
          case rel => exact ⟨(a + 1) / 2, b / 2, (min x (z a)), by go_num, by go_num, by go_num, by omega, by omega, by omega, by omega, by omega, H2⟩
          case measure => simp [intOf]; omega
        · have H2 : Hid (Inv z M (min (min x (z a)) (z (b - 1))) ((a + 1) / 2) ((b - 1) / 2)) := round_oo HW.out HV.out hlt h1 hb ea eb
          clear HV
          go_wp2
          go_round
          case rel => exact ⟨(a + 1) / 2, (b - 1) / 2, (min (min x (z a)) (z (b - 1))), by go_num, by go_num, by go_num, by omega, by omega, by omega, by omega, by omega, H2⟩
          case measure => simp [intOf]; omega
    · have e := inv_end HV.out (by omega)
      go_wp2
      go_ret
      exact ⟨rfl, rfl⟩

/-- The answer of the premise: a bool; where it is true the tree is well formed. -/
def WfAns (z : Nat → Int) (n : Nat) (e : Ending) : Prop := ∃ b : Bool, e = .returned (.bool b) ∧ (b = true → Wf z n)

set_option maxHeartbeats 400000 in
theorem wf8 (g cap n : Nat) (z : Nat → Int) (w : World) (hn : n ≤ 65536) (h1n : 1 ≤ n)
    (hz : ∀ k, -2147483648 ≤ z k ∧ z k ≤ 2147483647) (hc : ∀ k, k < 2 * n → w.cell? ⟨g, k, none⟩ = some (.int .i32 (z k))) :
    Calls Try.prog 8 #[.slice (some ⟨g, 0, none⟩) (2 * n) cap] w fun e w' => WfAns z n e ∧ w' = w := by
  have HC : Hid (∀ k, k < 2 * n → w.cell? ⟨g, k, none⟩ = some (.int .i32 (z k))) := hc
  have HZ : Hid (∀ k, -2147483648 ≤ z k ∧ z k ≤ 2147483647) := hz
  clear hc hz
  go_enter Try.func8, Try.ntmps8
  go_wp2
  go_loop [4] (fun p => ∃ k : Nat, p = .int .i64 k ∧ 1 ≤ k ∧ k ≤ n ∧ Hid (∀ q, 1 ≤ q → q < k → z q = min (z (2 * q)) (z (2 * q + 1)))) (fun p => n - (intOf p).toNat)
  case atStart => exact ⟨1, rfl, by omega, by omega, fun q h1 h2 => by omega⟩
  case round =>
    obtain ⟨k, rfl, h1, hk, HQ⟩ := hrel
    by_cases hlt : k < n
    · have c0 := HC.out k (by omega)
      have c1 := HC.out (2 * k) (by omega)
      have c2 := HC.out (2 * k + 1) (by omega)
      have H3 : Hid (z k = min (z (2 * k)) (z (2 * k + 1)) → ∀ q, 1 ≤ q → q < k + 1 → z q = min (z (2 * q)) (z (2 * q + 1))) := by
        intro e q q1 q2
        by_cases h : q < k
        · exact HQ.out q q1 h
        · obtain rfl : q = k := by omega
          exact e
      clear HQ
      generalize z k = x at *
      generalize z (2 * k) = x1 at *
      generalize z (2 * k + 1) = x2 at *
      by_cases hm : x2 < x1
      · by_cases he : x = x2
        · have he' : (x != x2) = false := by simp [he]
          have HE : Hid (x = x2) := he
          clear he
          go_wp2
          go_round
          case rel => exact ⟨k + 1, by go_num, by omega, by omega, H3.out (by have := HE.out; omega)⟩
          case measure => simp [intOf]; omega
        · have he' : (x != x2) = true := by simp [he]
          go_wp2
          go_ret
          exact ⟨⟨false, rfl, by simp⟩, rfl⟩
      · by_cases he : x = x1
        · have he' : (x != x1) = false := by simp [he]
          have HE : Hid (x = x1) := he
          clear he
          go_wp2
          go_round
          case rel => exact ⟨k + 1, by go_num, by omega, by omega, H3.out (by have := HE.out; omega)⟩
          case measure => simp [intOf]; omega
        · have he' : (x != x1) = true := by simp [he]
          go_wp2
          go_ret
          exact ⟨⟨false, rfl, by simp⟩, rfl⟩
    · obtain rfl : k = n := by omega
      go_wp2
      go_ret
      exact ⟨⟨true, rfl, fun _ => HQ⟩, rfl⟩

set_option maxHeartbeats 400000 in
theorem least9 (g cap n : Nat) (z : Nat → Int) (i j : Nat) (w : World) (hn : n ≤ 65536) (hij : i < j) (hj : j ≤ n) (hwf : Wf z n)
    (hz : ∀ k, -2147483648 ≤ z k ∧ z k ≤ 2147483647) (hc : ∀ k, k < 2 * n → w.cell? ⟨g, k, none⟩ = some (.int .i32 (z k))) :
    Calls Try.prog 9 #[.slice (some ⟨g, 0, none⟩) (2 * n) cap, .int .i64 i, .int .i64 j] w fun e w' => e = .returned (.int .i64 (mnr z (n + i) (j - i - 1))) ∧ w' = w := by
  have H14 : Hid (∀ w', w' = w → Calls Try.prog 14 #[.slice (some ⟨g, 0, none⟩) (2 * n) cap, .int .i64 i, .int .i64 j] w' fun e w' => e = .returned (.int .i64 (mnr z (n + i) (j - i - 1))) ∧ w' = w) := by
    rintro w' rfl
    exact least14 g cap n z i j w' hn hij hj hwf hz hc
  generalize mnr z (n + i) (j - i - 1) = M at *
  clear hc hz hwf
  go_enter Try.func9, Try.ntmps9
  go_wp2_with fail
  refine (H14.out _ rfl).mono ?_
  rintro e w' ⟨rfl, hw⟩
  obtain rfl : w = w' := hw.symm
  go_wp2_with fail
  go_ret
  exact ⟨rfl, rfl⟩
end Go.Proofs.Qxb6617276a.fnLeastTreeLeastIsMinOfRun
