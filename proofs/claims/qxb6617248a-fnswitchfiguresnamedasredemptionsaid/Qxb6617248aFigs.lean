/-
  The contracts of the functions that all three laws of this seat go through: redemptionOfQB1 (13), Redemption.Figures (14), namesSoundQB1 (11), redPosQB1 (17).
-/
import Derived.Test.Qxb6617248aRows
import Derived.WalkKit
import Derived.WalkLawsBesides
import Derived.ProofKit
import Derived.Below
import Derived.Deep.AppendLies
import Derived.Deep.QuietTactic
import Derived.BigQuiet
namespace Go.Proofs.Qxb6617248a
open Go.RowKit

theorem Try.info31 : (Try.prog.info? 31).map (fun i => (i.zero, i.size, i.bytes)) = some (some (.agg #[.string ByteArray.empty, .string ByteArray.empty]), 2, 32) := by kernel_rfl

/-- The cells of a row of figures: name, value, name, value .. -/
def figVals : List (ByteArray × ByteArray) → List Value
  | [] => []
  | p :: r => .string p.1 :: .string p.2 :: figVals r

/-- 'v' is a slice of figures of the call's own (from block 'base' on) that holds the rows 'l'. -/
def Figs (base : Nat) (w : World) (v : Value) (l : List (ByteArray × ByteArray)) : Prop :=
  ∃ g cap, v = .slice (some ⟨g, 0, none⟩) l.length cap ∧ base ≤ g ∧ g < w.heap.size ∧ w.ownsRow base 31 2 (.slice (some ⟨g, 0, none⟩) l.length cap) l.length (figVals l)

/-- The rows of a redemption whose income is not given. -/
def red7 (f0 f1 f2 f3 f4 f5 f7 : ByteArray) : List (ByteArray × ByteArray) := [(⟨#[115, 104, 97, 114, 101, 115]⟩, f0), (⟨#[110, 97, 118]⟩, f1), (⟨#[103, 114, 111, 115, 115, 95, 97, 109, 111, 117, 110, 116]⟩, f2), (⟨#[102, 101, 101, 95, 114, 117, 108, 101]⟩, f3), (⟨#[102, 101, 101]⟩, f4), (⟨#[102, 101, 101, 95, 116, 111, 95, 102, 117, 110, 100]⟩, f5), (⟨#[97, 109, 111, 117, 110, 116]⟩, f7)]
/-- The rows of a redemption whose income is given. -/
def red8 (f0 f1 f2 f3 f4 f5 f6 f7 : ByteArray) : List (ByteArray × ByteArray) := [(⟨#[115, 104, 97, 114, 101, 115]⟩, f0), (⟨#[110, 97, 118]⟩, f1), (⟨#[103, 114, 111, 115, 115, 95, 97, 109, 111, 117, 110, 116]⟩, f2), (⟨#[102, 101, 101, 95, 114, 117, 108, 101]⟩, f3), (⟨#[102, 101, 101]⟩, f4), (⟨#[102, 101, 101, 95, 116, 111, 95, 102, 117, 110, 100]⟩, f5), (⟨#[105, 110, 99, 111, 109, 101]⟩, f6), (⟨#[97, 109, 111, 117, 110, 116]⟩, f7)]

set_option maxHeartbeats 400000 in
theorem red13 (f0 f1 f2 f3 f4 f5 f6 f7 : ByteArray) (w : World) :
    Calls Try.prog 13 #[.agg #[.string f0, .string f1, .string f2, .string f3, .string f4, .string f5, .string f6, .string f7]] w fun e w' => e = .returned (.agg #[.string f0, .string f1, .string f2, .string f3, .string f4, .string f5, .string f6, .string f7]) ∧ Below w.heap.size w w' := by
  go_enter Try.func13, Try.ntmps13
  go_wp2
  exact bodyPost_ret (v := .agg #[.string f0, .string f1, .string f2, .string f3, .string f4, .string f5, .string f6, .string f7]) (by simp [results, Try.results13, go_sem]) rfl ⟨rfl, ((Below.refl _ _).alloc (Nat.le_refl _) _).alloc (by simp) _⟩

theorem news2 (w : World) (a b : Value) (t : TypeId) (n : Nat) (hn : n = w.heap.size) : ∀ j u, [a, b][j]? = some u → (w.alloc (.cells #[a, b] t)).cell? ((⟨n, 0, none⟩ : Addr).add j) = some u := by
  subst hn
  exact World.news_of_block (cs := #[a, b]) (heap_alloc_new w _)
theorem strs_one (a b : ByteArray) : ∀ u ∈ [Value.string a, .string b], u.oneCell' = true := by
  intro u hu
  simp at hu
  rcases hu with rfl | rfl <;> rfl

theorem far_first {w w1 : World} {cs : Array Value} {t : TypeId} {o1 o2 : Obj} {row : Nat} (hg : (((w.alloc (.cells cs t)).alloc o1).alloc o2).grownBy w1 (some row)) (hr : row ≠ w.heap.size) (k : Nat) : w1.cell? ⟨w.heap.size, k, none⟩ = cs[k]? := by
  rw [hg.cell_far ⟨w.heap.size, k, none⟩ (by simp; omega) (by simpa using Ne.symm hr)]
  rw [World.cell?_alloc_past _ _ _ (by simp; omega), World.cell?_alloc_past _ _ _ (by simp)]
  simp
theorem far_size {w w1 : World} {o0 o1 o2 : Obj} {row : Option Nat} (hg : (((w.alloc o0).alloc o1).alloc o2).grownBy w1 row) : w.heap.size + 1 + 1 + 1 ≤ w1.heap.size := by
  have := hg.size
  simpa using this

set_option maxHeartbeats 400000 in
theorem figs14a (f0 f1 f2 f3 f4 f5 f7 : ByteArray) (w : World) :
    Calls Try.prog 14 #[.agg #[.string f0, .string f1, .string f2, .string f3, .string f4, .string f5, .string ⟨#[]⟩, .string f7]] w fun e w' => ∃ v, e = .returned v ∧ Figs w.heap.size w' v (red7 f0 f1 f2 f3 f4 f5 f7) ∧ Below w.heap.size w w' := by
  obtain ⟨i0, hi, hz0, hz1, hz2⟩ := info_parts Try.info31
  have hown0 : ∀ A : Obj, ((w.alloc A).alloc (.cells #[.string (⟨#[115, 104, 97, 114, 101, 115]⟩), .string f0, .string (⟨#[110, 97, 118]⟩), .string f1, .string (⟨#[103, 114, 111, 115, 115, 95, 97, 109, 111, 117, 110, 116]⟩), .string f2, .string (⟨#[102, 101, 101, 95, 114, 117, 108, 101]⟩), .string f3, .string (⟨#[102, 101, 101]⟩), .string f4, .string (⟨#[102, 101, 101, 95, 116, 111, 95, 102, 117, 110, 100]⟩), .string f5] 31)).ownsRow w.heap.size 31 2 (.slice (some ⟨w.heap.size + 1, 0, none⟩) 6 6) 6 [.string (⟨#[115, 104, 97, 114, 101, 115]⟩), .string f0, .string (⟨#[110, 97, 118]⟩), .string f1, .string (⟨#[103, 114, 111, 115, 115, 95, 97, 109, 111, 117, 110, 116]⟩), .string f2, .string (⟨#[102, 101, 101, 95, 114, 117, 108, 101]⟩), .string f3, .string (⟨#[102, 101, 101]⟩), .string f4, .string (⟨#[102, 101, 101, 95, 116, 111, 95, 102, 117, 110, 100]⟩), .string f5] := by
    intro A
    have := World.ownsRow_lit (base := w.heap.size) (e := 31) (size := 2) (w.alloc A) #[.string (⟨#[115, 104, 97, 114, 101, 115]⟩), .string f0, .string (⟨#[110, 97, 118]⟩), .string f1, .string (⟨#[103, 114, 111, 115, 115, 95, 97, 109, 111, 117, 110, 116]⟩), .string f2, .string (⟨#[102, 101, 101, 95, 114, 117, 108, 101]⟩), .string f3, .string (⟨#[102, 101, 101]⟩), .string f4, .string (⟨#[102, 101, 101, 95, 116, 111, 95, 102, 117, 110, 100]⟩), .string f5] 6 (by simp) (by decide) rfl
    simpa using this
  go_enter Try.func14, Try.ntmps14
  go_wp2_with (at_builtin; refine wpList_append_lies _ rfl (.tmp 32) (.tmp 36) 24 rfl w.heap.size 31 i0 _ 2 32 Try.underlying24 hi hz0 hz1 hz2 rfl (by omega) (.slice (some ⟨w.heap.size + 1, 0, none⟩) 6 6) 6 _ rfl ((hown0 _).alloc _) ⟨w.heap.size + 1 + 1, 0, none⟩ 1 1 [.string ⟨#[97, 109, 111, 117, 110, 116]⟩, .string f7] rfl rfl (news2 _ _ _ _ _ (by simp)) (strs_one _ _) (by omega) (by decide) (by decide) (by simp; omega) (w.heap.size + 1 + 1 + 1) (by simp) ?_; intro g cap w1 hown hgrow hat hlt)
  go_ret
  refine ⟨_, rfl, ⟨g, cap, rfl, ?_, hlt, hown⟩, ?_⟩
  · simp [Value.ownBlock] at hat; omega
  · exact ((((Below.refl _ _).alloc (Nat.le_refl _) _).alloc (by simp) _).alloc (by simp; omega) _).grown hgrow (by simp; omega) (by intro k hk; simp [Value.ownBlock] at hk; omega)

set_option maxHeartbeats 400000 in
theorem figs14b (f0 f1 f2 f3 f4 f5 f6 f7 : ByteArray) (w : World) (h6 : f6.toList.isEmpty = false) :
    Calls Try.prog 14 #[.agg #[.string f0, .string f1, .string f2, .string f3, .string f4, .string f5, .string f6, .string f7]] w fun e w' => ∃ v, e = .returned v ∧ Figs w.heap.size w' v (red8 f0 f1 f2 f3 f4 f5 f6 f7) ∧ Below w.heap.size w w' := by
  obtain ⟨i0, hi, hz0, hz1, hz2⟩ := info_parts Try.info31
  have hown0 : ∀ A : Obj, ((w.alloc A).alloc (.cells #[.string (⟨#[115, 104, 97, 114, 101, 115]⟩), .string f0, .string (⟨#[110, 97, 118]⟩), .string f1, .string (⟨#[103, 114, 111, 115, 115, 95, 97, 109, 111, 117, 110, 116]⟩), .string f2, .string (⟨#[102, 101, 101, 95, 114, 117, 108, 101]⟩), .string f3, .string (⟨#[102, 101, 101]⟩), .string f4, .string (⟨#[102, 101, 101, 95, 116, 111, 95, 102, 117, 110, 100]⟩), .string f5] 31)).ownsRow w.heap.size 31 2 (.slice (some ⟨w.heap.size + 1, 0, none⟩) 6 6) 6 [.string (⟨#[115, 104, 97, 114, 101, 115]⟩), .string f0, .string (⟨#[110, 97, 118]⟩), .string f1, .string (⟨#[103, 114, 111, 115, 115, 95, 97, 109, 111, 117, 110, 116]⟩), .string f2, .string (⟨#[102, 101, 101, 95, 114, 117, 108, 101]⟩), .string f3, .string (⟨#[102, 101, 101]⟩), .string f4, .string (⟨#[102, 101, 101, 95, 116, 111, 95, 102, 117, 110, 100]⟩), .string f5] := by
    intro A
    have := World.ownsRow_lit (base := w.heap.size) (e := 31) (size := 2) (w.alloc A) #[.string (⟨#[115, 104, 97, 114, 101, 115]⟩), .string f0, .string (⟨#[110, 97, 118]⟩), .string f1, .string (⟨#[103, 114, 111, 115, 115, 95, 97, 109, 111, 117, 110, 116]⟩), .string f2, .string (⟨#[102, 101, 101, 95, 114, 117, 108, 101]⟩), .string f3, .string (⟨#[102, 101, 101]⟩), .string f4, .string (⟨#[102, 101, 101, 95, 116, 111, 95, 102, 117, 110, 100]⟩), .string f5] 6 (by simp) (by decide) rfl
    simpa using this
  go_enter Try.func14, Try.ntmps14
  go_wp2_with (first | (at_builtin; refine wpList_append_lies _ rfl (.tmp 26) (.tmp 30) 24 rfl w.heap.size 31 i0 _ 2 32 Try.underlying24 hi hz0 hz1 hz2 rfl (by omega) (.slice (some ⟨w.heap.size + 1, 0, none⟩) 6 6) 6 _ rfl ((hown0 _).alloc _) ⟨w.heap.size + 1 + 1, 0, none⟩ 1 1 [.string ⟨#[105, 110, 99, 111, 109, 101]⟩, .string f6] rfl rfl (news2 _ _ _ _ _ (by simp)) (strs_one _ _) (by omega) (by decide) (by decide) (by simp; omega) (w.heap.size + 1 + 1 + 1) (by simp) ?_; intro g cap w1 hown hgrow hat hlt; have hc7 : w1.cell? ⟨w.heap.size, 7, none⟩ = some (.string f7) := far_first hgrow (Nat.succ_ne_self _) 7; have hsz : w.heap.size + 1 + 1 + 1 ≤ w1.heap.size := far_size hgrow) | (at_builtin; refine wpList_append_lies _ rfl (.tmp 32) (.tmp 36) 24 rfl w.heap.size 31 i0 _ 2 32 Try.underlying24 hi hz0 hz1 hz2 rfl (by omega) (.slice (some ⟨g, 0, none⟩) (6 + 1) cap) (6 + 1) _ rfl (hown.alloc _) ⟨w1.heap.size, 0, none⟩ 1 1 [.string ⟨#[97, 109, 111, 117, 110, 116]⟩, .string f7] rfl rfl (news2 _ _ _ _ _ (by simp)) (strs_one _ _) (by omega) (by decide) (by decide) (by simp; omega) (w1.heap.size + 1) (by simp) ?_; intro g2 cap2 w2 hown2 hgrow2 hat2 hlt2))
  go_ret
  refine ⟨_, rfl, ⟨g2, cap2, rfl, ?_, hlt2, hown2⟩, ?_⟩
  · simp [Value.ownBlock] at hat hat2; omega
  · have hb1 := ((((Below.refl _ _).alloc (Nat.le_refl _) _).alloc (by simp) _).alloc (by simp; omega) _).grown hgrow (by simp; omega) (by intro k hk; simp [Value.ownBlock] at hk; omega)
    exact (hb1.alloc (by omega) _).grown hgrow2 (by simp; omega) (by intro k hk; simp [Value.ownBlock] at hk hat; omega)

def nm (l : List (ByteArray × ByteArray)) (i : Nat) : ByteArray := (l.getD i (ByteArray.empty, ByteArray.empty)).1
def vl (l : List (ByteArray × ByteArray)) (i : Nat) : ByteArray := (l.getD i (ByteArray.empty, ByteArray.empty)).2

theorem figVals_nm (l : List (ByteArray × ByteArray)) (i : Nat) (h : i < l.length) : (figVals l)[i * 2]? = some (.string (nm l i)) ∧ (figVals l)[i * 2 + 1]? = some (.string (vl l i)) := by
  induction l generalizing i with
  | nil => simp at h
  | cons p r ih =>
    cases i with
    | zero => simp [figVals, nm, vl]
    | succ i =>
      have := ih i (by simpa using h)
      have e : (i + 1) * 2 = i * 2 + 1 + 1 := by omega
      rw [e]
      simpa [figVals, nm, vl] using this

theorem Figs.cells {base : Nat} {w : World} {g cap : Nat} {l : List (ByteArray × ByteArray)} (h : w.ownsRow base 31 2 (.slice (some ⟨g, 0, none⟩) l.length cap) l.length (figVals l)) (i : Nat) (hi : i < l.length) :
    w.cell? ⟨g, i * 2, none⟩ = some (.string (nm l i)) ∧ w.cell? ⟨g, i * 2 + 1, none⟩ = some (.string (vl l i)) := by
  have := figVals_nm l i hi
  exact ⟨(h.cellAt (i * 2) (by omega)).trans this.1, (h.cellAt (i * 2 + 1) (by omega)).trans this.2⟩

def okByte (b : UInt8) : Bool := !(b.toNat == 58) && !(b.toNat == 32) && !(b.toNat == 9) && !(b.toNat == 10) && !(b.toNat == 13)

structure Sound (l : List (ByteArray × ByteArray)) : Prop where
  size : ∀ i, i < l.length → 0 < (nm l i).size ∧ (nm l i).size < 1000
  byte : ∀ i, i < l.length → ∀ j (h : j < (nm l i).size), okByte ((nm l i)[j]) = true
  apart : ∀ i, i < l.length → ∀ j, j < i → ((nm l j).toList == (nm l i).toList) = false

theorem okByte_out {b : UInt8} (h : okByte b = true) : ((b.toNat : Int) == 58) = false ∧ ((b.toNat : Int) == 32) = false ∧ ((b.toNat : Int) == 9) = false ∧ ((b.toNat : Int) == 10) = false ∧ ((b.toNat : Int) == 13) = false := by
  simp only [okByte, Bool.and_eq_true, Bool.not_eq_true', beq_eq_false_iff_ne] at h
  simp only [beq_eq_false_iff_ne]
  omega

set_option maxHeartbeats 400000 in
theorem sound11 (l : List (ByteArray × ByteArray)) (hl : l.length < 1000) (hs : Sound l) (base : Nat) (w : World) (v : Value) (hF : Figs base w v l) :
    Calls Try.prog 11 #[v] w fun e w' => e = .returned (.bool true) ∧ w' = w := by
  obtain ⟨g, cap, rfl, hg, hlt, hown⟩ := hF
  have HC : Hid (∀ i, i < l.length → w.cell? ⟨g, i * 2, none⟩ = some (.string (nm l i))) := fun i hi => (Figs.cells hown i hi).1
  have HZ : Hid (∀ i, i < l.length → 0 < (nm l i).size ∧ (nm l i).size < 1000) := hs.size
  have HB : Hid (∀ i, i < l.length → ∀ j (h : j < (nm l i).size), okByte ((nm l i)[j]) = true) := hs.byte
  have HA : Hid (∀ i, i < l.length → ∀ j, j < i → ((nm l j).toList == (nm l i).toList) = false) := hs.apart
  clear hown hs
  generalize l.length = N at *
  go_enter Try.func11, Try.ntmps11
  go_wp2
  go_loop [3] (fun i => ∃ k : Nat, k ≤ N ∧ i = .int .i64 k) (fun i => N - (intOf i).toNat)
  case atStart => exact ⟨0, by omega, rfl⟩
  case round =>
    obtain ⟨k, hk, rfl⟩ := hrel
    by_cases hlt : k < N
    · have hc := HC.out k hlt
      have hz := HZ.out k hlt
      have HB1 : Hid (∀ j (h : j < (nm l k).size), okByte ((nm l k)[j]) = true) := HB.out k hlt
      have HA1 : Hid (∀ j, j < k → ((nm l j).toList == (nm l k).toList) = false) := HA.out k hlt
      clear HB HA HZ
      generalize nm l k = s at *
      obtain ⟨hz1, hz2⟩ := hz
      have hz0 : ((s.size : Int) == 0) = false := beq_eq_false_iff_ne.2 (by omega)
      go_wp2
      go_loop [5] (fun i => ∃ j : Nat, j ≤ s.size ∧ i = .int .i64 j) (fun i => s.size - (intOf i).toNat)
      case atStart => exact ⟨0, by omega, rfl⟩
      case round =>
        obtain ⟨j, hj, rfl⟩ := hrel
        by_cases hjs : j < s.size
        · obtain ⟨e1, e2, e3, e4, e5⟩ := okByte_out (HB1.out j hjs)
          go_wp2
          go_round
          case rel => exact ⟨j + 1, by omega, by go_num⟩
          case measure => simp [intOf]; omega
        · clear HB1
          go_wp2
          go_loop [7] (fun i => ∃ j : Nat, j ≤ k ∧ i = .int .i64 j) (fun i => k - (intOf i).toNat)
          case atStart => exact ⟨0, by omega, rfl⟩
          case round =>
            obtain ⟨q, hq, rfl⟩ := hrel
            by_cases hqk : q < k
            · have hqn : q < N := by omega
              have hcq := HC.out q hqn
              have hne := HA1.out q hqk
              generalize nm l q = s2 at *
              go_wp2
              go_round
              case rel => exact ⟨q + 1, by omega, by go_num⟩
              case measure => simp [intOf]; omega
            · go_wp2
              go_round
              case rel => exact ⟨k + 1, by omega, by go_num⟩
              case measure => simp [intOf]; omega
    · go_wp2
      go_ret
      exact ⟨rfl, rfl⟩

/-! ### Sound names, checked by reckoning -/
def soundB (ns : List ByteArray) : Bool :=
  (List.range ns.length).all fun i => decide (0 < (ns.getD i ByteArray.empty).size) && decide ((ns.getD i ByteArray.empty).size < 1000) && (ns.getD i ByteArray.empty).data.toList.all okByte &&
    (List.range i).all fun j => !((ns.getD j ByteArray.empty).toList == (ns.getD i ByteArray.empty).toList)

theorem nm_map (l : List (ByteArray × ByteArray)) (i : Nat) : nm l i = (l.map (·.1)).getD i ByteArray.empty := by
  unfold nm
  simp only [List.getD, List.getElem?_map]
  cases l[i]? <;> rfl

theorem sound_of {l : List (ByteArray × ByteArray)} (h : soundB (l.map (·.1)) = true) : Sound l := by
  unfold soundB at h
  rw [List.all_eq_true] at h
  have h' : ∀ i, i < l.length → 0 < (nm l i).size ∧ (nm l i).size < 1000 ∧ (∀ x ∈ (nm l i).data.toList, okByte x = true) ∧ ∀ j, j < i → ((nm l j).toList == (nm l i).toList) = false := by
    intro i hi
    have := h i (by simpa using hi)
    simp only [Bool.and_eq_true, decide_eq_true_eq, List.all_eq_true, Bool.not_eq_true', List.mem_range, ← nm_map] at this
    exact ⟨this.1.1.1, this.1.1.2, this.1.2, this.2⟩
  refine ⟨fun i hi => ⟨(h' i hi).1, (h' i hi).2.1⟩, fun i hi j hj => ?_, fun i hi => (h' i hi).2.2.2⟩
  refine (h' i hi).2.2.1 _ ?_
  exact Array.getElem_mem_toList _

theorem sound_red7 (f0 f1 f2 f3 f4 f5 f7 : ByteArray) : Sound (red7 f0 f1 f2 f3 f4 f5 f7) := sound_of (by show soundB [_, _, _, _, _, _, _] = true; dsimp only; decide +kernel)
theorem sound_red8 (f0 f1 f2 f3 f4 f5 f6 f7 : ByteArray) : Sound (red8 f0 f1 f2 f3 f4 f5 f6 f7) := sound_of (by show soundB [_, _, _, _, _, _, _, _] = true; dsimp only; decide +kernel)

theorem Figs.keep {base : Nat} {w w' : World} {v : Value} {l : List (ByteArray × ByteArray)} (h : Figs base w v l) (hb : Below w.heap.size w w') : Figs base w' v l := by
  obtain ⟨g, cap, rfl, hg, hlt, hown⟩ := h
  refine ⟨g, cap, rfl, hg, Nat.lt_of_lt_of_le hlt hb.size, hown.1, ?_⟩
  rcases hown.2 with h | ⟨g', cap', cur, e, h1, h2, h3⟩
  · exact .inl h
  · refine .inr ⟨g', cap', cur, e, h1, ?_, h3⟩
    have : g' = g := by simp at e; exact e.1.symm
    subst this
    rw [hb.block _ hlt]; exact h2

/-! ### redPosQB1 -/
theorem pos17_lt (j : Int) (b : Bool) (w : World) (h : j < 7) : Calls Try.prog 17 #[.int .i64 j, .bool b] w fun e w' => e = .returned (.int .i64 j) ∧ w' = w := by
  go_enter Try.func17, Try.ntmps17
  go_wp2
  go_ret
  exact ⟨rfl, rfl⟩
theorem pos17_7 (b : Bool) (w : World) : Calls Try.prog 17 #[.int .i64 7, .bool b] w fun e w' => e = .returned (.int .i64 (if b then 7 else 6)) ∧ w' = w := by
  cases b
  · go_enter Try.func17, Try.ntmps17
    go_wp2
    go_ret
    exact ⟨rfl, rfl⟩
  · go_enter Try.func17, Try.ntmps17
    go_wp2
    go_ret
    exact ⟨rfl, rfl⟩
end Go.Proofs.Qxb6617248a
