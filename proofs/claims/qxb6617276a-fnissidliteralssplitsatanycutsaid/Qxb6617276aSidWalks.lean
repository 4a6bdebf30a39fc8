/-
  The contracts that both laws over isSIDLiterals go through: isSIDLiterals (15), ZZIsSIDLiterals (12), ZZValue (13).
-/
import Derived.Test.Qxb6617276aRows
import Derived.WalkKit
import Derived.WalkLawsBesides
import Derived.WalkSpells
import Derived.ProofKit
import Derived.Below
import Derived.RegionTactic
import Derived.ChangeAlike
import Derived.Deep.AppendLies
namespace Go.Proofs.Qxb6617276a.sid
open Go.RowKit

/-- Are the first m kinds all 7 (the kind of a SID)? -/
def allSid (f : Nat → Int) : Nat → Bool
  | 0 => true
  | m + 1 => allSid f m && (f m == 7)

theorem allSid_no (f : Nat → Int) (k : Nat) (hk : (f k == 7) = false) : ∀ m, k < m → allSid f m = false
  | 0, h => by omega
  | m + 1, h => by
    simp only [allSid]
    by_cases e : k = m
    · subst e; simp [hk]
    · simp [allSid_no f k hk m (by omega)]

theorem allSid_shift (f : Nat → Int) (c : Nat) : ∀ m, allSid f (c + m) = (allSid f c && allSid (fun i => f (c + i)) m)
  | 0 => by simp [allSid]
  | m + 1 => by
    show (allSid f (c + m) && (f (c + m) == 7)) = _
    rw [allSid_shift f c m]
    simp [allSid, Bool.and_assoc]

theorem allSid_congr {f g : Nat → Int} : ∀ {m : Nat}, (∀ i, i < m → f i = g i) → allSid f m = allSid g m
  | 0, _ => rfl
  | m + 1, h => by
    simp only [allSid]
    rw [allSid_congr (fun i hi => h i (by omega)), h m (by omega)]

/-! ### isSIDLiterals -/
theorem sid15_attr (p : Nat) (w : World) (h1 : w.cell? ⟨p, 1, none⟩ = some (.bool true)) :
    Calls Try.prog 15 #[.pointer (some ⟨p, 0, none⟩)] w fun e w' => e = .returned (.bool false) ∧ w' = w := by
  go_enter Try.func15, Try.ntmps15
  go_wp2
  go_ret
  exact ⟨rfl, rfl⟩

set_option maxHeartbeats 400000 in
theorem sid15_set (p g m c : Nat) (f : Nat → Int) (w : World) (hm : m ≤ 1048576) (h0 : w.cell? ⟨p, 0, none⟩ = some (.int .u8 2)) (h1 : w.cell? ⟨p, 1, none⟩ = some (.bool false))
    (h11 : w.cell? ⟨p, 11, none⟩ = some (.slice (some ⟨g, 0, none⟩) m c)) (hc : ∀ i, i < m → w.cell? ⟨g, i * 16, none⟩ = some (.int .u8 (f i))) :
    Calls Try.prog 15 #[.pointer (some ⟨p, 0, none⟩)] w fun e w' => e = .returned (.bool (allSid f m)) ∧ w' = w := by
  have HC : Hid (∀ i, i < m → w.cell? ⟨g, i * 16, none⟩ = some (.int .u8 (f i))) := hc
  clear hc
  go_enter Try.func15, Try.ntmps15
  go_wp2
  go_loop [10] (fun i => ∃ k : Nat, i = .int .i64 k ∧ k ≤ m ∧ Hid (allSid f k = true)) (fun i => m - (intOf i).toNat)
  case atStart => exact ⟨0, rfl, by omega, rfl⟩
  case round =>
    obtain ⟨k, rfl, hk, HA⟩ := hrel
    by_cases hlt : k < m
    · have ck := HC.out k hlt
      by_cases e : f k = 7
      · have HN : Hid (allSid f (k + 1) = true) := by
          show _ = _
          simp only [allSid]
          rw [HA.out, e]; rfl
        have e' : (f k != 7) = false := by simp [e]
        clear e HA
        go_wp2
        go_round
        case rel => exact ⟨k + 1, by go_num, by omega, HN⟩
        case measure => simp [intOf]; omega
      · have e' : (f k != 7) = true := by simp [e]
        have HF : Hid (allSid f m = false) := allSid_no f k (by simp [e]) m hlt
        clear e HA
        go_wp2
        go_ret
        exact ⟨by rw [HF.out]; rfl, rfl⟩
    · obtain rfl : k = m := by omega
      go_wp2
      go_ret
      exact ⟨by rw [HA.out]; rfl, rfl⟩

/-- The empty set: nil members. -/
theorem sid15_none (p : Nat) (w : World) (h0 : w.cell? ⟨p, 0, none⟩ = some (.int .u8 2)) (h1 : w.cell? ⟨p, 1, none⟩ = some (.bool false))
    (h11 : w.cell? ⟨p, 11, none⟩ = some (.slice none 0 0)) :
    Calls Try.prog 15 #[.pointer (some ⟨p, 0, none⟩)] w fun e w' => e = .returned (.bool true) ∧ w' = w := by
  go_enter Try.func15, Try.ntmps15
  go_wp2
  refine wp_loop_rounds 1 ?_
  rw [rounds_succ]
  go_wp2
  go_ret
  exact ⟨rfl, rfl⟩

/-- A lone value that is no set: the answer hangs on its own kind. -/
theorem sid15_lone (p : Nat) (k : Int) (w : World) (hk : (k == 2) = false) (h0 : w.cell? ⟨p, 0, none⟩ = some (.int .u8 k)) (h1 : w.cell? ⟨p, 1, none⟩ = some (.bool false)) :
    Calls Try.prog 15 #[.pointer (some ⟨p, 0, none⟩)] w fun e w' => e = .returned (.bool (k == 7)) ∧ w' = w := by
  by_cases e : k = 7
  · subst e
    go_enter Try.func15, Try.ntmps15
    go_wp2
    go_loop [10] (fun i => i = .int .i64 0 ∨ i = .int .i64 1) (fun i => 1 - (intOf i).toNat)
    case atStart => exact .inl rfl
    case round =>
      rcases hrel with rfl | rfl
      · go_wp2
        go_round
        case rel => exact .inr rfl
        case measure => simp [intOf]
      · go_wp2
        go_ret
        exact ⟨rfl, rfl⟩
  · have e1 : (k == 7) = false := by simp [e]
    have e2 : (k != 7) = true := by simp [e]
    clear e
    go_enter Try.func15, Try.ntmps15
    go_wp2
    go_loop [10] (fun i => i = .int .i64 0) (fun i => 1 - (intOf i).toNat)
    case atStart => rfl
    case round =>
      subst hrel
      go_wp2
      go_ret
      exact ⟨rfl, rfl⟩

/-! ### ZZIsSIDLiterals hands on -/
theorem sid12 (v : Value) (r : Value) (w : World) (h : Calls Try.prog 15 #[v] w fun e w' => e = .returned r ∧ w' = w) :
    Calls Try.prog 12 #[v] w fun e w' => e = .returned r ∧ w' = w := by
  have H15 : Hid (Calls Try.prog 15 #[v] w fun e w' => e = .returned r ∧ w' = w) := h
  clear h
  go_enter Try.func12, Try.ntmps12
  go_wp2_with fail
  refine H15.out.mono ?_
  rintro e w' ⟨rfl, hw⟩
  obtain rfl : w = w' := hw.symm
  go_wp2_with fail
  go_ret
  exact ⟨rfl, rfl⟩

/-! ### ZZValue -/

theorem Try.info47 : (Try.prog.info? 47).map (fun i => (i.zero, i.size, i.bytes)) = some (some (.agg #[.int .u8 0, .bool false, .bool false, .int .u8 0, .bool false, .int .u8 0, .int .u8 0, .bool false, .int .u64 0, .pointer none, .slice none 0 0, .slice none 0 0, .int .i64 0, .pointer none, .int .i32 0, .int .i32 0]), 16, 104) := by kernel_rfl

theorem val13_nil (k : Int) (b : Bool) (w : World) :
    Calls Try.prog 13 #[.int .u8 k, .bool b, .slice none 0 0] w fun e w' => e = .returned (.pointer (some ⟨w.heap.size, 0, none⟩)) ∧
      w'.cell? ⟨w.heap.size, 0, none⟩ = some (.int .u8 k) ∧ w'.cell? ⟨w.heap.size, 1, none⟩ = some (.bool b) ∧ w'.cell? ⟨w.heap.size, 11, none⟩ = some (.slice none 0 0) ∧ Below w.heap.size w w' := by
  have hnn := fun (w : World) => run_neq_slice_nil_any (P := Try.prog) w 27 5 none 0 0 0 0 Try.underlying27
  go_enter Try.func13, Try.ntmps13
  go_wp2
  go_ret
  exact ⟨rfl, by simp, by simp, by simp, (Below.refl _ _).alloc (Nat.le_refl _) _⟩

/-- The value in the making: k of its m members have their kinds. -/
structure Mid (w wr : World) (kind : Int) (b : Bool) (m k : Nat) (f : Nat → Int) : Prop where
  below : Below w.heap.size w wr
  c0 : wr.cell? ⟨w.heap.size, 0, none⟩ = some (.int .u8 kind)
  c1 : wr.cell? ⟨w.heap.size, 1, none⟩ = some (.bool b)
  c11 : wr.cell? ⟨w.heap.size, 11, none⟩ = some (.slice (some ⟨w.heap.size + 1, 0, none⟩) m m)
  own : ∃ xs, wr.ownsRow (w.heap.size + 1) 47 16 (.slice (some ⟨w.heap.size + 1, 0, none⟩) m m) m xs ∧ ∀ q, q < k → xs[q * 16]? = some (.int .u8 (f q))

theorem Mid.cell {w wr : World} {kind : Int} {b : Bool} {m k : Nat} {f : Nat → Int} (h : Mid w wr kind b m k f) (q : Nat) (hq : q < m) : ∃ v, wr.cell? ⟨w.heap.size + 1, q * 16, none⟩ = some v ∧ wr.frozen? ⟨w.heap.size + 1, q * 16, none⟩ = false := by
  obtain ⟨xs, ho, _⟩ := h.own
  have hl := ho.1
  refine ⟨xs[q * 16]'(by omega), ?_, ho.frozenAt _⟩
  rw [ho.cellAt _ (by omega), List.getElem?_eq_getElem]

theorem Mid.next {w wr : World} {kind : Int} {b : Bool} {m k : Nat} {f : Nat → Int} (h : Mid w wr kind b m k f) (hk : k < m) : Mid w (wr.setCell ⟨w.heap.size + 1, k * 16, none⟩ (.int .u8 (f k))) kind b m (k + 1) f := by
  obtain ⟨xs, ho, hx⟩ := h.own
  obtain ⟨ho', hg'⟩ := ho.stored (k * 16) (.int .u8 (f k))
  refine ⟨h.below.setCell (by simp) _, ?_, ?_, ?_, xs.set (k * 16) (.int .u8 (f k)), ho', ?_⟩
  · exact (World.cell?_setCell_other _ _ _ _ (by simp)).trans h.c0
  · exact (World.cell?_setCell_other _ _ _ _ (by simp)).trans h.c1
  · exact (World.cell?_setCell_other _ _ _ _ (by simp)).trans h.c11
  · intro q hq
    have hl := ho.1
    rw [List.getElem?_set]
    by_cases e : q = k
    · subst e
      simp
      omega
    · rw [if_neg (by omega)]
      exact hx q (by omega)

theorem Mid.drew {w wr : World} {kind : Int} {b : Bool} {m k : Nat} {f : Nat → Int} (h : Mid w wr kind b m k f) : Mid w wr.drew kind b m k f :=
  ⟨h.below.drew, h.c0, h.c1, h.c11, h.own⟩

def valObj (k : Int) (b : Bool) : Obj := .cells #[.int .u8 k, .bool b, .bool false, .int .u8 0, .bool false, .int .u8 0, .int .u8 0, .bool false, .int .u64 0, .pointer none, .slice none 0 0, .slice none 0 0, .int .i64 0, .pointer none, .int .i32 0, .int .i32 0] 47

theorem val_start {w w1 : World} {kind : Int} {b : Bool} {m : Nat} {xs : List Value} (f : Nat → Int) (ho : w1.ownsRow (w.heap.size + 1) 47 16 (.slice (some ⟨(w.alloc (valObj kind b)).heap.size, 0, none⟩) m m) m xs) (hg : (w.alloc (valObj kind b)).grownBy w1 none) :
    w1.cell? ⟨w.heap.size, 11, none⟩ = some (.slice none 0 0) ∧ w1.frozen? ⟨w.heap.size, 11, none⟩ = false ∧ Hid (Mid w (w1.setCell ⟨w.heap.size, 11, none⟩ (.slice (some ⟨w.heap.size + 1, 0, none⟩) m m)) kind b m 0 f) := by
  have hsz : (w.alloc (valObj kind b)).heap.size = w.heap.size + 1 := by simp
  rw [hsz] at ho
  have hcell : ∀ j, w1.cell? ⟨w.heap.size, j, none⟩ = (w.alloc (valObj kind b)).cell? ⟨w.heap.size, j, none⟩ := fun j => hg.cell_far ⟨w.heap.size, j, none⟩ (by simp) (by simp)
  have hfz : w1.frozen? ⟨w.heap.size, 11, none⟩ = false := by
    rw [hg.frozen_far ⟨w.heap.size, 11, none⟩ (by simp) (by simp)]
    simp [valObj]
  have c0 : w1.cell? ⟨w.heap.size, 0, none⟩ = some (.int .u8 kind) := by rw [hcell]; simp [valObj]
  have c1 : w1.cell? ⟨w.heap.size, 1, none⟩ = some (.bool b) := by rw [hcell]; simp [valObj]
  have c11 : w1.cell? ⟨w.heap.size, 11, none⟩ = some (.slice none 0 0) := by rw [hcell]; simp [valObj]
  have hb : Below w.heap.size w w1 := ((Below.refl _ _).alloc (Nat.le_refl _) _).grown hg (by simp) (by simp)
  refine ⟨c11, hfz, hb.setCell (Nat.le_refl _) _, ?_, ?_, ?_, xs, ownsRow_setCell_below ho (by simp) _, fun q hq => by omega⟩
  · exact (World.cell?_setCell_other _ _ _ _ (by simp)).trans c0
  · exact (World.cell?_setCell_other _ _ _ _ (by simp)).trans c1
  · exact World.cell?_setCell_same _ _ _ c11

set_option maxHeartbeats 1000000 in
theorem val13 (k : Int) (b : Bool) (g off m cap : Nat) (f : Nat → Int) (w : World) (hm : m ≤ 65536) (hc : ∀ i, i < m → w.cell? ⟨g, off + i, none⟩ = some (.int .u8 (f i))) :
    Calls Try.prog 13 #[.int .u8 k, .bool b, .slice (some ⟨g, off, none⟩) m cap] w fun e w' => e = .returned (.pointer (some ⟨w.heap.size, 0, none⟩)) ∧ Mid w w' k b m m f := by
  obtain ⟨i0, hi, hz0, hz1, hz2⟩ := info_parts Try.info47
  have hnn := fun (w : World) => run_neq_slice_nil_any (P := Try.prog) w 27 5 (some ⟨g, off, none⟩) m cap 0 0 Try.underlying27
  have HC : Hid (∀ i, i < m → w.cell? ⟨g, off + i, none⟩ = some (.int .u8 (f i))) := hc
  clear hc
  go_enter Try.func13, Try.ntmps13
  go_wp2_with (refine wpList_make_full _ rfl (.tmp 17) (.tmp 17) 44 rfl (w.heap.size + 1) 47 i0 _ 16 Try.underlying44 hi hz0 hz1 .i64 .i64 _ _ m rfl rfl rfl rfl (by rw [hz2]; omega) (by unfold maxLen; omega) (by simp) ?_; intro w1 hown1 hgrow1; obtain ⟨hc11, hfz, HM⟩ := val_start (kind := k) (b := b) f hown1 hgrow1; clear hown1 hgrow1)
  generalize w1.setCell ⟨w.heap.size, 11, none⟩ (.slice (some ⟨w.heap.size + 1, 0, none⟩) m m) = w2 at *
  go_loopw [8] (fun i wr => ∃ q : Nat, i = .int .i64 q ∧ q ≤ m ∧ Hid (Mid w wr k b m q f)) (fun i _ => m - (intOf i).toNat)
  case atStart => exact ⟨0, rfl, by omega, HM⟩
  case round =>
    obtain ⟨q, rfl, hq, HQ⟩ := hrel
    by_cases hlt : q < m
    · have c11 := HQ.out.c11
      have hgb : g < w.heap.size := block_lt_of_cell (HC.out q hlt)
      have cq : wr.cell? ⟨g, off + q, none⟩ = some (.int .u8 (f q)) := (HQ.out.below.cell (p := ⟨g, off + q, none⟩) hgb).trans (HC.out q hlt)
      obtain ⟨v0, cv, fv⟩ := HQ.out.cell q hlt
      have i0 : (0 : Int) ≤ (q : Int) := by omega
      have i1 : (q : Int) < (m : Int) := by omega
      go_wp2_with fail
      go_region
      go_wp2
      go_roundw
      case rel => exact ⟨q + 1, by go_num, by omega, (HQ.out.next hlt).drew⟩
      case measure => simp [intOf]; omega
    · obtain rfl : q = m := by omega
      go_wp2
      go_ret
      exact ⟨rfl, HQ.out⟩

theorem Mid.kinds {w wr : World} {kind : Int} {b : Bool} {m : Nat} {f : Nat → Int} (h : Mid w wr kind b m m f) (q : Nat) (hq : q < m) : wr.cell? ⟨w.heap.size + 1, q * 16, none⟩ = some (.int .u8 (f q)) := by
  obtain ⟨xs, ho, hx⟩ := h.own
  rw [ho.cellAt _ (by omega)]
  exact hx q hq

/-- The answer of isSIDLiterals on a value that ZZValue made. -/
theorem sid12_mid {w wr : World} {b : Bool} {m : Nat} {f : Nat → Int} (h : Mid w wr 2 b m m f) (hm : m ≤ 1048576) :
    Calls Try.prog 12 #[.pointer (some ⟨w.heap.size, 0, none⟩)] wr fun e w' => e = .returned (.bool (!b && allSid f m)) ∧ w' = wr := by
  cases b
  · exact sid12 _ _ _ (sid15_set w.heap.size (w.heap.size + 1) m m f wr hm h.c0 h.c1 h.c11 h.kinds)
  · exact sid12 _ _ _ (sid15_attr w.heap.size wr h.c1)
end Go.Proofs.Qxb6617276a.sid
