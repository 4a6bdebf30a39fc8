import Derived.Test.Qxb6617276aRows
import Derived.WalkKit
import Derived.ProofKit
import Derived.OpenShut
import Derived.ShutString
import Derived.ChangeOld
import Derived.Below
import Derived.Laws.CopyOwn
import Derived.WalkSpells
import Derived.Test.Qxb6617276aSidWalks
namespace Go.Proofs.Qxb6617276a.fnIsSIDLiteralsSplitsAtAnyCut
open Go.ChangeShapes Go.WideShapes Go.ChangeAt Go.RowKit Go.Proofs.Qxb6617276a.sid
open Go.ChangeMaps (open_string shut_string)
set_option linter.unusedVariables false

theorem own : ownKnob Try.prog.godebug = none := by kernel_rfl
theorem laidOut : laidOutB Try.prog = true := by kernel_rfl

/-- WHAT THE WALK IS TOLD OF A SLICE OF INTEGERS THAT CAME IN: it is nil; or it leads to a row of 'cap' cells, the numbers 'zs' (the first 'len' are its elements, the rest its spare room), each fitting its kind. -/
def IsRow (k : IntKind) (w : World) (a : Option Addr) (len cap : Nat) (zs : List Int) : Prop :=
  (a = none ∧ len = 0 ∧ cap = 0 ∧ zs = []) ∨
  ∃ x, a = some x ∧ len ≤ cap ∧ cap ≤ maxLen ∧ zs.length = cap ∧ (∀ i, i < zs.length → w.cell? (x.add i) = some (.int k (zs.getD i 0))) ∧ ∀ n ∈ zs, (Lit.int k n).wf = true

theorem Try.info5 : (Try.prog.info? 5).map (fun i => (i.zero, i.size, i.bytes)) = some (some (.int .u8 0), 1, 1) := by kernel_rfl

theorem made {w : World} {base e g n cap : Nat} {xs : List Value} (h : w.ownsRow base e 1 (.slice (some ⟨g, 0, none⟩) n cap) n xs) : ∃ cur : List Value, w.heap[g]? = some (.cells cur.toArray e (0, 0)) ∧ n ≤ cur.length := by
  rcases h.2 with ⟨h', _⟩ | ⟨g', cap', cur, h', _, hg, hnc, _, hcs, _⟩
  · simp at h'
  · simp only [Value.slice.injEq, Option.some.injEq, Addr.mk.injEq, and_true, true_and] at h'
    obtain ⟨rfl, rfl⟩ := h'
    exact ⟨cur.toList, by simpa using hg, by simp; omega⟩

theorem splice_get (cur cs : List Value) (k : Nat) (hk : k < cs.length) : (splice cur 0 cs)[k]? = cs[k]? := by
  simp [splice, List.getElem?_append, hk]

theorem ints_take (zs : List Int) (n k : Nat) (hk : k < n) (hn : n ≤ zs.length) : ((zs.take n).map (Value.int .u8))[k]? = some (.int .u8 (zs.getD k 0)) := by
  simp [hk, List.getElem?_eq_getElem (show k < zs.length by omega)]

set_option maxHeartbeats 400000 in
theorem bytes11 (b : Bool) (a : Option Addr) (len cap : Nat) (i : Int) (w : World) (hl : len ≤ 9223372036854775807) :
    Calls Try.prog 11 #[.bool b, .slice a len cap, .int .i64 i] w fun e w' => e = .returned (.bool (decide (len ≤ 1048576))) ∧ w' = w := by
  by_cases h : len ≤ 1048576
  · go_enter Try.func11, Try.ntmps11
    go_wp2
    go_ret
    exact ⟨by simp [h], rfl⟩
  · have h' : 1048576 < len := by omega
    go_enter Try.func11, Try.ntmps11
    go_wp2
    go_ret
    exact ⟨by simp [h], rfl⟩

/-- Too long, or a cut outside. -/
theorem walk_out (b : Bool) (a : Option Addr) (len cap : Nat) (a2 : Int) (w : World) (hl : len ≤ 9223372036854775807) (h : 65536 < len ∨ a2 < 0 ∨ (len : Int) < a2) :
    Calls Try.prog 5 #[.bool b, .slice a len cap, .int .i64 a2] w fun e w' => e = .returned (.bool true) ∧ w' = w := by
  by_cases h1 : len ≤ 1048576
  · by_cases h2 : 65536 < len
    · go_enter Try.func5, Try.ntmps5
      go_wp2_with fail
      refine (bytes11 _ _ _ _ _ _ hl).mono ?_
      rintro e w' ⟨rfl, hw⟩
      obtain rfl : w = w' := hw.symm
      go_wp2
      go_ret
      exact ⟨rfl, rfl⟩
    · by_cases h3 : a2 < 0
      · go_enter Try.func5, Try.ntmps5
        go_wp2_with fail
        refine (bytes11 _ _ _ _ _ _ hl).mono ?_
        rintro e w' ⟨rfl, hw⟩
        obtain rfl : w = w' := hw.symm
        go_wp2
        go_ret
        exact ⟨rfl, rfl⟩
      · have h4 : (len : Int) < a2 := by omega
        go_enter Try.func5, Try.ntmps5
        go_wp2_with fail
        refine (bytes11 _ _ _ _ _ _ hl).mono ?_
        rintro e w' ⟨rfl, hw⟩
        obtain rfl : w = w' := hw.symm
        go_wp2
        go_ret
        exact ⟨rfl, rfl⟩
  · go_enter Try.func5, Try.ntmps5
    go_wp2_with fail
    refine (bytes11 _ _ _ _ _ _ hl).mono ?_
    rintro e w' ⟨rfl, hw⟩
    obtain rfl : w = w' := hw.symm
    go_wp2
    go_ret
    exact ⟨rfl, rfl⟩

/-- What ZZIsSIDLiterals says of a value that ZZValue made of nil. -/
theorem sid12_nil {p : Nat} {wr : World} {b : Bool} (h0 : wr.cell? ⟨p, 0, none⟩ = some (.int .u8 2)) (h1 : wr.cell? ⟨p, 1, none⟩ = some (.bool b)) (h11 : wr.cell? ⟨p, 11, none⟩ = some (.slice none 0 0)) :
    Calls Try.prog 12 #[.pointer (some ⟨p, 0, none⟩)] wr fun e w' => e = .returned (.bool (!b)) ∧ w' = wr := by
  cases b
  · exact sid12 _ _ _ (sid15_none p wr h0 h1 h11)
  · exact sid12 _ _ _ (sid15_attr p wr h1)

set_option maxHeartbeats 1000000 in
theorem walk_nil_true (w : World) :
    Calls Try.prog 5 #[.bool true, .slice none 0 0, .int .i64 0] w fun e w' => e = .returned (.bool true) ∧ Below w.heap.size w w' := by
  have hnn := fun (w : World) => run_neq_slice_nil_any (P := Try.prog) w 27 5 none 0 0 0 0 Try.underlying27
  have HN : Hid (∀ (p : Nat) (wr : World), wr.cell? ⟨p, 0, none⟩ = some (.int .u8 2) → wr.cell? ⟨p, 1, none⟩ = some (.bool true) → wr.cell? ⟨p, 11, none⟩ = some (.slice none 0 0) → Calls Try.prog 12 #[.pointer (some ⟨p, 0, none⟩)] wr fun e w' => e = .returned (.bool false) ∧ w' = wr) :=
    fun p wr h0 h1 h11 => sid12_nil h0 h1 h11
  go_enter Try.func5, Try.ntmps5
  go_wp2_with fail
  refine (bytes11 _ _ _ _ _ _ (by omega)).mono ?_
  rintro e w' ⟨rfl, hw⟩
  obtain rfl : w = w' := hw.symm
  go_wp2_with fail
  go_loop [8, 9] (fun s i => s = .bool true ∧ i = .int .i64 0) (fun _ _ => 0)
  case atStart => exact ⟨rfl, rfl⟩
  case round =>
    obtain ⟨rfl, rfl⟩ := hrel
    go_wp2_with fail
    refine (val13_nil 2 true w).mono ?_
    rintro e w1 ⟨rfl, h0, h1, h11, hb1⟩
    go_wp2_with fail
    refine (HN.out w.heap.size w1 h0 h1 h11).mono ?_
    rintro e w' ⟨rfl, hw⟩
    obtain rfl : w1 = w' := hw.symm
    clear h0 h1 h11
    go_wp2_with fail
    refine (val13_nil 2 true w1).mono ?_
    rintro e w2 ⟨rfl, h0, h1, h11, hb2⟩
    go_wp2_with fail
    refine (HN.out w1.heap.size w2 h0 h1 h11).mono ?_
    rintro e w' ⟨rfl, hw⟩
    obtain rfl : w2 = w' := hw.symm
    clear h0 h1 h11
    go_wp2_with fail
    refine (val13_nil 2 true w2).mono ?_
    rintro e w3 ⟨rfl, h0, h1, h11, hb3⟩
    go_wp2_with fail
    refine (HN.out w2.heap.size w3 h0 h1 h11).mono ?_
    rintro e w' ⟨rfl, hw⟩
    obtain rfl : w3 = w' := hw.symm
    clear h0 h1 h11
    go_wp2_with fail
    go_ret
    exact ⟨rfl, (hb1.trans (hb2.mono hb1.size)).trans (hb3.mono (Nat.le_trans hb1.size hb2.size))⟩

set_option maxHeartbeats 1000000 in
theorem walk_nil_false (w : World) :
    Calls Try.prog 5 #[.bool false, .slice none 0 0, .int .i64 0] w fun e w' => e = .returned (.bool true) ∧ Below w.heap.size w w' := by
  have hnn := fun (w : World) => run_neq_slice_nil_any (P := Try.prog) w 27 5 none 0 0 0 0 Try.underlying27
  have HN : Hid (∀ (p : Nat) (wr : World), wr.cell? ⟨p, 0, none⟩ = some (.int .u8 2) → wr.cell? ⟨p, 1, none⟩ = some (.bool false) → wr.cell? ⟨p, 11, none⟩ = some (.slice none 0 0) → Calls Try.prog 12 #[.pointer (some ⟨p, 0, none⟩)] wr fun e w' => e = .returned (.bool true) ∧ w' = wr) :=
    fun p wr h0 h1 h11 => sid12_nil h0 h1 h11
  go_enter Try.func5, Try.ntmps5
  go_wp2_with fail
  refine (bytes11 _ _ _ _ _ _ (by omega)).mono ?_
  rintro e w' ⟨rfl, hw⟩
  obtain rfl : w = w' := hw.symm
  go_wp2_with fail
  go_loop [8, 9] (fun s i => s = .bool true ∧ i = .int .i64 0) (fun _ _ => 0)
  case atStart => exact ⟨rfl, rfl⟩
  case round =>
    obtain ⟨rfl, rfl⟩ := hrel
    go_wp2_with fail
    refine (val13_nil 2 false w).mono ?_
    rintro e w1 ⟨rfl, h0, h1, h11, hb1⟩
    go_wp2_with fail
    refine (HN.out w.heap.size w1 h0 h1 h11).mono ?_
    rintro e w' ⟨rfl, hw⟩
    obtain rfl : w1 = w' := hw.symm
    clear h0 h1 h11
    go_wp2_with fail
    refine (val13_nil 2 false w1).mono ?_
    rintro e w2 ⟨rfl, h0, h1, h11, hb2⟩
    go_wp2_with fail
    refine (HN.out w1.heap.size w2 h0 h1 h11).mono ?_
    rintro e w' ⟨rfl, hw⟩
    obtain rfl : w2 = w' := hw.symm
    clear h0 h1 h11
    go_wp2_with fail
    refine (val13_nil 2 false w2).mono ?_
    rintro e w3 ⟨rfl, h0, h1, h11, hb3⟩
    go_wp2_with fail
    refine (HN.out w2.heap.size w3 h0 h1 h11).mono ?_
    rintro e w' ⟨rfl, hw⟩
    obtain rfl : w3 = w' := hw.symm
    clear h0 h1 h11
    go_wp2_with fail
    go_ret
    exact ⟨rfl, (hb1.trans (hb2.mono hb1.size)).trans (hb3.mono (Nat.le_trans hb1.size hb2.size))⟩

set_option maxHeartbeats 2000000 in
theorem core_lt_ff (x : Addr) (n cap c : Nat) (zs : List Int) (w : World) (hn : n ≤ 65536) (hcn : c ≤ n) (hne : ¬ n = c) (hcap : n ≤ cap) (hzl : zs.length = cap)
    (hcell : ∀ i, i < zs.length → w.cell? (x.add i) = some (.int .u8 (zs.getD i 0)))
    (hS : allSid (fun k => zs.getD k 0) n = false) (hw : (!false && allSid (fun k => zs.getD k 0) n) = false) (hl : (!false && allSid (fun k => zs.getD k 0) c) = false) (hr : (!false && allSid (fun i => zs.getD (c + i) 0) (n - c)) = false) :
    Calls Try.prog 5 #[.bool false, .slice (some x) n cap, .int .i64 c] w fun e w' => e = .returned (.bool true) ∧ Below w.heap.size w w' := by
  obtain ⟨i0, hi, hz0, hz1, hz2⟩ := info_parts Try.info5
  have hnn := fun (w : World) => run_neq_slice_nil_any (P := Try.prog) w 27 5 (some x) n cap 0 0 Try.underlying27
  obtain ⟨cs, hcs⟩ : ∃ cs, cs = (zs.take n).map (Value.int .u8) := ⟨_, rfl⟩
  have hcl : cs.length = n := by rw [hcs]; simp; omega
  have hone : ∀ v ∈ cs, v.oneCell' = true := by rw [hcs]; exact ints_oneCell _ _
  obtain ⟨z, hzd⟩ : ∃ z : Nat → Int, z = fun k => zs.getD k 0 := ⟨_, rfl⟩
  have hzd2 : (fun i => zs.getD (c + i) 0) = fun i => z (c + i) := by rw [hzd]
  rw [hzd2] at hr
  rw [← hzd] at hS hw hl
  have HG : Hid (∀ k, k < n → cs[k]? = some (.int .u8 (z k))) := by
    intro k hk
    rw [hcs, hzd]
    exact ints_take zs n k hk (by omega)
  have HS : Hid (∀ w1 : World, Below w.heap.size w w1 → ∀ j v, cs[j]? = some v → w1.cell? (x.add j) = some v) := by
    intro w1 hb j v hj
    have hjl : j < cs.length := by
      rcases Nat.lt_or_ge j cs.length with h | h
      · exact h
      · rw [List.getElem?_eq_none h] at hj; cases hj
    have h1 := HG.out j (by omega)
    rw [h1] at hj
    have h2 := hcell j (by omega)
    have hlt : (x.add j).block < w.heap.size := block_lt_of_cell h2
    rw [hb.cell hlt, h2, ← hj, hzd]
  have HSS : Hid (allSid z n = false) := hS
  have HWh : Hid (∀ (p : Nat) (wa wr : World), p = wa.heap.size → Mid wa wr 2 false n n z → Calls Try.prog 12 #[.pointer (some ⟨p, 0, none⟩)] wr fun e w' => e = .returned (.bool false) ∧ w' = wr) := by
    rintro p wa wr rfl h
    have h2 := sid12_mid h (by omega)
    rwa [hw] at h2
  have HLf : Hid (∀ (p : Nat) (wa wr : World), p = wa.heap.size → Mid wa wr 2 false c c z → Calls Try.prog 12 #[.pointer (some ⟨p, 0, none⟩)] wr fun e w' => e = .returned (.bool false) ∧ w' = wr) := by
    rintro p wa wr rfl h
    have h2 := sid12_mid h (by omega)
    rwa [hl] at h2
  have HRt : Hid (∀ (p : Nat) (wa wr : World), p = wa.heap.size → Mid wa wr 2 false (n - c) (n - c) (fun i => z (c + i)) → Calls Try.prog 12 #[.pointer (some ⟨p, 0, none⟩)] wr fun e w' => e = .returned (.bool false) ∧ w' = wr) := by
    rintro p wa wr rfl h
    have h2 := sid12_mid h (by omega)
    rwa [hr] at h2
  clear hcs hcell hzd hzd2 hS hw hl hr
  have g1 : ¬ (c : Int) < 0 := by omega
  have g2 : ¬ (n : Int) < c := by omega
  go_enter Try.func5, Try.ntmps5
  go_wp2_with fail
  refine (bytes11 _ _ _ _ _ _ (by omega)).mono ?_
  rintro e w' ⟨rfl, hw⟩
  obtain rfl : w = w' := hw.symm
  have hd1 : decide (n ≤ 1048576) = true := by simp; omega
  go_wp2_with (first | (refine wpList_make_full _ rfl (.tmp 33) (.tmp 33) 27 rfl w.heap.size 5 i0 _ 1 Try.underlying27 hi hz0 hz1 .i64 .i64 _ _ n rfl rfl (by simp) (by simp) (by rw [hz2]; omega) (by unfold maxLen; omega) (Nat.le_refl _) ?_; intro w1 hown1 hgrow1; obtain ⟨cur, hcur, hlen⟩ := made hown1; have hb1 : Below w.heap.size w w1 := (Below.refl _ _).grown hgrow1 (Nat.le_refl _) (by simp); have hs1 := HS.out w1 hb1) | (refine wpList_copy_splice rfl (.tmp 35) (.tmp 36) 27 27 rfl 5 Try.underlying27 (by kernel_rfl) (some ⟨w.heap.size, 0, none⟩) (some x) n n n cap rfl rfl w.heap.size 0 cur 5 hcur cs (by rw [hcl]; simp) (fun _ => ⟨rfl, x, rfl, hs1⟩) (by omega) hone w.heap.size w hb1 (Nat.le_refl _) ?_; intro w2 H2 hb2))
  have HC : Hid (∀ k, k < n → w2.cell? ⟨w.heap.size, k, none⟩ = some (.int .u8 (z k))) := by
    intro k hk
    rw [cell_of_row _ _ k _ _ _ H2.out]
    have := splice_get cur cs k (by omega)
    simp only [List.getElem?_toArray, this]
    exact HG.out k hk
  have hsz2 : w.heap.size < w2.heap.size := by
    have := H2.out
    rcases Nat.lt_or_ge w.heap.size w2.heap.size with h | h
    · exact h
    · rw [Array.getElem?_eq_none h] at this; cases this
  clear H2 hs1 hb1 hcur hlen hgrow1 hown1 HS HG hone hcl
  go_loop [8, 9] (fun s i => ∃ (q : Nat) (a : Bool), s = .bool a ∧ i = .int .i64 q ∧ q ≤ n ∧ Hid (allSid z q = a)) (fun _ i => n - (intOf i).toNat)
  case atStart => exact ⟨0, true, rfl, rfl, by omega, rfl⟩
  case round =>
    obtain ⟨q, a, rfl, rfl, hq, HA⟩ := hrel
    by_cases hlt : q < n
    · have cq := HC.out q hlt
      by_cases e7 : z q = 7
      · have H3 : Hid (allSid z (q + 1) = a) := by
          show (allSid z q && (z q == 7)) = a
          rw [HA.out, e7]; simp
        have e' : (z q != 7) = false := by simp [e7]
        clear e7 HA
        go_wp2
        go_round
        case rel => exact ⟨q + 1, a, rfl, by go_num, by omega, H3⟩
        case measure => simp [intOf]; omega
      · have H3 : Hid (allSid z (q + 1) = false) := by
          show (allSid z q && (z q == 7)) = false
          simp [e7]
        have e' : (z q != 7) = true := by simp [e7]
        clear e7 HA
        go_wp2
        go_round
        case rel => exact ⟨q + 1, false, rfl, by go_num, by omega, H3⟩
        case measure => simp [intOf]; omega
    · obtain rfl : q = n := by omega
      obtain rfl : a = false := HA.out.symm.trans HSS.out
      clear HA
      go_wp2_with fail
      refine (val13 2 false w.heap.size 0 q q z w2 (by omega) (fun i hi => by rw [Nat.zero_add]; exact HC.out i hi)).mono ?_
      rintro e w3 ⟨rfl, hM3⟩
      have HC3 : Hid (∀ k, k < q → w3.cell? ⟨w.heap.size, k, none⟩ = some (.int .u8 (z k))) := fun k hk => (hM3.below.cell (p := ⟨w.heap.size, k, none⟩) hsz2).trans (HC.out k hk)
      have hb3 : Below w.heap.size w w3 := hb2.trans (hM3.below.mono (by omega))
      have hsz3 : w.heap.size < w3.heap.size := Nat.lt_of_lt_of_le hsz2 hM3.below.size
      go_wp2_with fail
      refine (HWh.out _ _ w3 rfl hM3).mono ?_
      rintro e w' ⟨rfl, hw⟩
      obtain rfl : w3 = w' := hw.symm
      clear HWh hM3 HC
      go_wp2_with fail
      refine (val13 2 false w.heap.size 0 c q z w3 (by omega) (fun i hi => by rw [Nat.zero_add]; exact HC3.out i (by omega))).mono ?_
      rintro e w4 ⟨rfl, hM4⟩
      have HC4 : Hid (∀ k, k < q → w4.cell? ⟨w.heap.size, k, none⟩ = some (.int .u8 (z k))) := fun k hk => (hM4.below.cell (p := ⟨w.heap.size, k, none⟩) hsz3).trans (HC3.out k hk)
      have hb4 : Below w.heap.size w w4 := hb3.trans (hM4.below.mono (by omega))
      have hsz4 : w.heap.size < w4.heap.size := Nat.lt_of_lt_of_le hsz3 hM4.below.size
      go_wp2_with fail
      refine (HLf.out _ _ w4 rfl hM4).mono ?_
      rintro e w' ⟨rfl, hw⟩
      obtain rfl : w4 = w' := hw.symm
      clear HLf hM4 HC3
      go_wp2_with fail
      refine (val13 2 false w.heap.size c (q - c) (q - c) (fun i => z (c + i)) w4 (by omega) (fun i hi => HC4.out (c + i) (by omega))).mono ?_
      rintro e w5 ⟨rfl, hM5⟩
      have hb5 : Below w.heap.size w w5 := hb4.trans (hM5.below.mono (by omega))
      go_wp2_with fail
      refine (HRt.out _ _ w5 rfl hM5).mono ?_
      rintro e w' ⟨rfl, hw⟩
      obtain rfl : w5 = w' := hw.symm
      clear HRt hM5 HC4
      go_wp2_with fail
      go_ret
      exact ⟨rfl, hb5⟩

set_option maxHeartbeats 2000000 in
theorem core_lt_ft (x : Addr) (n cap c : Nat) (zs : List Int) (w : World) (hn : n ≤ 65536) (hcn : c ≤ n) (hne : ¬ n = c) (hcap : n ≤ cap) (hzl : zs.length = cap)
    (hcell : ∀ i, i < zs.length → w.cell? (x.add i) = some (.int .u8 (zs.getD i 0)))
    (hS : allSid (fun k => zs.getD k 0) n = false) (hw : (!false && allSid (fun k => zs.getD k 0) n) = false) (hl : (!false && allSid (fun k => zs.getD k 0) c) = false) (hr : (!false && allSid (fun i => zs.getD (c + i) 0) (n - c)) = true) :
    Calls Try.prog 5 #[.bool false, .slice (some x) n cap, .int .i64 c] w fun e w' => e = .returned (.bool true) ∧ Below w.heap.size w w' := by
  obtain ⟨i0, hi, hz0, hz1, hz2⟩ := info_parts Try.info5
  have hnn := fun (w : World) => run_neq_slice_nil_any (P := Try.prog) w 27 5 (some x) n cap 0 0 Try.underlying27
  obtain ⟨cs, hcs⟩ : ∃ cs, cs = (zs.take n).map (Value.int .u8) := ⟨_, rfl⟩
  have hcl : cs.length = n := by rw [hcs]; simp; omega
  have hone : ∀ v ∈ cs, v.oneCell' = true := by rw [hcs]; exact ints_oneCell _ _
  obtain ⟨z, hzd⟩ : ∃ z : Nat → Int, z = fun k => zs.getD k 0 := ⟨_, rfl⟩
  have hzd2 : (fun i => zs.getD (c + i) 0) = fun i => z (c + i) := by rw [hzd]
  rw [hzd2] at hr
  rw [← hzd] at hS hw hl
  have HG : Hid (∀ k, k < n → cs[k]? = some (.int .u8 (z k))) := by
    intro k hk
    rw [hcs, hzd]
    exact ints_take zs n k hk (by omega)
  have HS : Hid (∀ w1 : World, Below w.heap.size w w1 → ∀ j v, cs[j]? = some v → w1.cell? (x.add j) = some v) := by
    intro w1 hb j v hj
    have hjl : j < cs.length := by
      rcases Nat.lt_or_ge j cs.length with h | h
      · exact h
      · rw [List.getElem?_eq_none h] at hj; cases hj
    have h1 := HG.out j (by omega)
    rw [h1] at hj
    have h2 := hcell j (by omega)
    have hlt : (x.add j).block < w.heap.size := block_lt_of_cell h2
    rw [hb.cell hlt, h2, ← hj, hzd]
  have HSS : Hid (allSid z n = false) := hS
  have HWh : Hid (∀ (p : Nat) (wa wr : World), p = wa.heap.size → Mid wa wr 2 false n n z → Calls Try.prog 12 #[.pointer (some ⟨p, 0, none⟩)] wr fun e w' => e = .returned (.bool false) ∧ w' = wr) := by
    rintro p wa wr rfl h
    have h2 := sid12_mid h (by omega)
    rwa [hw] at h2
  have HLf : Hid (∀ (p : Nat) (wa wr : World), p = wa.heap.size → Mid wa wr 2 false c c z → Calls Try.prog 12 #[.pointer (some ⟨p, 0, none⟩)] wr fun e w' => e = .returned (.bool false) ∧ w' = wr) := by
    rintro p wa wr rfl h
    have h2 := sid12_mid h (by omega)
    rwa [hl] at h2
  have HRt : Hid (∀ (p : Nat) (wa wr : World), p = wa.heap.size → Mid wa wr 2 false (n - c) (n - c) (fun i => z (c + i)) → Calls Try.prog 12 #[.pointer (some ⟨p, 0, none⟩)] wr fun e w' => e = .returned (.bool true) ∧ w' = wr) := by
    rintro p wa wr rfl h
    have h2 := sid12_mid h (by omega)
    rwa [hr] at h2
  clear hcs hcell hzd hzd2 hS hw hl hr
  have g1 : ¬ (c : Int) < 0 := by omega
  have g2 : ¬ (n : Int) < c := by omega
  go_enter Try.func5, Try.ntmps5
  go_wp2_with fail
  refine (bytes11 _ _ _ _ _ _ (by omega)).mono ?_
  rintro e w' ⟨rfl, hw⟩
  obtain rfl : w = w' := hw.symm
  have hd1 : decide (n ≤ 1048576) = true := by simp; omega
  go_wp2_with (first | (refine wpList_make_full _ rfl (.tmp 33) (.tmp 33) 27 rfl w.heap.size 5 i0 _ 1 Try.underlying27 hi hz0 hz1 .i64 .i64 _ _ n rfl rfl (by simp) (by simp) (by rw [hz2]; omega) (by unfold maxLen; omega) (Nat.le_refl _) ?_; intro w1 hown1 hgrow1; obtain ⟨cur, hcur, hlen⟩ := made hown1; have hb1 : Below w.heap.size w w1 := (Below.refl _ _).grown hgrow1 (Nat.le_refl _) (by simp); have hs1 := HS.out w1 hb1) | (refine wpList_copy_splice rfl (.tmp 35) (.tmp 36) 27 27 rfl 5 Try.underlying27 (by kernel_rfl) (some ⟨w.heap.size, 0, none⟩) (some x) n n n cap rfl rfl w.heap.size 0 cur 5 hcur cs (by rw [hcl]; simp) (fun _ => ⟨rfl, x, rfl, hs1⟩) (by omega) hone w.heap.size w hb1 (Nat.le_refl _) ?_; intro w2 H2 hb2))
  have HC : Hid (∀ k, k < n → w2.cell? ⟨w.heap.size, k, none⟩ = some (.int .u8 (z k))) := by
    intro k hk
    rw [cell_of_row _ _ k _ _ _ H2.out]
    have := splice_get cur cs k (by omega)
    simp only [List.getElem?_toArray, this]
    exact HG.out k hk
  have hsz2 : w.heap.size < w2.heap.size := by
    have := H2.out
    rcases Nat.lt_or_ge w.heap.size w2.heap.size with h | h
    · exact h
    · rw [Array.getElem?_eq_none h] at this; cases this
  clear H2 hs1 hb1 hcur hlen hgrow1 hown1 HS HG hone hcl
  go_loop [8, 9] (fun s i => ∃ (q : Nat) (a : Bool), s = .bool a ∧ i = .int .i64 q ∧ q ≤ n ∧ Hid (allSid z q = a)) (fun _ i => n - (intOf i).toNat)
  case atStart => exact ⟨0, true, rfl, rfl, by omega, rfl⟩
  case round =>
    obtain ⟨q, a, rfl, rfl, hq, HA⟩ := hrel
    by_cases hlt : q < n
    · have cq := HC.out q hlt
      by_cases e7 : z q = 7
      · have H3 : Hid (allSid z (q + 1) = a) := by
          show (allSid z q && (z q == 7)) = a
          rw [HA.out, e7]; simp
        have e' : (z q != 7) = false := by simp [e7]
        clear e7 HA
        go_wp2
        go_round
        case rel => exact ⟨q + 1, a, rfl, by go_num, by omega, H3⟩
        case measure => simp [intOf]; omega
      · have H3 : Hid (allSid z (q + 1) = false) := by
          show (allSid z q && (z q == 7)) = false
          simp [e7]
        have e' : (z q != 7) = true := by simp [e7]
        clear e7 HA
        go_wp2
        go_round
        case rel => exact ⟨q + 1, false, rfl, by go_num, by omega, H3⟩
        case measure => simp [intOf]; omega
    · obtain rfl : q = n := by omega
      obtain rfl : a = false := HA.out.symm.trans HSS.out
      clear HA
      go_wp2_with fail
      refine (val13 2 false w.heap.size 0 q q z w2 (by omega) (fun i hi => by rw [Nat.zero_add]; exact HC.out i hi)).mono ?_
      rintro e w3 ⟨rfl, hM3⟩
      have HC3 : Hid (∀ k, k < q → w3.cell? ⟨w.heap.size, k, none⟩ = some (.int .u8 (z k))) := fun k hk => (hM3.below.cell (p := ⟨w.heap.size, k, none⟩) hsz2).trans (HC.out k hk)
      have hb3 : Below w.heap.size w w3 := hb2.trans (hM3.below.mono (by omega))
      have hsz3 : w.heap.size < w3.heap.size := Nat.lt_of_lt_of_le hsz2 hM3.below.size
      go_wp2_with fail
      refine (HWh.out _ _ w3 rfl hM3).mono ?_
      rintro e w' ⟨rfl, hw⟩
      obtain rfl : w3 = w' := hw.symm
      clear HWh hM3 HC
      go_wp2_with fail
      refine (val13 2 false w.heap.size 0 c q z w3 (by omega) (fun i hi => by rw [Nat.zero_add]; exact HC3.out i (by omega))).mono ?_
      rintro e w4 ⟨rfl, hM4⟩
      have HC4 : Hid (∀ k, k < q → w4.cell? ⟨w.heap.size, k, none⟩ = some (.int .u8 (z k))) := fun k hk => (hM4.below.cell (p := ⟨w.heap.size, k, none⟩) hsz3).trans (HC3.out k hk)
      have hb4 : Below w.heap.size w w4 := hb3.trans (hM4.below.mono (by omega))
      have hsz4 : w.heap.size < w4.heap.size := Nat.lt_of_lt_of_le hsz3 hM4.below.size
      go_wp2_with fail
      refine (HLf.out _ _ w4 rfl hM4).mono ?_
      rintro e w' ⟨rfl, hw⟩
      obtain rfl : w4 = w' := hw.symm
      clear HLf hM4 HC3
      go_wp2_with fail
      refine (val13 2 false w.heap.size c (q - c) (q - c) (fun i => z (c + i)) w4 (by omega) (fun i hi => HC4.out (c + i) (by omega))).mono ?_
      rintro e w5 ⟨rfl, hM5⟩
      have hb5 : Below w.heap.size w w5 := hb4.trans (hM5.below.mono (by omega))
      go_wp2_with fail
      refine (HRt.out _ _ w5 rfl hM5).mono ?_
      rintro e w' ⟨rfl, hw⟩
      obtain rfl : w5 = w' := hw.symm
      clear HRt hM5 HC4
      go_wp2_with fail
      go_ret
      exact ⟨rfl, hb5⟩

set_option maxHeartbeats 2000000 in
theorem core_lt_tf (x : Addr) (n cap c : Nat) (zs : List Int) (w : World) (hn : n ≤ 65536) (hcn : c ≤ n) (hne : ¬ n = c) (hcap : n ≤ cap) (hzl : zs.length = cap)
    (hcell : ∀ i, i < zs.length → w.cell? (x.add i) = some (.int .u8 (zs.getD i 0)))
    (hS : allSid (fun k => zs.getD k 0) n = false) (hw : (!false && allSid (fun k => zs.getD k 0) n) = false) (hl : (!false && allSid (fun k => zs.getD k 0) c) = true) (hr : (!false && allSid (fun i => zs.getD (c + i) 0) (n - c)) = false) :
    Calls Try.prog 5 #[.bool false, .slice (some x) n cap, .int .i64 c] w fun e w' => e = .returned (.bool true) ∧ Below w.heap.size w w' := by
  obtain ⟨i0, hi, hz0, hz1, hz2⟩ := info_parts Try.info5
  have hnn := fun (w : World) => run_neq_slice_nil_any (P := Try.prog) w 27 5 (some x) n cap 0 0 Try.underlying27
  obtain ⟨cs, hcs⟩ : ∃ cs, cs = (zs.take n).map (Value.int .u8) := ⟨_, rfl⟩
  have hcl : cs.length = n := by rw [hcs]; simp; omega
  have hone : ∀ v ∈ cs, v.oneCell' = true := by rw [hcs]; exact ints_oneCell _ _
  obtain ⟨z, hzd⟩ : ∃ z : Nat → Int, z = fun k => zs.getD k 0 := ⟨_, rfl⟩
  have hzd2 : (fun i => zs.getD (c + i) 0) = fun i => z (c + i) := by rw [hzd]
  rw [hzd2] at hr
  rw [← hzd] at hS hw hl
  have HG : Hid (∀ k, k < n → cs[k]? = some (.int .u8 (z k))) := by
    intro k hk
    rw [hcs, hzd]
    exact ints_take zs n k hk (by omega)
  have HS : Hid (∀ w1 : World, Below w.heap.size w w1 → ∀ j v, cs[j]? = some v → w1.cell? (x.add j) = some v) := by
    intro w1 hb j v hj
    have hjl : j < cs.length := by
      rcases Nat.lt_or_ge j cs.length with h | h
      · exact h
      · rw [List.getElem?_eq_none h] at hj; cases hj
    have h1 := HG.out j (by omega)
    rw [h1] at hj
    have h2 := hcell j (by omega)
    have hlt : (x.add j).block < w.heap.size := block_lt_of_cell h2
    rw [hb.cell hlt, h2, ← hj, hzd]
  have HSS : Hid (allSid z n = false) := hS
  have HWh : Hid (∀ (p : Nat) (wa wr : World), p = wa.heap.size → Mid wa wr 2 false n n z → Calls Try.prog 12 #[.pointer (some ⟨p, 0, none⟩)] wr fun e w' => e = .returned (.bool false) ∧ w' = wr) := by
    rintro p wa wr rfl h
    have h2 := sid12_mid h (by omega)
    rwa [hw] at h2
  have HLf : Hid (∀ (p : Nat) (wa wr : World), p = wa.heap.size → Mid wa wr 2 false c c z → Calls Try.prog 12 #[.pointer (some ⟨p, 0, none⟩)] wr fun e w' => e = .returned (.bool true) ∧ w' = wr) := by
    rintro p wa wr rfl h
    have h2 := sid12_mid h (by omega)
    rwa [hl] at h2
  have HRt : Hid (∀ (p : Nat) (wa wr : World), p = wa.heap.size → Mid wa wr 2 false (n - c) (n - c) (fun i => z (c + i)) → Calls Try.prog 12 #[.pointer (some ⟨p, 0, none⟩)] wr fun e w' => e = .returned (.bool false) ∧ w' = wr) := by
    rintro p wa wr rfl h
    have h2 := sid12_mid h (by omega)
    rwa [hr] at h2
  clear hcs hcell hzd hzd2 hS hw hl hr
  have g1 : ¬ (c : Int) < 0 := by omega
  have g2 : ¬ (n : Int) < c := by omega
  go_enter Try.func5, Try.ntmps5
  go_wp2_with fail
  refine (bytes11 _ _ _ _ _ _ (by omega)).mono ?_
  rintro e w' ⟨rfl, hw⟩
  obtain rfl : w = w' := hw.symm
  have hd1 : decide (n ≤ 1048576) = true := by simp; omega
  go_wp2_with (first | (refine wpList_make_full _ rfl (.tmp 33) (.tmp 33) 27 rfl w.heap.size 5 i0 _ 1 Try.underlying27 hi hz0 hz1 .i64 .i64 _ _ n rfl rfl (by simp) (by simp) (by rw [hz2]; omega) (by unfold maxLen; omega) (Nat.le_refl _) ?_; intro w1 hown1 hgrow1; obtain ⟨cur, hcur, hlen⟩ := made hown1; have hb1 : Below w.heap.size w w1 := (Below.refl _ _).grown hgrow1 (Nat.le_refl _) (by simp); have hs1 := HS.out w1 hb1) | (refine wpList_copy_splice rfl (.tmp 35) (.tmp 36) 27 27 rfl 5 Try.underlying27 (by kernel_rfl) (some ⟨w.heap.size, 0, none⟩) (some x) n n n cap rfl rfl w.heap.size 0 cur 5 hcur cs (by rw [hcl]; simp) (fun _ => ⟨rfl, x, rfl, hs1⟩) (by omega) hone w.heap.size w hb1 (Nat.le_refl _) ?_; intro w2 H2 hb2))
  have HC : Hid (∀ k, k < n → w2.cell? ⟨w.heap.size, k, none⟩ = some (.int .u8 (z k))) := by
    intro k hk
    rw [cell_of_row _ _ k _ _ _ H2.out]
    have := splice_get cur cs k (by omega)
    simp only [List.getElem?_toArray, this]
    exact HG.out k hk
  have hsz2 : w.heap.size < w2.heap.size := by
    have := H2.out
    rcases Nat.lt_or_ge w.heap.size w2.heap.size with h | h
    · exact h
    · rw [Array.getElem?_eq_none h] at this; cases this
  clear H2 hs1 hb1 hcur hlen hgrow1 hown1 HS HG hone hcl
  go_loop [8, 9] (fun s i => ∃ (q : Nat) (a : Bool), s = .bool a ∧ i = .int .i64 q ∧ q ≤ n ∧ Hid (allSid z q = a)) (fun _ i => n - (intOf i).toNat)
  case atStart => exact ⟨0, true, rfl, rfl, by omega, rfl⟩
  case round =>
    obtain ⟨q, a, rfl, rfl, hq, HA⟩ := hrel
    by_cases hlt : q < n
    · have cq := HC.out q hlt
      by_cases e7 : z q = 7
      · have H3 : Hid (allSid z (q + 1) = a) := by
          show (allSid z q && (z q == 7)) = a
          rw [HA.out, e7]; simp
        have e' : (z q != 7) = false := by simp [e7]
        clear e7 HA
        go_wp2
        go_round
        case rel => exact ⟨q + 1, a, rfl, by go_num, by omega, H3⟩
        case measure => simp [intOf]; omega
      · have H3 : Hid (allSid z (q + 1) = false) := by
          show (allSid z q && (z q == 7)) = false
          simp [e7]
        have e' : (z q != 7) = true := by simp [e7]
        clear e7 HA
        go_wp2
        go_round
        case rel => exact ⟨q + 1, false, rfl, by go_num, by omega, H3⟩
        case measure => simp [intOf]; omega
    · obtain rfl : q = n := by omega
      obtain rfl : a = false := HA.out.symm.trans HSS.out
      clear HA
      go_wp2_with fail
      refine (val13 2 false w.heap.size 0 q q z w2 (by omega) (fun i hi => by rw [Nat.zero_add]; exact HC.out i hi)).mono ?_
      rintro e w3 ⟨rfl, hM3⟩
      have HC3 : Hid (∀ k, k < q → w3.cell? ⟨w.heap.size, k, none⟩ = some (.int .u8 (z k))) := fun k hk => (hM3.below.cell (p := ⟨w.heap.size, k, none⟩) hsz2).trans (HC.out k hk)
      have hb3 : Below w.heap.size w w3 := hb2.trans (hM3.below.mono (by omega))
      have hsz3 : w.heap.size < w3.heap.size := Nat.lt_of_lt_of_le hsz2 hM3.below.size
      go_wp2_with fail
      refine (HWh.out _ _ w3 rfl hM3).mono ?_
      rintro e w' ⟨rfl, hw⟩
      obtain rfl : w3 = w' := hw.symm
      clear HWh hM3 HC
      go_wp2_with fail
      refine (val13 2 false w.heap.size 0 c q z w3 (by omega) (fun i hi => by rw [Nat.zero_add]; exact HC3.out i (by omega))).mono ?_
      rintro e w4 ⟨rfl, hM4⟩
      have HC4 : Hid (∀ k, k < q → w4.cell? ⟨w.heap.size, k, none⟩ = some (.int .u8 (z k))) := fun k hk => (hM4.below.cell (p := ⟨w.heap.size, k, none⟩) hsz3).trans (HC3.out k hk)
      have hb4 : Below w.heap.size w w4 := hb3.trans (hM4.below.mono (by omega))
      have hsz4 : w.heap.size < w4.heap.size := Nat.lt_of_lt_of_le hsz3 hM4.below.size
      go_wp2_with fail
      refine (HLf.out _ _ w4 rfl hM4).mono ?_
      rintro e w' ⟨rfl, hw⟩
      obtain rfl : w4 = w' := hw.symm
      clear HLf hM4 HC3
      go_wp2_with fail
      refine (val13 2 false w.heap.size c (q - c) (q - c) (fun i => z (c + i)) w4 (by omega) (fun i hi => HC4.out (c + i) (by omega))).mono ?_
      rintro e w5 ⟨rfl, hM5⟩
      have hb5 : Below w.heap.size w w5 := hb4.trans (hM5.below.mono (by omega))
      go_wp2_with fail
      refine (HRt.out _ _ w5 rfl hM5).mono ?_
      rintro e w' ⟨rfl, hw⟩
      obtain rfl : w5 = w' := hw.symm
      clear HRt hM5 HC4
      go_wp2_with fail
      go_ret
      exact ⟨rfl, hb5⟩

set_option maxHeartbeats 2000000 in
theorem core_lt_tt (x : Addr) (n cap c : Nat) (zs : List Int) (w : World) (hn : n ≤ 65536) (hcn : c ≤ n) (hne : ¬ n = c) (hcap : n ≤ cap) (hzl : zs.length = cap)
    (hcell : ∀ i, i < zs.length → w.cell? (x.add i) = some (.int .u8 (zs.getD i 0)))
    (hS : allSid (fun k => zs.getD k 0) n = true) (hw : (!false && allSid (fun k => zs.getD k 0) n) = true) (hl : (!false && allSid (fun k => zs.getD k 0) c) = true) (hr : (!false && allSid (fun i => zs.getD (c + i) 0) (n - c)) = true) :
    Calls Try.prog 5 #[.bool false, .slice (some x) n cap, .int .i64 c] w fun e w' => e = .returned (.bool true) ∧ Below w.heap.size w w' := by
  obtain ⟨i0, hi, hz0, hz1, hz2⟩ := info_parts Try.info5
  have hnn := fun (w : World) => run_neq_slice_nil_any (P := Try.prog) w 27 5 (some x) n cap 0 0 Try.underlying27
  obtain ⟨cs, hcs⟩ : ∃ cs, cs = (zs.take n).map (Value.int .u8) := ⟨_, rfl⟩
  have hcl : cs.length = n := by rw [hcs]; simp; omega
  have hone : ∀ v ∈ cs, v.oneCell' = true := by rw [hcs]; exact ints_oneCell _ _
  obtain ⟨z, hzd⟩ : ∃ z : Nat → Int, z = fun k => zs.getD k 0 := ⟨_, rfl⟩
  have hzd2 : (fun i => zs.getD (c + i) 0) = fun i => z (c + i) := by rw [hzd]
  rw [hzd2] at hr
  rw [← hzd] at hS hw hl
  have HG : Hid (∀ k, k < n → cs[k]? = some (.int .u8 (z k))) := by
    intro k hk
    rw [hcs, hzd]
    exact ints_take zs n k hk (by omega)
  have HS : Hid (∀ w1 : World, Below w.heap.size w w1 → ∀ j v, cs[j]? = some v → w1.cell? (x.add j) = some v) := by
    intro w1 hb j v hj
    have hjl : j < cs.length := by
      rcases Nat.lt_or_ge j cs.length with h | h
      · exact h
      · rw [List.getElem?_eq_none h] at hj; cases hj
    have h1 := HG.out j (by omega)
    rw [h1] at hj
    have h2 := hcell j (by omega)
    have hlt : (x.add j).block < w.heap.size := block_lt_of_cell h2
    rw [hb.cell hlt, h2, ← hj, hzd]
  have HSS : Hid (allSid z n = true) := hS
  have HWh : Hid (∀ (p : Nat) (wa wr : World), p = wa.heap.size → Mid wa wr 2 false n n z → Calls Try.prog 12 #[.pointer (some ⟨p, 0, none⟩)] wr fun e w' => e = .returned (.bool true) ∧ w' = wr) := by
    rintro p wa wr rfl h
    have h2 := sid12_mid h (by omega)
    rwa [hw] at h2
  have HLf : Hid (∀ (p : Nat) (wa wr : World), p = wa.heap.size → Mid wa wr 2 false c c z → Calls Try.prog 12 #[.pointer (some ⟨p, 0, none⟩)] wr fun e w' => e = .returned (.bool true) ∧ w' = wr) := by
    rintro p wa wr rfl h
    have h2 := sid12_mid h (by omega)
    rwa [hl] at h2
  have HRt : Hid (∀ (p : Nat) (wa wr : World), p = wa.heap.size → Mid wa wr 2 false (n - c) (n - c) (fun i => z (c + i)) → Calls Try.prog 12 #[.pointer (some ⟨p, 0, none⟩)] wr fun e w' => e = .returned (.bool true) ∧ w' = wr) := by
    rintro p wa wr rfl h
    have h2 := sid12_mid h (by omega)
    rwa [hr] at h2
  clear hcs hcell hzd hzd2 hS hw hl hr
  have g1 : ¬ (c : Int) < 0 := by omega
  have g2 : ¬ (n : Int) < c := by omega
  go_enter Try.func5, Try.ntmps5
  go_wp2_with fail
  refine (bytes11 _ _ _ _ _ _ (by omega)).mono ?_
  rintro e w' ⟨rfl, hw⟩
  obtain rfl : w = w' := hw.symm
  have hd1 : decide (n ≤ 1048576) = true := by simp; omega
  go_wp2_with (first | (refine wpList_make_full _ rfl (.tmp 33) (.tmp 33) 27 rfl w.heap.size 5 i0 _ 1 Try.underlying27 hi hz0 hz1 .i64 .i64 _ _ n rfl rfl (by simp) (by simp) (by rw [hz2]; omega) (by unfold maxLen; omega) (Nat.le_refl _) ?_; intro w1 hown1 hgrow1; obtain ⟨cur, hcur, hlen⟩ := made hown1; have hb1 : Below w.heap.size w w1 := (Below.refl _ _).grown hgrow1 (Nat.le_refl _) (by simp); have hs1 := HS.out w1 hb1) | (refine wpList_copy_splice rfl (.tmp 35) (.tmp 36) 27 27 rfl 5 Try.underlying27 (by kernel_rfl) (some ⟨w.heap.size, 0, none⟩) (some x) n n n cap rfl rfl w.heap.size 0 cur 5 hcur cs (by rw [hcl]; simp) (fun _ => ⟨rfl, x, rfl, hs1⟩) (by omega) hone w.heap.size w hb1 (Nat.le_refl _) ?_; intro w2 H2 hb2))
  have HC : Hid (∀ k, k < n → w2.cell? ⟨w.heap.size, k, none⟩ = some (.int .u8 (z k))) := by
    intro k hk
    rw [cell_of_row _ _ k _ _ _ H2.out]
    have := splice_get cur cs k (by omega)
    simp only [List.getElem?_toArray, this]
    exact HG.out k hk
  have hsz2 : w.heap.size < w2.heap.size := by
    have := H2.out
    rcases Nat.lt_or_ge w.heap.size w2.heap.size with h | h
    · exact h
    · rw [Array.getElem?_eq_none h] at this; cases this
  clear H2 hs1 hb1 hcur hlen hgrow1 hown1 HS HG hone hcl
  go_loop [8, 9] (fun s i => ∃ (q : Nat) (a : Bool), s = .bool a ∧ i = .int .i64 q ∧ q ≤ n ∧ Hid (allSid z q = a)) (fun _ i => n - (intOf i).toNat)
  case atStart => exact ⟨0, true, rfl, rfl, by omega, rfl⟩
  case round =>
    obtain ⟨q, a, rfl, rfl, hq, HA⟩ := hrel
    by_cases hlt : q < n
    · have cq := HC.out q hlt
      by_cases e7 : z q = 7
      · have H3 : Hid (allSid z (q + 1) = a) := by
          show (allSid z q && (z q == 7)) = a
          rw [HA.out, e7]; simp
        have e' : (z q != 7) = false := by simp [e7]
        clear e7 HA
        go_wp2
        go_round
        case rel => exact ⟨q + 1, a, rfl, by go_num, by omega, H3⟩
        case measure => simp [intOf]; omega
      · have H3 : Hid (allSid z (q + 1) = false) := by
          show (allSid z q && (z q == 7)) = false
          simp [e7]
        have e' : (z q != 7) = true := by simp [e7]
        clear e7 HA
        go_wp2
        go_round
        case rel => exact ⟨q + 1, false, rfl, by go_num, by omega, H3⟩
        case measure => simp [intOf]; omega
    · obtain rfl : q = n := by omega
      obtain rfl : a = true := HA.out.symm.trans HSS.out
      clear HA
      go_wp2_with fail
      refine (val13 2 false w.heap.size 0 q q z w2 (by omega) (fun i hi => by rw [Nat.zero_add]; exact HC.out i hi)).mono ?_
      rintro e w3 ⟨rfl, hM3⟩
      have HC3 : Hid (∀ k, k < q → w3.cell? ⟨w.heap.size, k, none⟩ = some (.int .u8 (z k))) := fun k hk => (hM3.below.cell (p := ⟨w.heap.size, k, none⟩) hsz2).trans (HC.out k hk)
      have hb3 : Below w.heap.size w w3 := hb2.trans (hM3.below.mono (by omega))
      have hsz3 : w.heap.size < w3.heap.size := Nat.lt_of_lt_of_le hsz2 hM3.below.size
      go_wp2_with fail
      refine (HWh.out _ _ w3 rfl hM3).mono ?_
      rintro e w' ⟨rfl, hw⟩
      obtain rfl : w3 = w' := hw.symm
      clear HWh hM3 HC
      go_wp2_with fail
      refine (val13 2 false w.heap.size 0 c q z w3 (by omega) (fun i hi => by rw [Nat.zero_add]; exact HC3.out i (by omega))).mono ?_
      rintro e w4 ⟨rfl, hM4⟩
      have HC4 : Hid (∀ k, k < q → w4.cell? ⟨w.heap.size, k, none⟩ = some (.int .u8 (z k))) := fun k hk => (hM4.below.cell (p := ⟨w.heap.size, k, none⟩) hsz3).trans (HC3.out k hk)
      have hb4 : Below w.heap.size w w4 := hb3.trans (hM4.below.mono (by omega))
      have hsz4 : w.heap.size < w4.heap.size := Nat.lt_of_lt_of_le hsz3 hM4.below.size
      go_wp2_with fail
      refine (HLf.out _ _ w4 rfl hM4).mono ?_
      rintro e w' ⟨rfl, hw⟩
      obtain rfl : w4 = w' := hw.symm
      clear HLf hM4 HC3
      go_wp2_with fail
      refine (val13 2 false w.heap.size c (q - c) (q - c) (fun i => z (c + i)) w4 (by omega) (fun i hi => HC4.out (c + i) (by omega))).mono ?_
      rintro e w5 ⟨rfl, hM5⟩
      have hb5 : Below w.heap.size w w5 := hb4.trans (hM5.below.mono (by omega))
      go_wp2_with fail
      refine (HRt.out _ _ w5 rfl hM5).mono ?_
      rintro e w' ⟨rfl, hw⟩
      obtain rfl : w5 = w' := hw.symm
      clear HRt hM5 HC4
      go_wp2_with fail
      go_ret
      exact ⟨rfl, hb5⟩

set_option maxHeartbeats 2000000 in
theorem core_lt_t (S : Bool) (x : Addr) (n cap c : Nat) (zs : List Int) (w : World) (hn : n ≤ 65536) (hcn : c ≤ n) (hne : ¬ n = c) (hcap : n ≤ cap) (hzl : zs.length = cap)
    (hcell : ∀ i, i < zs.length → w.cell? (x.add i) = some (.int .u8 (zs.getD i 0)))
    (hS : allSid (fun k => zs.getD k 0) n = S) (hw : (!true && allSid (fun k => zs.getD k 0) n) = false) (hl : (!true && allSid (fun k => zs.getD k 0) c) = false) (hr : (!true && allSid (fun i => zs.getD (c + i) 0) (n - c)) = false) :
    Calls Try.prog 5 #[.bool true, .slice (some x) n cap, .int .i64 c] w fun e w' => e = .returned (.bool true) ∧ Below w.heap.size w w' := by
  obtain ⟨i0, hi, hz0, hz1, hz2⟩ := info_parts Try.info5
  have hnn := fun (w : World) => run_neq_slice_nil_any (P := Try.prog) w 27 5 (some x) n cap 0 0 Try.underlying27
  obtain ⟨cs, hcs⟩ : ∃ cs, cs = (zs.take n).map (Value.int .u8) := ⟨_, rfl⟩
  have hcl : cs.length = n := by rw [hcs]; simp; omega
  have hone : ∀ v ∈ cs, v.oneCell' = true := by rw [hcs]; exact ints_oneCell _ _
  obtain ⟨z, hzd⟩ : ∃ z : Nat → Int, z = fun k => zs.getD k 0 := ⟨_, rfl⟩
  have hzd2 : (fun i => zs.getD (c + i) 0) = fun i => z (c + i) := by rw [hzd]
  rw [hzd2] at hr
  rw [← hzd] at hS hw hl
  have HG : Hid (∀ k, k < n → cs[k]? = some (.int .u8 (z k))) := by
    intro k hk
    rw [hcs, hzd]
    exact ints_take zs n k hk (by omega)
  have HS : Hid (∀ w1 : World, Below w.heap.size w w1 → ∀ j v, cs[j]? = some v → w1.cell? (x.add j) = some v) := by
    intro w1 hb j v hj
    have hjl : j < cs.length := by
      rcases Nat.lt_or_ge j cs.length with h | h
      · exact h
      · rw [List.getElem?_eq_none h] at hj; cases hj
    have h1 := HG.out j (by omega)
    rw [h1] at hj
    have h2 := hcell j (by omega)
    have hlt : (x.add j).block < w.heap.size := block_lt_of_cell h2
    rw [hb.cell hlt, h2, ← hj, hzd]
  have HSS : Hid (allSid z n = S) := hS
  have HWh : Hid (∀ (p : Nat) (wa wr : World), p = wa.heap.size → Mid wa wr 2 true n n z → Calls Try.prog 12 #[.pointer (some ⟨p, 0, none⟩)] wr fun e w' => e = .returned (.bool false) ∧ w' = wr) := by
    rintro p wa wr rfl h
    have h2 := sid12_mid h (by omega)
    rwa [hw] at h2
  have HLf : Hid (∀ (p : Nat) (wa wr : World), p = wa.heap.size → Mid wa wr 2 true c c z → Calls Try.prog 12 #[.pointer (some ⟨p, 0, none⟩)] wr fun e w' => e = .returned (.bool false) ∧ w' = wr) := by
    rintro p wa wr rfl h
    have h2 := sid12_mid h (by omega)
    rwa [hl] at h2
  have HRt : Hid (∀ (p : Nat) (wa wr : World), p = wa.heap.size → Mid wa wr 2 true (n - c) (n - c) (fun i => z (c + i)) → Calls Try.prog 12 #[.pointer (some ⟨p, 0, none⟩)] wr fun e w' => e = .returned (.bool false) ∧ w' = wr) := by
    rintro p wa wr rfl h
    have h2 := sid12_mid h (by omega)
    rwa [hr] at h2
  clear hcs hcell hzd hzd2 hS hw hl hr
  have g1 : ¬ (c : Int) < 0 := by omega
  have g2 : ¬ (n : Int) < c := by omega
  go_enter Try.func5, Try.ntmps5
  go_wp2_with fail
  refine (bytes11 _ _ _ _ _ _ (by omega)).mono ?_
  rintro e w' ⟨rfl, hw⟩
  obtain rfl : w = w' := hw.symm
  have hd1 : decide (n ≤ 1048576) = true := by simp; omega
  go_wp2_with (first | (refine wpList_make_full _ rfl (.tmp 33) (.tmp 33) 27 rfl w.heap.size 5 i0 _ 1 Try.underlying27 hi hz0 hz1 .i64 .i64 _ _ n rfl rfl (by simp) (by simp) (by rw [hz2]; omega) (by unfold maxLen; omega) (Nat.le_refl _) ?_; intro w1 hown1 hgrow1; obtain ⟨cur, hcur, hlen⟩ := made hown1; have hb1 : Below w.heap.size w w1 := (Below.refl _ _).grown hgrow1 (Nat.le_refl _) (by simp); have hs1 := HS.out w1 hb1) | (refine wpList_copy_splice rfl (.tmp 35) (.tmp 36) 27 27 rfl 5 Try.underlying27 (by kernel_rfl) (some ⟨w.heap.size, 0, none⟩) (some x) n n n cap rfl rfl w.heap.size 0 cur 5 hcur cs (by rw [hcl]; simp) (fun _ => ⟨rfl, x, rfl, hs1⟩) (by omega) hone w.heap.size w hb1 (Nat.le_refl _) ?_; intro w2 H2 hb2))
  have HC : Hid (∀ k, k < n → w2.cell? ⟨w.heap.size, k, none⟩ = some (.int .u8 (z k))) := by
    intro k hk
    rw [cell_of_row _ _ k _ _ _ H2.out]
    have := splice_get cur cs k (by omega)
    simp only [List.getElem?_toArray, this]
    exact HG.out k hk
  have hsz2 : w.heap.size < w2.heap.size := by
    have := H2.out
    rcases Nat.lt_or_ge w.heap.size w2.heap.size with h | h
    · exact h
    · rw [Array.getElem?_eq_none h] at this; cases this
  clear H2 hs1 hb1 hcur hlen hgrow1 hown1 HS HG hone hcl
  go_loop [8, 9] (fun s i => ∃ (q : Nat) (a : Bool), s = .bool a ∧ i = .int .i64 q ∧ q ≤ n ∧ Hid (allSid z q = a)) (fun _ i => n - (intOf i).toNat)
  case atStart => exact ⟨0, true, rfl, rfl, by omega, rfl⟩
  case round =>
    obtain ⟨q, a, rfl, rfl, hq, HA⟩ := hrel
    by_cases hlt : q < n
    · have cq := HC.out q hlt
      by_cases e7 : z q = 7
      · have H3 : Hid (allSid z (q + 1) = a) := by
          show (allSid z q && (z q == 7)) = a
          rw [HA.out, e7]; simp
        have e' : (z q != 7) = false := by simp [e7]
        clear e7 HA
        go_wp2
        go_round
        case rel => exact ⟨q + 1, a, rfl, by go_num, by omega, H3⟩
        case measure => simp [intOf]; omega
      · have H3 : Hid (allSid z (q + 1) = false) := by
          show (allSid z q && (z q == 7)) = false
          simp [e7]
        have e' : (z q != 7) = true := by simp [e7]
        clear e7 HA
        go_wp2
        go_round
        case rel => exact ⟨q + 1, false, rfl, by go_num, by omega, H3⟩
        case measure => simp [intOf]; omega
    · obtain rfl : q = n := by omega
      obtain rfl : a = S := HA.out.symm.trans HSS.out
      clear HA
      go_wp2_with fail
      refine (val13 2 true w.heap.size 0 q q z w2 (by omega) (fun i hi => by rw [Nat.zero_add]; exact HC.out i hi)).mono ?_
      rintro e w3 ⟨rfl, hM3⟩
      have HC3 : Hid (∀ k, k < q → w3.cell? ⟨w.heap.size, k, none⟩ = some (.int .u8 (z k))) := fun k hk => (hM3.below.cell (p := ⟨w.heap.size, k, none⟩) hsz2).trans (HC.out k hk)
      have hb3 : Below w.heap.size w w3 := hb2.trans (hM3.below.mono (by omega))
      have hsz3 : w.heap.size < w3.heap.size := Nat.lt_of_lt_of_le hsz2 hM3.below.size
      go_wp2_with fail
      refine (HWh.out _ _ w3 rfl hM3).mono ?_
      rintro e w' ⟨rfl, hw⟩
      obtain rfl : w3 = w' := hw.symm
      clear HWh hM3 HC
      go_wp2_with fail
      refine (val13 2 true w.heap.size 0 c q z w3 (by omega) (fun i hi => by rw [Nat.zero_add]; exact HC3.out i (by omega))).mono ?_
      rintro e w4 ⟨rfl, hM4⟩
      have HC4 : Hid (∀ k, k < q → w4.cell? ⟨w.heap.size, k, none⟩ = some (.int .u8 (z k))) := fun k hk => (hM4.below.cell (p := ⟨w.heap.size, k, none⟩) hsz3).trans (HC3.out k hk)
      have hb4 : Below w.heap.size w w4 := hb3.trans (hM4.below.mono (by omega))
      have hsz4 : w.heap.size < w4.heap.size := Nat.lt_of_lt_of_le hsz3 hM4.below.size
      go_wp2_with fail
      refine (HLf.out _ _ w4 rfl hM4).mono ?_
      rintro e w' ⟨rfl, hw⟩
      obtain rfl : w4 = w' := hw.symm
      clear HLf hM4 HC3
      go_wp2_with fail
      refine (val13 2 true w.heap.size c (q - c) (q - c) (fun i => z (c + i)) w4 (by omega) (fun i hi => HC4.out (c + i) (by omega))).mono ?_
      rintro e w5 ⟨rfl, hM5⟩
      have hb5 : Below w.heap.size w w5 := hb4.trans (hM5.below.mono (by omega))
      go_wp2_with fail
      refine (HRt.out _ _ w5 rfl hM5).mono ?_
      rintro e w' ⟨rfl, hw⟩
      obtain rfl : w5 = w' := hw.symm
      clear HRt hM5 HC4
      go_wp2_with fail
      go_ret
      exact ⟨rfl, hb5⟩

set_option maxHeartbeats 2000000 in
theorem core_eq_ff (x : Addr) (n cap : Nat) (zs : List Int) (w : World) (hn : n ≤ 65536) (hcap : n ≤ cap) (hzl : zs.length = cap)
    (hcell : ∀ i, i < zs.length → w.cell? (x.add i) = some (.int .u8 (zs.getD i 0)))
    (hS : allSid (fun k => zs.getD k 0) n = false) (hw : (!false && allSid (fun k => zs.getD k 0) n) = false) (hl : (!false && allSid (fun k => zs.getD k 0) n) = false) (hr : (!false && allSid (fun i => zs.getD (n + i) 0) 0) = true) :
    Calls Try.prog 5 #[.bool false, .slice (some x) n cap, .int .i64 n] w fun e w' => e = .returned (.bool true) ∧ Below w.heap.size w w' := by
  obtain ⟨i0, hi, hz0, hz1, hz2⟩ := info_parts Try.info5
  have hnn := fun (w : World) => run_neq_slice_nil_any (P := Try.prog) w 27 5 (some x) n cap 0 0 Try.underlying27
  obtain ⟨cs, hcs⟩ : ∃ cs, cs = (zs.take n).map (Value.int .u8) := ⟨_, rfl⟩
  have hcl : cs.length = n := by rw [hcs]; simp; omega
  have hone : ∀ v ∈ cs, v.oneCell' = true := by rw [hcs]; exact ints_oneCell _ _
  obtain ⟨z, hzd⟩ : ∃ z : Nat → Int, z = fun k => zs.getD k 0 := ⟨_, rfl⟩
  have hzd2 : (fun i => zs.getD (n + i) 0) = fun i => z (n + i) := by rw [hzd]
  rw [hzd2] at hr
  rw [← hzd] at hS hw hl
  have HG : Hid (∀ k, k < n → cs[k]? = some (.int .u8 (z k))) := by
    intro k hk
    rw [hcs, hzd]
    exact ints_take zs n k hk (by omega)
  have HS : Hid (∀ w1 : World, Below w.heap.size w w1 → ∀ j v, cs[j]? = some v → w1.cell? (x.add j) = some v) := by
    intro w1 hb j v hj
    have hjl : j < cs.length := by
      rcases Nat.lt_or_ge j cs.length with h | h
      · exact h
      · rw [List.getElem?_eq_none h] at hj; cases hj
    have h1 := HG.out j (by omega)
    rw [h1] at hj
    have h2 := hcell j (by omega)
    have hlt : (x.add j).block < w.heap.size := block_lt_of_cell h2
    rw [hb.cell hlt, h2, ← hj, hzd]
  have HSS : Hid (allSid z n = false) := hS
  have HWh : Hid (∀ (p : Nat) (wa wr : World), p = wa.heap.size → Mid wa wr 2 false n n z → Calls Try.prog 12 #[.pointer (some ⟨p, 0, none⟩)] wr fun e w' => e = .returned (.bool false) ∧ w' = wr) := by
    rintro p wa wr rfl h
    have h2 := sid12_mid h (by omega)
    rwa [hw] at h2
  have HLf : Hid (∀ (p : Nat) (wa wr : World), p = wa.heap.size → Mid wa wr 2 false n n z → Calls Try.prog 12 #[.pointer (some ⟨p, 0, none⟩)] wr fun e w' => e = .returned (.bool false) ∧ w' = wr) := by
    rintro p wa wr rfl h
    have h2 := sid12_mid h (by omega)
    rwa [hl] at h2
  have HRt : Hid (∀ (p : Nat) (wa wr : World), p = wa.heap.size → Mid wa wr 2 false 0 0 (fun i => z (n + i)) → Calls Try.prog 12 #[.pointer (some ⟨p, 0, none⟩)] wr fun e w' => e = .returned (.bool true) ∧ w' = wr) := by
    rintro p wa wr rfl h
    have h2 := sid12_mid h (by omega)
    rwa [hr] at h2
  clear hcs hcell hzd hzd2 hS hw hl hr
  have g1 : ¬ (n : Int) < 0 := by omega
  have g2 : ¬ (n : Int) < n := by omega
  go_enter Try.func5, Try.ntmps5
  go_wp2_with fail
  refine (bytes11 _ _ _ _ _ _ (by omega)).mono ?_
  rintro e w' ⟨rfl, hw⟩
  obtain rfl : w = w' := hw.symm
  have hd1 : decide (n ≤ 1048576) = true := by simp; omega
  go_wp2_with (first | (refine wpList_make_full _ rfl (.tmp 33) (.tmp 33) 27 rfl w.heap.size 5 i0 _ 1 Try.underlying27 hi hz0 hz1 .i64 .i64 _ _ n rfl rfl (by simp) (by simp) (by rw [hz2]; omega) (by unfold maxLen; omega) (Nat.le_refl _) ?_; intro w1 hown1 hgrow1; obtain ⟨cur, hcur, hlen⟩ := made hown1; have hb1 : Below w.heap.size w w1 := (Below.refl _ _).grown hgrow1 (Nat.le_refl _) (by simp); have hs1 := HS.out w1 hb1) | (refine wpList_copy_splice rfl (.tmp 35) (.tmp 36) 27 27 rfl 5 Try.underlying27 (by kernel_rfl) (some ⟨w.heap.size, 0, none⟩) (some x) n n n cap rfl rfl w.heap.size 0 cur 5 hcur cs (by rw [hcl]; simp) (fun _ => ⟨rfl, x, rfl, hs1⟩) (by omega) hone w.heap.size w hb1 (Nat.le_refl _) ?_; intro w2 H2 hb2))
  have HC : Hid (∀ k, k < n → w2.cell? ⟨w.heap.size, k, none⟩ = some (.int .u8 (z k))) := by
    intro k hk
    rw [cell_of_row _ _ k _ _ _ H2.out]
    have := splice_get cur cs k (by omega)
    simp only [List.getElem?_toArray, this]
    exact HG.out k hk
  have hsz2 : w.heap.size < w2.heap.size := by
    have := H2.out
    rcases Nat.lt_or_ge w.heap.size w2.heap.size with h | h
    · exact h
    · rw [Array.getElem?_eq_none h] at this; cases this
  clear H2 hs1 hb1 hcur hlen hgrow1 hown1 HS HG hone hcl
  go_loop [8, 9] (fun s i => ∃ (q : Nat) (a : Bool), s = .bool a ∧ i = .int .i64 q ∧ q ≤ n ∧ Hid (allSid z q = a)) (fun _ i => n - (intOf i).toNat)
  case atStart => exact ⟨0, true, rfl, rfl, by omega, rfl⟩
  case round =>
    obtain ⟨q, a, rfl, rfl, hq, HA⟩ := hrel
    by_cases hlt : q < n
    · have cq := HC.out q hlt
      by_cases e7 : z q = 7
      · have H3 : Hid (allSid z (q + 1) = a) := by
          show (allSid z q && (z q == 7)) = a
          rw [HA.out, e7]; simp
        have e' : (z q != 7) = false := by simp [e7]
        clear e7 HA
        go_wp2
        go_round
        case rel => exact ⟨q + 1, a, rfl, by go_num, by omega, H3⟩
        case measure => simp [intOf]; omega
      · have H3 : Hid (allSid z (q + 1) = false) := by
          show (allSid z q && (z q == 7)) = false
          simp [e7]
        have e' : (z q != 7) = true := by simp [e7]
        clear e7 HA
        go_wp2
        go_round
        case rel => exact ⟨q + 1, false, rfl, by go_num, by omega, H3⟩
        case measure => simp [intOf]; omega
    · obtain rfl : q = n := by omega
      obtain rfl : a = false := HA.out.symm.trans HSS.out
      clear HA
      go_wp2_with fail
      refine (val13 2 false w.heap.size 0 q q z w2 (by omega) (fun i hi => by rw [Nat.zero_add]; exact HC.out i hi)).mono ?_
      rintro e w3 ⟨rfl, hM3⟩
      have HC3 : Hid (∀ k, k < q → w3.cell? ⟨w.heap.size, k, none⟩ = some (.int .u8 (z k))) := fun k hk => (hM3.below.cell (p := ⟨w.heap.size, k, none⟩) hsz2).trans (HC.out k hk)
      have hb3 : Below w.heap.size w w3 := hb2.trans (hM3.below.mono (by omega))
      have hsz3 : w.heap.size < w3.heap.size := Nat.lt_of_lt_of_le hsz2 hM3.below.size
      go_wp2_with fail
      refine (HWh.out _ _ w3 rfl hM3).mono ?_
      rintro e w' ⟨rfl, hw⟩
      obtain rfl : w3 = w' := hw.symm
      clear HWh hM3 HC
      go_wp2_with fail
      refine (val13 2 false w.heap.size 0 q q z w3 (by omega) (fun i hi => by rw [Nat.zero_add]; exact HC3.out i (by omega))).mono ?_
      rintro e w4 ⟨rfl, hM4⟩
      have HC4 : Hid (∀ k, k < q → w4.cell? ⟨w.heap.size, k, none⟩ = some (.int .u8 (z k))) := fun k hk => (hM4.below.cell (p := ⟨w.heap.size, k, none⟩) hsz3).trans (HC3.out k hk)
      have hb4 : Below w.heap.size w w4 := hb3.trans (hM4.below.mono (by omega))
      have hsz4 : w.heap.size < w4.heap.size := Nat.lt_of_lt_of_le hsz3 hM4.below.size
      go_wp2_with fail
      refine (HLf.out _ _ w4 rfl hM4).mono ?_
      rintro e w' ⟨rfl, hw⟩
      obtain rfl : w4 = w' := hw.symm
      clear HLf hM4 HC3
      go_wp2_with fail
      refine (val13 2 false w.heap.size 0 0 0 (fun i => z (q + i)) w4 (by omega) (fun i hi => absurd hi (by omega))).mono ?_
      rintro e w5 ⟨rfl, hM5⟩
      have hb5 : Below w.heap.size w w5 := hb4.trans (hM5.below.mono (by omega))
      go_wp2_with fail
      refine (HRt.out _ _ w5 rfl hM5).mono ?_
      rintro e w' ⟨rfl, hw⟩
      obtain rfl : w5 = w' := hw.symm
      clear HRt hM5 HC4
      go_wp2_with fail
      go_ret
      exact ⟨rfl, hb5⟩

set_option maxHeartbeats 2000000 in
theorem core_eq_ft (x : Addr) (n cap : Nat) (zs : List Int) (w : World) (hn : n ≤ 65536) (hcap : n ≤ cap) (hzl : zs.length = cap)
    (hcell : ∀ i, i < zs.length → w.cell? (x.add i) = some (.int .u8 (zs.getD i 0)))
    (hS : allSid (fun k => zs.getD k 0) n = true) (hw : (!false && allSid (fun k => zs.getD k 0) n) = true) (hl : (!false && allSid (fun k => zs.getD k 0) n) = true) (hr : (!false && allSid (fun i => zs.getD (n + i) 0) 0) = true) :
    Calls Try.prog 5 #[.bool false, .slice (some x) n cap, .int .i64 n] w fun e w' => e = .returned (.bool true) ∧ Below w.heap.size w w' := by
  obtain ⟨i0, hi, hz0, hz1, hz2⟩ := info_parts Try.info5
  have hnn := fun (w : World) => run_neq_slice_nil_any (P := Try.prog) w 27 5 (some x) n cap 0 0 Try.underlying27
  obtain ⟨cs, hcs⟩ : ∃ cs, cs = (zs.take n).map (Value.int .u8) := ⟨_, rfl⟩
  have hcl : cs.length = n := by rw [hcs]; simp; omega
  have hone : ∀ v ∈ cs, v.oneCell' = true := by rw [hcs]; exact ints_oneCell _ _
  obtain ⟨z, hzd⟩ : ∃ z : Nat → Int, z = fun k => zs.getD k 0 := ⟨_, rfl⟩
  have hzd2 : (fun i => zs.getD (n + i) 0) = fun i => z (n + i) := by rw [hzd]
  rw [hzd2] at hr
  rw [← hzd] at hS hw hl
  have HG : Hid (∀ k, k < n → cs[k]? = some (.int .u8 (z k))) := by
    intro k hk
    rw [hcs, hzd]
    exact ints_take zs n k hk (by omega)
  have HS : Hid (∀ w1 : World, Below w.heap.size w w1 → ∀ j v, cs[j]? = some v → w1.cell? (x.add j) = some v) := by
    intro w1 hb j v hj
    have hjl : j < cs.length := by
      rcases Nat.lt_or_ge j cs.length with h | h
      · exact h
      · rw [List.getElem?_eq_none h] at hj; cases hj
    have h1 := HG.out j (by omega)
    rw [h1] at hj
    have h2 := hcell j (by omega)
    have hlt : (x.add j).block < w.heap.size := block_lt_of_cell h2
    rw [hb.cell hlt, h2, ← hj, hzd]
  have HSS : Hid (allSid z n = true) := hS
  have HWh : Hid (∀ (p : Nat) (wa wr : World), p = wa.heap.size → Mid wa wr 2 false n n z → Calls Try.prog 12 #[.pointer (some ⟨p, 0, none⟩)] wr fun e w' => e = .returned (.bool true) ∧ w' = wr) := by
    rintro p wa wr rfl h
    have h2 := sid12_mid h (by omega)
    rwa [hw] at h2
  have HLf : Hid (∀ (p : Nat) (wa wr : World), p = wa.heap.size → Mid wa wr 2 false n n z → Calls Try.prog 12 #[.pointer (some ⟨p, 0, none⟩)] wr fun e w' => e = .returned (.bool true) ∧ w' = wr) := by
    rintro p wa wr rfl h
    have h2 := sid12_mid h (by omega)
    rwa [hl] at h2
  have HRt : Hid (∀ (p : Nat) (wa wr : World), p = wa.heap.size → Mid wa wr 2 false 0 0 (fun i => z (n + i)) → Calls Try.prog 12 #[.pointer (some ⟨p, 0, none⟩)] wr fun e w' => e = .returned (.bool true) ∧ w' = wr) := by
    rintro p wa wr rfl h
    have h2 := sid12_mid h (by omega)
    rwa [hr] at h2
  clear hcs hcell hzd hzd2 hS hw hl hr
  have g1 : ¬ (n : Int) < 0 := by omega
  have g2 : ¬ (n : Int) < n := by omega
  go_enter Try.func5, Try.ntmps5
  go_wp2_with fail
  refine (bytes11 _ _ _ _ _ _ (by omega)).mono ?_
  rintro e w' ⟨rfl, hw⟩
  obtain rfl : w = w' := hw.symm
  have hd1 : decide (n ≤ 1048576) = true := by simp; omega
  go_wp2_with (first | (refine wpList_make_full _ rfl (.tmp 33) (.tmp 33) 27 rfl w.heap.size 5 i0 _ 1 Try.underlying27 hi hz0 hz1 .i64 .i64 _ _ n rfl rfl (by simp) (by simp) (by rw [hz2]; omega) (by unfold maxLen; omega) (Nat.le_refl _) ?_; intro w1 hown1 hgrow1; obtain ⟨cur, hcur, hlen⟩ := made hown1; have hb1 : Below w.heap.size w w1 := (Below.refl _ _).grown hgrow1 (Nat.le_refl _) (by simp); have hs1 := HS.out w1 hb1) | (refine wpList_copy_splice rfl (.tmp 35) (.tmp 36) 27 27 rfl 5 Try.underlying27 (by kernel_rfl) (some ⟨w.heap.size, 0, none⟩) (some x) n n n cap rfl rfl w.heap.size 0 cur 5 hcur cs (by rw [hcl]; simp) (fun _ => ⟨rfl, x, rfl, hs1⟩) (by omega) hone w.heap.size w hb1 (Nat.le_refl _) ?_; intro w2 H2 hb2))
  have HC : Hid (∀ k, k < n → w2.cell? ⟨w.heap.size, k, none⟩ = some (.int .u8 (z k))) := by
    intro k hk
    rw [cell_of_row _ _ k _ _ _ H2.out]
    have := splice_get cur cs k (by omega)
    simp only [List.getElem?_toArray, this]
    exact HG.out k hk
  have hsz2 : w.heap.size < w2.heap.size := by
    have := H2.out
    rcases Nat.lt_or_ge w.heap.size w2.heap.size with h | h
    · exact h
    · rw [Array.getElem?_eq_none h] at this; cases this
  clear H2 hs1 hb1 hcur hlen hgrow1 hown1 HS HG hone hcl
  go_loop [8, 9] (fun s i => ∃ (q : Nat) (a : Bool), s = .bool a ∧ i = .int .i64 q ∧ q ≤ n ∧ Hid (allSid z q = a)) (fun _ i => n - (intOf i).toNat)
  case atStart => exact ⟨0, true, rfl, rfl, by omega, rfl⟩
  case round =>
    obtain ⟨q, a, rfl, rfl, hq, HA⟩ := hrel
    by_cases hlt : q < n
    · have cq := HC.out q hlt
      by_cases e7 : z q = 7
      · have H3 : Hid (allSid z (q + 1) = a) := by
          show (allSid z q && (z q == 7)) = a
          rw [HA.out, e7]; simp
        have e' : (z q != 7) = false := by simp [e7]
        clear e7 HA
        go_wp2
        go_round
        case rel => exact ⟨q + 1, a, rfl, by go_num, by omega, H3⟩
        case measure => simp [intOf]; omega
      · have H3 : Hid (allSid z (q + 1) = false) := by
          show (allSid z q && (z q == 7)) = false
          simp [e7]
        have e' : (z q != 7) = true := by simp [e7]
        clear e7 HA
        go_wp2
        go_round
        case rel => exact ⟨q + 1, false, rfl, by go_num, by omega, H3⟩
        case measure => simp [intOf]; omega
    · obtain rfl : q = n := by omega
      obtain rfl : a = true := HA.out.symm.trans HSS.out
      clear HA
      go_wp2_with fail
      refine (val13 2 false w.heap.size 0 q q z w2 (by omega) (fun i hi => by rw [Nat.zero_add]; exact HC.out i hi)).mono ?_
      rintro e w3 ⟨rfl, hM3⟩
      have HC3 : Hid (∀ k, k < q → w3.cell? ⟨w.heap.size, k, none⟩ = some (.int .u8 (z k))) := fun k hk => (hM3.below.cell (p := ⟨w.heap.size, k, none⟩) hsz2).trans (HC.out k hk)
      have hb3 : Below w.heap.size w w3 := hb2.trans (hM3.below.mono (by omega))
      have hsz3 : w.heap.size < w3.heap.size := Nat.lt_of_lt_of_le hsz2 hM3.below.size
      go_wp2_with fail
      refine (HWh.out _ _ w3 rfl hM3).mono ?_
      rintro e w' ⟨rfl, hw⟩
      obtain rfl : w3 = w' := hw.symm
      clear HWh hM3 HC
      go_wp2_with fail
      refine (val13 2 false w.heap.size 0 q q z w3 (by omega) (fun i hi => by rw [Nat.zero_add]; exact HC3.out i (by omega))).mono ?_
      rintro e w4 ⟨rfl, hM4⟩
      have HC4 : Hid (∀ k, k < q → w4.cell? ⟨w.heap.size, k, none⟩ = some (.int .u8 (z k))) := fun k hk => (hM4.below.cell (p := ⟨w.heap.size, k, none⟩) hsz3).trans (HC3.out k hk)
      have hb4 : Below w.heap.size w w4 := hb3.trans (hM4.below.mono (by omega))
      have hsz4 : w.heap.size < w4.heap.size := Nat.lt_of_lt_of_le hsz3 hM4.below.size
      go_wp2_with fail
      refine (HLf.out _ _ w4 rfl hM4).mono ?_
      rintro e w' ⟨rfl, hw⟩
      obtain rfl : w4 = w' := hw.symm
      clear HLf hM4 HC3
      go_wp2_with fail
      refine (val13 2 false w.heap.size 0 0 0 (fun i => z (q + i)) w4 (by omega) (fun i hi => absurd hi (by omega))).mono ?_
      rintro e w5 ⟨rfl, hM5⟩
      have hb5 : Below w.heap.size w w5 := hb4.trans (hM5.below.mono (by omega))
      go_wp2_with fail
      refine (HRt.out _ _ w5 rfl hM5).mono ?_
      rintro e w' ⟨rfl, hw⟩
      obtain rfl : w5 = w' := hw.symm
      clear HRt hM5 HC4
      go_wp2_with fail
      go_ret
      exact ⟨rfl, hb5⟩

set_option maxHeartbeats 2000000 in
theorem core_eq_t (S : Bool) (x : Addr) (n cap : Nat) (zs : List Int) (w : World) (hn : n ≤ 65536) (hcap : n ≤ cap) (hzl : zs.length = cap)
    (hcell : ∀ i, i < zs.length → w.cell? (x.add i) = some (.int .u8 (zs.getD i 0)))
    (hS : allSid (fun k => zs.getD k 0) n = S) (hw : (!true && allSid (fun k => zs.getD k 0) n) = false) (hl : (!true && allSid (fun k => zs.getD k 0) n) = false) (hr : (!true && allSid (fun i => zs.getD (n + i) 0) 0) = false) :
    Calls Try.prog 5 #[.bool true, .slice (some x) n cap, .int .i64 n] w fun e w' => e = .returned (.bool true) ∧ Below w.heap.size w w' := by
  obtain ⟨i0, hi, hz0, hz1, hz2⟩ := info_parts Try.info5
  have hnn := fun (w : World) => run_neq_slice_nil_any (P := Try.prog) w 27 5 (some x) n cap 0 0 Try.underlying27
  obtain ⟨cs, hcs⟩ : ∃ cs, cs = (zs.take n).map (Value.int .u8) := ⟨_, rfl⟩
  have hcl : cs.length = n := by rw [hcs]; simp; omega
  have hone : ∀ v ∈ cs, v.oneCell' = true := by rw [hcs]; exact ints_oneCell _ _
  obtain ⟨z, hzd⟩ : ∃ z : Nat → Int, z = fun k => zs.getD k 0 := ⟨_, rfl⟩
  have hzd2 : (fun i => zs.getD (n + i) 0) = fun i => z (n + i) := by rw [hzd]
  rw [hzd2] at hr
  rw [← hzd] at hS hw hl
  have HG : Hid (∀ k, k < n → cs[k]? = some (.int .u8 (z k))) := by
    intro k hk
    rw [hcs, hzd]
    exact ints_take zs n k hk (by omega)
  have HS : Hid (∀ w1 : World, Below w.heap.size w w1 → ∀ j v, cs[j]? = some v → w1.cell? (x.add j) = some v) := by
    intro w1 hb j v hj
    have hjl : j < cs.length := by
      rcases Nat.lt_or_ge j cs.length with h | h
      · exact h
      · rw [List.getElem?_eq_none h] at hj; cases hj
    have h1 := HG.out j (by omega)
    rw [h1] at hj
    have h2 := hcell j (by omega)
    have hlt : (x.add j).block < w.heap.size := block_lt_of_cell h2
    rw [hb.cell hlt, h2, ← hj, hzd]
  have HSS : Hid (allSid z n = S) := hS
  have HWh : Hid (∀ (p : Nat) (wa wr : World), p = wa.heap.size → Mid wa wr 2 true n n z → Calls Try.prog 12 #[.pointer (some ⟨p, 0, none⟩)] wr fun e w' => e = .returned (.bool false) ∧ w' = wr) := by
    rintro p wa wr rfl h
    have h2 := sid12_mid h (by omega)
    rwa [hw] at h2
  have HLf : Hid (∀ (p : Nat) (wa wr : World), p = wa.heap.size → Mid wa wr 2 true n n z → Calls Try.prog 12 #[.pointer (some ⟨p, 0, none⟩)] wr fun e w' => e = .returned (.bool false) ∧ w' = wr) := by
    rintro p wa wr rfl h
    have h2 := sid12_mid h (by omega)
    rwa [hl] at h2
  have HRt : Hid (∀ (p : Nat) (wa wr : World), p = wa.heap.size → Mid wa wr 2 true 0 0 (fun i => z (n + i)) → Calls Try.prog 12 #[.pointer (some ⟨p, 0, none⟩)] wr fun e w' => e = .returned (.bool false) ∧ w' = wr) := by
    rintro p wa wr rfl h
    have h2 := sid12_mid h (by omega)
    rwa [hr] at h2
  clear hcs hcell hzd hzd2 hS hw hl hr
  have g1 : ¬ (n : Int) < 0 := by omega
  have g2 : ¬ (n : Int) < n := by omega
  go_enter Try.func5, Try.ntmps5
  go_wp2_with fail
  refine (bytes11 _ _ _ _ _ _ (by omega)).mono ?_
  rintro e w' ⟨rfl, hw⟩
  obtain rfl : w = w' := hw.symm
  have hd1 : decide (n ≤ 1048576) = true := by simp; omega
  go_wp2_with (first | (refine wpList_make_full _ rfl (.tmp 33) (.tmp 33) 27 rfl w.heap.size 5 i0 _ 1 Try.underlying27 hi hz0 hz1 .i64 .i64 _ _ n rfl rfl (by simp) (by simp) (by rw [hz2]; omega) (by unfold maxLen; omega) (Nat.le_refl _) ?_; intro w1 hown1 hgrow1; obtain ⟨cur, hcur, hlen⟩ := made hown1; have hb1 : Below w.heap.size w w1 := (Below.refl _ _).grown hgrow1 (Nat.le_refl _) (by simp); have hs1 := HS.out w1 hb1) | (refine wpList_copy_splice rfl (.tmp 35) (.tmp 36) 27 27 rfl 5 Try.underlying27 (by kernel_rfl) (some ⟨w.heap.size, 0, none⟩) (some x) n n n cap rfl rfl w.heap.size 0 cur 5 hcur cs (by rw [hcl]; simp) (fun _ => ⟨rfl, x, rfl, hs1⟩) (by omega) hone w.heap.size w hb1 (Nat.le_refl _) ?_; intro w2 H2 hb2))
  have HC : Hid (∀ k, k < n → w2.cell? ⟨w.heap.size, k, none⟩ = some (.int .u8 (z k))) := by
    intro k hk
    rw [cell_of_row _ _ k _ _ _ H2.out]
    have := splice_get cur cs k (by omega)
    simp only [List.getElem?_toArray, this]
    exact HG.out k hk
  have hsz2 : w.heap.size < w2.heap.size := by
    have := H2.out
    rcases Nat.lt_or_ge w.heap.size w2.heap.size with h | h
    · exact h
    · rw [Array.getElem?_eq_none h] at this; cases this
  clear H2 hs1 hb1 hcur hlen hgrow1 hown1 HS HG hone hcl
  go_loop [8, 9] (fun s i => ∃ (q : Nat) (a : Bool), s = .bool a ∧ i = .int .i64 q ∧ q ≤ n ∧ Hid (allSid z q = a)) (fun _ i => n - (intOf i).toNat)
  case atStart => exact ⟨0, true, rfl, rfl, by omega, rfl⟩
  case round =>
    obtain ⟨q, a, rfl, rfl, hq, HA⟩ := hrel
    by_cases hlt : q < n
    · have cq := HC.out q hlt
      by_cases e7 : z q = 7
      · have H3 : Hid (allSid z (q + 1) = a) := by
          show (allSid z q && (z q == 7)) = a
          rw [HA.out, e7]; simp
        have e' : (z q != 7) = false := by simp [e7]
        clear e7 HA
        go_wp2
        go_round
        case rel => exact ⟨q + 1, a, rfl, by go_num, by omega, H3⟩
        case measure => simp [intOf]; omega
      · have H3 : Hid (allSid z (q + 1) = false) := by
          show (allSid z q && (z q == 7)) = false
          simp [e7]
        have e' : (z q != 7) = true := by simp [e7]
        clear e7 HA
        go_wp2
        go_round
        case rel => exact ⟨q + 1, false, rfl, by go_num, by omega, H3⟩
        case measure => simp [intOf]; omega
    · obtain rfl : q = n := by omega
      obtain rfl : a = S := HA.out.symm.trans HSS.out
      clear HA
      go_wp2_with fail
      refine (val13 2 true w.heap.size 0 q q z w2 (by omega) (fun i hi => by rw [Nat.zero_add]; exact HC.out i hi)).mono ?_
      rintro e w3 ⟨rfl, hM3⟩
      have HC3 : Hid (∀ k, k < q → w3.cell? ⟨w.heap.size, k, none⟩ = some (.int .u8 (z k))) := fun k hk => (hM3.below.cell (p := ⟨w.heap.size, k, none⟩) hsz2).trans (HC.out k hk)
      have hb3 : Below w.heap.size w w3 := hb2.trans (hM3.below.mono (by omega))
      have hsz3 : w.heap.size < w3.heap.size := Nat.lt_of_lt_of_le hsz2 hM3.below.size
      go_wp2_with fail
      refine (HWh.out _ _ w3 rfl hM3).mono ?_
      rintro e w' ⟨rfl, hw⟩
      obtain rfl : w3 = w' := hw.symm
      clear HWh hM3 HC
      go_wp2_with fail
      refine (val13 2 true w.heap.size 0 q q z w3 (by omega) (fun i hi => by rw [Nat.zero_add]; exact HC3.out i (by omega))).mono ?_
      rintro e w4 ⟨rfl, hM4⟩
      have HC4 : Hid (∀ k, k < q → w4.cell? ⟨w.heap.size, k, none⟩ = some (.int .u8 (z k))) := fun k hk => (hM4.below.cell (p := ⟨w.heap.size, k, none⟩) hsz3).trans (HC3.out k hk)
      have hb4 : Below w.heap.size w w4 := hb3.trans (hM4.below.mono (by omega))
      have hsz4 : w.heap.size < w4.heap.size := Nat.lt_of_lt_of_le hsz3 hM4.below.size
      go_wp2_with fail
      refine (HLf.out _ _ w4 rfl hM4).mono ?_
      rintro e w' ⟨rfl, hw⟩
      obtain rfl : w4 = w' := hw.symm
      clear HLf hM4 HC3
      go_wp2_with fail
      refine (val13 2 true w.heap.size 0 0 0 (fun i => z (q + i)) w4 (by omega) (fun i hi => absurd hi (by omega))).mono ?_
      rintro e w5 ⟨rfl, hM5⟩
      have hb5 : Below w.heap.size w w5 := hb4.trans (hM5.below.mono (by omega))
      go_wp2_with fail
      refine (HRt.out _ _ w5 rfl hM5).mono ?_
      rintro e w' ⟨rfl, hw⟩
      obtain rfl : w5 = w' := hw.symm
      clear HRt hM5 HC4
      go_wp2_with fail
      go_ret
      exact ⟨rfl, hb5⟩
end Go.Proofs.Qxb6617276a.fnIsSIDLiteralsSplitsAtAnyCut
