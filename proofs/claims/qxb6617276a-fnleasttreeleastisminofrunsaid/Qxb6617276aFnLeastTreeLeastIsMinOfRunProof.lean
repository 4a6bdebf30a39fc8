import Derived.Test.Qxb6617276aRows
import Derived.WalkKit
import Derived.ProofKit
import Derived.OpenShut
import Derived.ShutString
import Derived.ChangeOld
import Derived.Below
import Derived.Laws.CopyOwn
import Derived.WalkSpells
import Derived.Test.Qxb6617276aLeastWalks
namespace Go.Proofs.Qxb6617276a.fnLeastTreeLeastIsMinOfRun
open Go.ChangeShapes Go.WideShapes Go.ChangeAt Go.RowKit leastLaw
open Go.ChangeMaps (open_string shut_string)
set_option linter.unusedVariables false

theorem own : ownKnob Try.prog.godebug = none := by kernel_rfl
theorem laidOut : laidOutB Try.prog = true := by kernel_rfl

/-- WHAT THE WALK IS TOLD OF A SLICE OF INTEGERS THAT CAME IN: it is nil; or it leads to a row of 'cap' cells, the numbers 'zs' (the first 'len' are its elements, the rest its spare room), each fitting its kind. -/
def IsRow (k : IntKind) (w : World) (a : Option Addr) (len cap : Nat) (zs : List Int) : Prop :=
  (a = none ∧ len = 0 ∧ cap = 0 ∧ zs = []) ∨
  ∃ x, a = some x ∧ len ≤ cap ∧ cap ≤ maxLen ∧ zs.length = cap ∧ (∀ i, i < zs.length → w.cell? (x.add i) = some (.int k (zs.getD i 0))) ∧ ∀ n ∈ zs, (Lit.int k n).wf = true

theorem Try.info21 : (Try.prog.info? 21).map (fun i => (i.zero, i.size, i.bytes)) = some (some (.int .i32 0), 1, 4) := by kernel_rfl

theorem made {w : World} {base e g n cap : Nat} {xs : List Value} (h : w.ownsRow base e 1 (.slice (some ⟨g, 0, none⟩) n cap) n xs) : ∃ cur : List Value, w.heap[g]? = some (.cells cur.toArray e (0, 0)) ∧ n ≤ cur.length := by
  rcases h.2 with ⟨h', _⟩ | ⟨g', cap', cur, h', _, hg, hnc, _, hcs, _⟩
  · simp at h'
  · simp only [Value.slice.injEq, Option.some.injEq, Addr.mk.injEq, and_true, true_and] at h'
    obtain ⟨rfl, rfl⟩ := h'
    exact ⟨cur.toList, by simpa using hg, by simp; omega⟩

theorem splice_get (cur cs : List Value) (k : Nat) (hk : k < cs.length) : (splice cur 0 cs)[k]? = cs[k]? := by
  simp [splice, List.getElem?_append, hk]

theorem ints_take (zs : List Int) (n k : Nat) (hk : k < n) (hn : n ≤ zs.length) : ((zs.take n).map (Value.int .i32))[k]? = some (.int .i32 (zs.getD k 0)) := by
  simp [hk, List.getElem?_eq_getElem (show k < zs.length by omega)]

/-- The nil slice. -/
theorem walk_nil (a1 a2 : Int) (w : World) :
    Calls Try.prog 3 #[.slice none 0 0, .int .i64 a1, .int .i64 a2] w fun e w' => e = .returned (.bool true) ∧ w' = w := by
  have hnn := fun (w : World) => run_neq_slice_nil_any (P := Try.prog) w 22 21 none 0 0 0 0 Try.underlying22
  by_cases h1 : a1 < 0
  · go_enter Try.func3, Try.ntmps3
    go_wp2_with fail
    refine (bytes7 none 0 0 a1 a2 _ (by omega)).mono ?_
    rintro e w' ⟨rfl, hw⟩
    obtain rfl : w = w' := hw.symm
    go_wp2
    go_ret
    exact ⟨rfl, rfl⟩
  · by_cases h2 : a2 ≤ a1
    · go_enter Try.func3, Try.ntmps3
      go_wp2_with fail
      refine (bytes7 none 0 0 a1 a2 _ (by omega)).mono ?_
      rintro e w' ⟨rfl, hw⟩
      obtain rfl : w = w' := hw.symm
      go_wp2
      go_ret
      exact ⟨rfl, rfl⟩
    · have h3 : 0 < a2 := by omega
      go_enter Try.func3, Try.ntmps3
      go_wp2_with fail
      refine (bytes7 none 0 0 a1 a2 _ (by omega)).mono ?_
      rintro e w' ⟨rfl, hw⟩
      obtain rfl : w = w' := hw.symm
      go_wp2
      go_ret
      exact ⟨rfl, rfl⟩

/-- Too long, or of odd length. -/
theorem walk_out (x : Addr) (len cap : Nat) (a1 a2 : Int) (w : World) (hl : len ≤ 9223372036854775807) (h : 65536 < len ∨ len % 2 = 1) :
    Calls Try.prog 3 #[.slice (some x) len cap, .int .i64 a1, .int .i64 a2] w fun e w' => e = .returned (.bool true) ∧ w' = w := by
  by_cases h1 : len ≤ 1048576
  · by_cases h2 : 65536 < len
    · go_enter Try.func3, Try.ntmps3
      go_wp2_with fail
      refine (bytes7 _ _ _ _ _ _ hl).mono ?_
      rintro e w' ⟨rfl, hw⟩
      obtain rfl : w = w' := hw.symm
      go_wp2
      go_ret
      exact ⟨rfl, rfl⟩
    · have h3 : len % 2 = 1 := by omega
      have h4 : ((len : Int) % 2 != 0) = true := by rw [bne_iff_ne]; omega
      go_enter Try.func3, Try.ntmps3
      go_wp2_with fail
      refine (bytes7 _ _ _ _ _ _ hl).mono ?_
      rintro e w' ⟨rfl, hw⟩
      obtain rfl : w = w' := hw.symm
      go_wp2
      go_ret
      exact ⟨rfl, rfl⟩
  · go_enter Try.func3, Try.ntmps3
    go_wp2_with fail
    refine (bytes7 _ _ _ _ _ _ hl).mono ?_
    rintro e w' ⟨rfl, hw⟩
    obtain rfl : w = w' := hw.symm
    go_wp2
    go_ret
    exact ⟨rfl, rfl⟩

set_option maxHeartbeats 1000000 in
theorem walk_guard (x : Addr) (n cap : Nat) (zs : List Int) (a1 a2 : Int) (w : World) (hn : n ≤ 32768) (hcap : 2 * n ≤ cap) (hzl : zs.length = cap)
    (hcell : ∀ i, i < zs.length → w.cell? (x.add i) = some (.int .i32 (zs.getD i 0))) (hwz : ∀ q ∈ zs, (Lit.int .i32 q).wf = true) (hgd : a1 < 0 ∨ a2 ≤ a1 ∨ (n : Int) < a2) :
    Calls Try.prog 3 #[.slice (some x) (2 * n) cap, .int .i64 a1, .int .i64 a2] w fun e w' => e = .returned (.bool true) ∧ Below w.heap.size w w' := by
  have HGD : Hid (a1 < 0 ∨ a2 ≤ a1 ∨ (n : Int) < a2) := hgd
  clear hgd
  obtain ⟨i0, hi, hz0, hz1, hz2⟩ := info_parts Try.info21
  have hnn := fun (w : World) => run_neq_slice_nil_any (P := Try.prog) w 22 21 (some x) (2 * n) cap 0 0 Try.underlying22
  obtain ⟨cs, hcs⟩ : ∃ cs, cs = (zs.take (2 * n)).map (Value.int .i32) := ⟨_, rfl⟩
  have hcl : cs.length = 2 * n := by rw [hcs]; simp; omega
  have hone : ∀ v ∈ cs, v.oneCell' = true := by rw [hcs]; exact ints_oneCell _ _
  obtain ⟨z, hzd⟩ : ∃ z : Nat → Int, z = fun k => zs.getD k 0 := ⟨_, rfl⟩
  have HZ : Hid (∀ k, -2147483648 ≤ z k ∧ z k ≤ 2147483647) := by
    intro k
    have := range_i32 hwz k
    rw [hzd]
    simpa using this
  have HG : Hid (∀ k, k < 2 * n → cs[k]? = some (.int .i32 (z k))) := by
    intro k hk
    rw [hcs, hzd]
    exact ints_take zs (2 * n) k hk (by omega)
  have HS : Hid (∀ w1 : World, Below w.heap.size w w1 → ∀ j v, cs[j]? = some v → w1.cell? (x.add j) = some v) := by
    intro w1 hb j v hj
    have hjl : j < cs.length := by
      rcases Nat.lt_or_ge j cs.length with h | h
      · exact h
      · rw [List.getElem?_eq_none h] at hj; cases hj
    have h1 := HG.out j (by omega)
    rw [h1] at hj
    have h2 := hcell j (by omega)
    have hlt : (x.add j).block < w.heap.size := block_lt_of_cell h2
    rw [hb.cell hlt, h2, ← hj, hzd]
  clear hcs hcell hwz hzd
  go_enter Try.func3, Try.ntmps3
  go_wp2_with fail
  refine (bytes7 _ _ _ _ _ _ (by omega)).mono ?_
  rintro e w' ⟨rfl, hw⟩
  obtain rfl : w = w' := hw.symm
  have hd1 : decide (2 * n ≤ 1048576) = true := by simp; omega
  go_wp2_with (first | (refine wpList_make_full _ rfl (.tmp 27) (.tmp 27) 22 rfl w.heap.size 21 i0 _ 1 Try.underlying22 hi hz0 hz1 .i64 .i64 _ _ (2 * n) rfl rfl (by simp) (by simp) (by rw [hz2]; omega) (by unfold maxLen; omega) (Nat.le_refl _) ?_; intro w1 hown1 hgrow1; obtain ⟨cur, hcur, hlen⟩ := made hown1; have hb1 : Below w.heap.size w w1 := (Below.refl _ _).grown hgrow1 (Nat.le_refl _) (by simp); have hs1 := HS.out w1 hb1) | (refine wpList_copy_splice rfl (.tmp 29) (.tmp 30) 22 22 rfl 21 Try.underlying22 (by kernel_rfl) (some ⟨w.heap.size, 0, none⟩) (some x) (2 * n) (2 * n) (2 * n) cap rfl rfl w.heap.size 0 cur 21 hcur cs (by rw [hcl]; simp) (fun _ => ⟨rfl, x, rfl, hs1⟩) (by omega) hone w.heap.size w hb1 (Nat.le_refl _) ?_; intro w2 H2 hb2))
  all_goals first | (go_ret; exact ⟨rfl, hb2⟩) | (exfalso; have h := HGD.out; omega)

set_option maxHeartbeats 1000000 in
theorem walk_in (x : Addr) (n cap : Nat) (zs : List Int) (i j : Nat) (w : World) (hn : n ≤ 32768) (hcap : 2 * n ≤ cap) (hzl : zs.length = cap)
    (hcell : ∀ i, i < zs.length → w.cell? (x.add i) = some (.int .i32 (zs.getD i 0))) (hwz : ∀ q ∈ zs, (Lit.int .i32 q).wf = true) (hij : i < j) (hj : j ≤ n) :
    Calls Try.prog 3 #[.slice (some x) (2 * n) cap, .int .i64 i, .int .i64 j] w fun e w' => e = .returned (.bool true) ∧ Below w.heap.size w w' := by
  have g1 : ¬ (i : Int) < 0 := by omega
  have g2 : ¬ (j : Int) ≤ i := by omega
  have g3 : ¬ (n : Int) < j := by omega
  obtain ⟨i0, hi, hz0, hz1, hz2⟩ := info_parts Try.info21
  have hnn := fun (w : World) => run_neq_slice_nil_any (P := Try.prog) w 22 21 (some x) (2 * n) cap 0 0 Try.underlying22
  obtain ⟨cs, hcs⟩ : ∃ cs, cs = (zs.take (2 * n)).map (Value.int .i32) := ⟨_, rfl⟩
  have hcl : cs.length = 2 * n := by rw [hcs]; simp; omega
  have hone : ∀ v ∈ cs, v.oneCell' = true := by rw [hcs]; exact ints_oneCell _ _
  obtain ⟨z, hzd⟩ : ∃ z : Nat → Int, z = fun k => zs.getD k 0 := ⟨_, rfl⟩
  have HZ : Hid (∀ k, -2147483648 ≤ z k ∧ z k ≤ 2147483647) := by
    intro k
    have := range_i32 hwz k
    rw [hzd]
    simpa using this
  have HG : Hid (∀ k, k < 2 * n → cs[k]? = some (.int .i32 (z k))) := by
    intro k hk
    rw [hcs, hzd]
    exact ints_take zs (2 * n) k hk (by omega)
  have HS : Hid (∀ w1 : World, Below w.heap.size w w1 → ∀ j v, cs[j]? = some v → w1.cell? (x.add j) = some v) := by
    intro w1 hb j v hj
    have hjl : j < cs.length := by
      rcases Nat.lt_or_ge j cs.length with h | h
      · exact h
      · rw [List.getElem?_eq_none h] at hj; cases hj
    have h1 := HG.out j (by omega)
    rw [h1] at hj
    have h2 := hcell j (by omega)
    have hlt : (x.add j).block < w.heap.size := block_lt_of_cell h2
    rw [hb.cell hlt, h2, ← hj, hzd]
  clear hcs hcell hwz hzd
  go_enter Try.func3, Try.ntmps3
  go_wp2_with fail
  refine (bytes7 _ _ _ _ _ _ (by omega)).mono ?_
  rintro e w' ⟨rfl, hw⟩
  obtain rfl : w = w' := hw.symm
  have hd1 : decide (2 * n ≤ 1048576) = true := by simp; omega
  go_wp2_with (first | (refine wpList_make_full _ rfl (.tmp 27) (.tmp 27) 22 rfl w.heap.size 21 i0 _ 1 Try.underlying22 hi hz0 hz1 .i64 .i64 _ _ (2 * n) rfl rfl (by simp) (by simp) (by rw [hz2]; omega) (by unfold maxLen; omega) (Nat.le_refl _) ?_; intro w1 hown1 hgrow1; obtain ⟨cur, hcur, hlen⟩ := made hown1; have hb1 : Below w.heap.size w w1 := (Below.refl _ _).grown hgrow1 (Nat.le_refl _) (by simp); have hs1 := HS.out w1 hb1) | (refine wpList_copy_splice rfl (.tmp 29) (.tmp 30) 22 22 rfl 21 Try.underlying22 (by kernel_rfl) (some ⟨w.heap.size, 0, none⟩) (some x) (2 * n) (2 * n) (2 * n) cap rfl rfl w.heap.size 0 cur 21 hcur cs (by rw [hcl]; simp) (fun _ => ⟨rfl, x, rfl, hs1⟩) (by omega) hone w.heap.size w hb1 (Nat.le_refl _) ?_; intro w2 H2 hb2))
  have HC : Hid (∀ k, k < 2 * n → w2.cell? ⟨w.heap.size, k, none⟩ = some (.int .i32 (z k))) := by
    intro k hk
    rw [cell_of_row _ _ k _ _ _ H2.out]
    have := splice_get cur cs k (by omega)
    simp only [List.getElem?_toArray, this]
    exact HG.out k hk
  clear H2 hs1 hb1 hcur hlen hgrow1 hown1 HS HG hone hcl
  refine (wf8 _ _ n z _ (by omega) (by omega) HZ.out HC.out).mono ?_
  rintro e w' ⟨⟨b, rfl, hwf⟩, hw⟩
  obtain rfl : w2 = w' := hw.symm
  cases b
  · go_wp2
    go_ret
    exact ⟨rfl, hb2⟩
  have HWf : Hid (Wf z n) := hwf rfl
  clear hwf
  go_wp2_with fail
  refine (least9 _ _ n z i j _ (by omega) hij hj HWf.out HZ.out HC.out).mono ?_
  rintro e w' ⟨rfl, hw⟩
  obtain rfl : w2 = w' := hw.symm
  have c0 := HC.out (n + i) (by omega)
  obtain ⟨M, hM⟩ : ∃ M, M = mnr z (n + i) (j - i - 1) := ⟨_, rfl⟩
  rw [← hM]
  have HM : Hid (M = mnr z (n + i) (j - i - 1)) := hM
  clear hM
  go_wp2
  go_loop [10, 11] (fun x p => ∃ (q : Nat) (v : Int), p = .int .i64 q ∧ x = .int .i32 v ∧ n + i + 1 ≤ q ∧ q ≤ n + j ∧ -2147483648 ≤ v ∧ v ≤ 2147483647 ∧ Hid (v = mnr z (n + i) (q - (n + i + 1)))) (fun _ p => n + j - (intOf p).toNat)
  case atStart => exact ⟨n + i + 1, _, by go_num, rfl, by omega, by omega, (HZ.out _).1, (HZ.out _).2, by rw [Nat.sub_self]; rfl⟩
  case round =>
    obtain ⟨q, v, rfl, rfl, hq1, hq2, hv1, hv2, HV⟩ := hrel
    by_cases hlt : q < n + j
    · have cq := HC.out q (by omega)
      have zq := HZ.out q
      have H3 : Hid (min v (z q) = mnr z (n + i) (q + 1 - (n + i + 1))) := by
        show _ = _
        rw [show q + 1 - (n + i + 1) = q - (n + i + 1) + 1 by omega]
        simp only [mnr]
        rw [show n + i + (q - (n + i + 1)) + 1 = q by omega, ← HV.out]
      clear HV
      generalize z q = y at *
      by_cases hy : y < v
      · go_wp2
        go_round
        case rel => exact ⟨q + 1, y, by go_num, rfl, by omega, by omega, zq.1, zq.2, by have := H3.out; show _ = _; omega⟩
        case measure => simp [intOf]; omega
      · go_wp2
        go_round
        case rel => exact ⟨q + 1, v, by go_num, rfl, by omega, by omega, hv1, hv2, by have := H3.out; show _ = _; omega⟩
        case measure => simp [intOf]; omega
    · obtain rfl : q = n + j := by omega
      have e : (M == v) = true := by
        rw [beq_iff_eq, HM.out, HV.out]
        rw [show n + j - (n + i + 1) = j - i - 1 by omega]
      go_wp2
      go_ret
      exact ⟨rfl, hb2⟩

theorem walk (a0 : Option Addr) (len0 cap0 : Nat) (z0 : List Int) (a1 : Int) (a2 : Int) (w : World) (w0 : IsRow .i32 w a0 len0 cap0 z0) (w1 : (Lit.int .i64 a1).wf = true) (w2 : (Lit.int .i64 a2).wf = true) :
    Calls Try.prog 3 #[.slice a0 len0 cap0, .int .i64 a1, .int .i64 a2] w fun e w' => e = .returned (.bool true) ∧ Below w.heap.size w w' := by
  rcases w0 with ⟨rfl, rfl, rfl, rfl⟩ | ⟨x, rfl, hl, hm, hzl, hcell, hwz⟩
  · refine (walk_nil a1 a2 w).mono ?_
    rintro e w' ⟨rfl, rfl⟩
    exact ⟨rfl, Below.refl _ _⟩
  · by_cases ho : 65536 < len0 ∨ len0 % 2 = 1
    · refine (walk_out x len0 cap0 a1 a2 w (by unfold maxLen at hm; omega) ho).mono ?_
      rintro e w' ⟨rfl, rfl⟩
      exact ⟨rfl, Below.refl _ _⟩
    · obtain ⟨n, rfl⟩ : ∃ n, len0 = 2 * n := ⟨len0 / 2, by omega⟩
      by_cases hg : a1 < 0 ∨ a2 ≤ a1 ∨ (n : Int) < a2
      · exact walk_guard x n cap0 z0 a1 a2 w (by omega) hl hzl hcell hwz hg
      · obtain ⟨i, rfl⟩ := Int.eq_ofNat_of_zero_le (show 0 ≤ a1 by omega)
        obtain ⟨j, rfl⟩ := Int.eq_ofNat_of_zero_le (show 0 ≤ a2 by omega)
        exact walk_in x n cap0 z0 i j w (by omega) hl hzl hcell hwz (by omega) (by omega)

/-! ### THE ROW's STEP: WRITTEN OUT: LEAVE IT -/
set_option maxRecDepth 100000 in
theorem lifted (os : Os) (started : os.Started) (H : Type) (enc : TypeId × Value → H) :
    ReturnsInHanded {} Try.checked os 3 .any (Rows.fnLeastTreeLeastIsMinOfRunSpec.pre6 enc Try.prog Try.f3 Rows.fnLeastTreeLeastIsMinOfRunRow.domain false) (Rows.fnLeastTreeLeastIsMinOfRunSpec.post enc Try.prog Try.f3 false true false false) := by
  refine returnsInHanded_of_change (C := Try.checked) own started (by kernel_rfl) Try.func3
    (ChangeSpec.witness6 (enc := enc) (C := Try.checked) false ⟨#[], #[.slice none 0 0, .int .i64 0, .int .i64 0], []⟩ 8 (by kernel_rfl) (by kernel_rfl) (by kernel_rfl) (by kernel_rfl)) ?_
  intro W base args ds gs before hval0 hW hcnd _
  have hval : ∀ (j : Nat) t v, Try.f3.params[j]? = some t → args[j]? = some v → Value.okWide Try.prog W .any base t v := hval0
  have hW' := hW
  obtain ⟨p, q, hA0, hV, rfl, hfz, hnd⟩ := hW
  have hA : DataW.TrodAll enc Try.prog W 0 (fun _ => true) true Try.f3.params.toList args.toList ds p := hA0
  rw [Try.params3] at hA hval
  obtain ⟨v0, vs0, d0, ds0, p0, q0, hargs, rfl, rfl, h0, r0⟩ := trodAll_cons hA
  obtain ⟨v1, vs1, d1, ds1, p1, q1, rfl, rfl, rfl, h1, r1⟩ := trodAll_cons r0
  obtain ⟨v2, vs2, d2, ds2, p2, q2, rfl, rfl, rfl, h2, r2⟩ := trodAll_cons r1
  obtain ⟨rfl, rfl, rfl⟩ := trodAll_nil r2
  obtain rfl : args = #[v0, v1, v2] := by cases args; simp_all
  obtain ⟨rfl, rfl⟩ := trodVars_none hV
  obtain ⟨a0, len0, cap0, rfl⟩ := okWide_slice Try.underlying22 (hval 0 22 v0 rfl rfl)
  have k0 := h0
  have lt0 : ∀ x ∈ p0, x.block < W.heap.size := by obtain ⟨m, hm⟩ := k0; exact DataW.trod_lt m _ _ _ hm
  obtain ⟨z0, w0⟩ : ∃ zs, IsRow .i32 W a0 len0 cap0 zs := by
    obtain ⟨fuel, hf⟩ := h0
    rcases open_ints Try.underlying22 Try.underlying21 (by kernel_rfl) hf with ⟨hcs, _⟩ | ⟨x, l, c, zs, hcs, _, hl, hm, hz, _, hcell, hwz⟩
    · simp [Value.cells] at hcs
      obtain ⟨rfl, rfl, rfl⟩ := hcs
      exact ⟨[], .inl ⟨rfl, rfl, rfl, rfl⟩⟩
    · simp [Value.cells] at hcs
      obtain ⟨rfl, rfl, rfl⟩ := hcs
      exact ⟨zs, .inr ⟨_, rfl, hl, hm, by simpa using hz, hcell, hwz⟩⟩
  obtain ⟨a1, rfl, rfl, rfl, w1⟩ := open_int Try.underlying3 (hval 1 3 v1 rfl rfl) h1
  obtain ⟨a2, rfl, rfl, rfl, w2⟩ := open_int Try.underlying3 (hval 2 3 v2 rfl rfl) h2
  clear hA0 hval0
  refine (walk a0 len0 cap0 z0 a1 a2 W w0 w1 w2).mono fun e W' ⟨he, bel⟩ => ?_
  subst he
  exact ⟨_, rfl, _, _, _, [], _, [], hW', trodAll_mk1 (shut_bool Try.underlying4 _), (trodAll_cons_mk (Below.trod laidOut (by kernel_rfl) (of_decide_eq_true (by kernel_rfl)) k0 bel lt0) (trodAll_cons_mk (shut_int Try.underlying3 w1) (trodAll_cons_mk (shut_int Try.underlying3 w2) trodAll_mk0))), rfl, bel.frame _, fun h => by cases h⟩

theorem over : Rows.fnLeastTreeLeastIsMinOfRunRow.holds Try.pinned (OpenSpec.ofChange Rows.fnLeastTreeLeastIsMinOfRunSpec) :=
  OpenClaim.holds_of_wide 3 Try.f3 rfl rfl rfl rfl rfl rfl rfl ⟨rfl, rfl, rfl, rfl, rfl⟩ rfl rfl rfl rfl rfl (by kernel_rfl) Try.func3 (by kernel_rfl)
    (of_decide_eq_true (by kernel_rfl)) (by unfold Func.isWrapper; first | (rw [if_pos (by decide +kernel)]; kernel_rfl) | (rw [if_neg (by decide +kernel)]; exact ⟨rfl, rfl⟩))
    (fun os started H enc _ => lifted os started H enc)

/-- ████ THE STATEMENT ████ -/
theorem proved : Rows.FnLeastTreeLeastIsMinOfRunSaid := over
#print axioms proved
end Go.Proofs.Qxb6617276a.fnLeastTreeLeastIsMinOfRun
