/-
  The contracts on the road of FnScriptIsFreshBuffer: zzBytes (4), cloneBytesB1 (5), ZZScript (6), eqBytesB1 (7), (template).script (8).
-/
import Derived.Test.Qxb6617522aRows
import Derived.WalkKit
import Derived.WalkLawsBesides
import Derived.WalkSpells
import Derived.ProofKit
import Derived.OpenShut
import Derived.Below
import Derived.Deep.QuietTactic
import Derived.BigQuiet
import Derived.Deep.RegionHeld3
import Derived.Deep.AppendLies
namespace Go.Proofs.Qxb6617522a.script
open Go.ChangeShapes Go.WideShapes Go.ChangeAt Go.RowKit

/-- The ending is a bool, whichever. -/
def SomeBool (e : Ending) : Prop := ∃ b : Bool, e = .returned (.bool b)

set_option maxHeartbeats 400000 in
theorem bytes4 (a0 a1 a2 : Option Addr) (l0 l1 l2 c0 c1 c2 : Nat) (w : World) (h0 : l0 ≤ 9223372036854775807) (h1 : l1 ≤ 9223372036854775807) (h2 : l2 ≤ 9223372036854775807) :
    Calls Try.prog 4 #[.slice a0 l0 c0, .slice a1 l1 c1, .slice a2 l2 c2] w fun e w' => SomeBool e ∧ w' = w := by
  go_enter Try.func4, Try.ntmps4
  go_wp2
  all_goals
    go_ret
    exact ⟨⟨_, rfl⟩, rfl⟩

theorem Try.info5 : (Try.prog.info? 5).map (fun i => (i.zero, i.size, i.bytes)) = some (some (.int .u8 0), 1, 1) := by kernel_rfl

/-- A slice of bytes that some call made: nil, or the whole of a block from its head on, holding 'zs'. -/
structure Row (w : World) (a : Option Addr) (n c : Nat) (zs : List Int) : Prop where
  len : zs.length = n
  shape : (a = none ∧ n = 0 ∧ c = 0) ∨ ∃ g, a = some ⟨g, 0, none⟩ ∧ g < w.heap.size ∧ ∀ i, i < n → w.cell? ⟨g, i, none⟩ = some (.int .u8 (zs.getD i 0))

theorem Row.keep {w w' : World} {a : Option Addr} {n c : Nat} {zs : List Int} (h : Row w a n c zs) (hb : Below w.heap.size w w') : Row w' a n c zs := by
  refine ⟨h.len, ?_⟩
  rcases h.shape with h1 | ⟨g, h1, h2, h3⟩
  · exact .inl h1
  · exact .inr ⟨g, h1, Nat.lt_of_lt_of_le h2 hb.size, fun i hi => (hb.cell (p := ⟨g, i, none⟩) h2).trans (h3 i hi)⟩

/-! ### eqBytesB1 on two slices that hold the same bytes -/
theorem eq7_nil (c d : Nat) (a b : Option Addr) (w : World) :
    Calls Try.prog 7 #[.slice a 0 c, .slice b 0 d] w fun e w' => e = .returned (.bool true) ∧ ∃ m, w' = w.drewN m := by
  go_enter Try.func7, Try.ntmps7
  go_wp2
  go_loop [5] (fun i => i = .int .i64 0) (fun _ => 0)
  case atStart => rfl
  case round =>
    subst hrel
    go_wp2
    go_ret
    exact ⟨rfl, 0, rfl⟩

/-- Only draws lie between. -/
def Drawn (w w' : World) : Prop := ∃ n, w' = w.drewN n
theorem Drawn.refl (w : World) : Drawn w w := ⟨0, rfl⟩
theorem Drawn.next {w w' : World} (h : Drawn w w') (n : Nat) : Drawn w (w'.drewN n) := by
  obtain ⟨m, rfl⟩ := h
  exact ⟨m + n, by rw [World.drewN_drewN]⟩
theorem Drawn.cell {w w' : World} (h : Drawn w w') {a : Addr} {v : Option Value} (hc : w.cell? a = v) : w'.cell? a = v := by
  obtain ⟨m, rfl⟩ := h
  exact hc
theorem Drawn.below {w w' : World} (h : Drawn w w') (B : Nat) : Below B w w' := by
  obtain ⟨m, rfl⟩ := h
  exact ⟨rfl, rfl, rfl, Nat.le_refl _, fun _ _ => rfl⟩

set_option maxHeartbeats 400000 in
theorem eq7_some (n c d g h : Nat) (f : Nat → Int) (w : World) (hn : n ≤ 1048576) (hg : ∀ i, i < n → w.cell? ⟨g, i, none⟩ = some (.int .u8 (f i))) (hh : ∀ i, i < n → w.cell? ⟨h, i, none⟩ = some (.int .u8 (f i))) :
    Calls Try.prog 7 #[.slice (some ⟨g, 0, none⟩) n c, .slice (some ⟨h, 0, none⟩) n d] w fun e w' => e = .returned (.bool true) ∧ Drawn w w' := by
  have HG : Hid (∀ i, i < n → w.cell? ⟨g, i, none⟩ = some (.int .u8 (f i))) := hg
  have HH : Hid (∀ i, i < n → w.cell? ⟨h, i, none⟩ = some (.int .u8 (f i))) := hh
  clear hg hh
  go_enter Try.func7, Try.ntmps7
  go_wp2
  go_loopw [5] (fun i wr => ∃ k : Nat, i = .int .i64 k ∧ k ≤ n ∧ Drawn w wr) (fun i _ => n - (intOf i).toNat)
  case atStart => exact ⟨0, rfl, by omega, Drawn.refl _⟩
  case round =>
    obtain ⟨k, rfl, hk, hD⟩ := hrel
    by_cases hlt : k < n
    · have c1 := hD.cell (HG.out k hlt)
      have c2 := hD.cell (HH.out k hlt)
      have i0 : (0 : Int) ≤ (k : Int) := by omega
      have i1 : (k : Int) < (n : Int) := by omega
      go_wp2_with fail
      go_quiet (fail)
      go_wp2_with fail
      go_roundw
      case rel => exact ⟨k + 1, by go_num, by omega, hD.next _⟩
      case measure => simp [intOf]; omega
    · obtain rfl : k = n := by omega
      go_wp2
      go_ret
      exact ⟨rfl, hD⟩

theorem eq7 {w : World} {a b : Option Addr} {n c d : Nat} {zs : List Int} (ha : Row w a n c zs) (hb : Row w b n d zs) (hn : n ≤ 1048576) :
    Calls Try.prog 7 #[.slice a n c, .slice b n d] w fun e w' => e = .returned (.bool true) ∧ Drawn w w' := by
  by_cases h0 : n = 0
  · subst h0
    exact eq7_nil c d a b w
  · rcases ha.shape with ⟨_, h, _⟩ | ⟨g, rfl, _, h1⟩
    · omega
    · rcases hb.shape with ⟨_, h, _⟩ | ⟨h, rfl, _, h2⟩
      · omega
      · exact eq7_some n c d g h (fun i => zs.getD i 0) w hn h1 h2

/-! ### cloneBytesB1 -/
/-- The clone in the making: its first k bytes are laid. -/
structure Mid (w wr : World) (n k : Nat) (f : Nat → Int) : Prop where
  below : Below w.heap.size w wr
  own : ∃ xs, wr.ownsRow w.heap.size 5 1 (.slice (some ⟨w.heap.size, 0, none⟩) n n) n xs ∧ ∀ q, q < k → xs[q]? = some (.int .u8 (f q))

theorem Mid.cell {w wr : World} {n k : Nat} {f : Nat → Int} (h : Mid w wr n k f) (q : Nat) (hq : q < n) : ∃ v, wr.cell? ⟨w.heap.size, q, none⟩ = some v ∧ wr.frozen? ⟨w.heap.size, q, none⟩ = false := by
  obtain ⟨xs, ho, _⟩ := h.own
  have hl := ho.1
  refine ⟨xs[q]'(by omega), ?_, ho.frozenAt _⟩
  rw [ho.cellAt _ (by omega), List.getElem?_eq_getElem]

theorem Mid.next {w wr : World} {n k : Nat} {f : Nat → Int} (h : Mid w wr n k f) (hk : k < n) : Mid w (wr.setCell ⟨w.heap.size, k, none⟩ (.int .u8 (f k))) n (k + 1) f := by
  obtain ⟨xs, ho, hx⟩ := h.own
  obtain ⟨ho', _⟩ := ho.stored k (.int .u8 (f k))
  refine ⟨h.below.setCell (Nat.le_refl _) _, xs.set k (.int .u8 (f k)), ho', ?_⟩
  intro q hq
  have hl := ho.1
  rw [List.getElem?_set]
  by_cases e : k = q
  · subst e
    simp
    omega
  · rw [if_neg e]
    exact hx q (by omega)

theorem Mid.row {w wr : World} {n : Nat} {zs : List Int} (h : Mid w wr n n (fun i => zs.getD i 0)) (hl : zs.length = n) : Row wr (some ⟨w.heap.size, 0, none⟩) n n zs := by
  obtain ⟨xs, ho, hx⟩ := h.own
  refine ⟨hl, .inr ⟨w.heap.size, rfl, (ho.lt _ rfl).2, fun i hi => ?_⟩⟩
  rw [ho.cellAt _ (by omega)]
  exact hx i hi

theorem clone5_nil (w : World) :
    Calls Try.prog 5 #[.slice none 0 0] w fun e w' => e = .returned (.slice none 0 0) ∧ w' = w := by
  have hnn := fun (w : World) => Lib.run_eql_slice_nil (P := Try.prog) w 22 5 none 0 0 0 0 Try.underlying22
  go_enter Try.func5, Try.ntmps5
  go_wp2
  go_ret
  exact ⟨rfl, rfl⟩

theorem clone5_zero (x : Addr) (cap : Nat) (f : Nat → Int) (w : World) :
    Calls Try.prog 5 #[.slice (some x) 0 cap] w fun e w' => e = .returned (.slice (some ⟨w.heap.size, 0, none⟩) 0 0) ∧ Mid w w' 0 0 f := by
  obtain ⟨i0, hi, hz0, hz1, hz2⟩ := info_parts Try.info5
  have hnn := fun (w : World) => Lib.run_eql_slice_nil (P := Try.prog) w 22 5 (some x) 0 cap 0 0 Try.underlying22
  go_enter Try.func5, Try.ntmps5
  go_wp2_with (refine wpList_make_full _ rfl (.tmp 8) (.tmp 8) 22 rfl w.heap.size 5 i0 _ 1 Try.underlying22 hi hz0 hz1 .i64 .i64 _ _ 0 rfl rfl rfl rfl (by omega) (by decide) (Nat.le_refl _) ?_; intro w1 hown1 hgrow1)
  have HM : Hid (Mid w w1 0 0 f) := ⟨(Below.refl _ _).grown hgrow1 (Nat.le_refl _) (by simp), _, hown1, fun q hq => by omega⟩
  clear hown1 hgrow1
  go_loop [4] (fun i => i = .int .i64 0) (fun _ => 0)
  case atStart => rfl
  case round =>
    subst hrel
    go_wp2
    go_ret
    exact ⟨rfl, HM.out⟩

set_option maxHeartbeats 400000 in
theorem clone5_pos (b off n cap : Nat) (f : Nat → Int) (w : World) (hn : n ≤ 1048576) (hc : ∀ i, i < n → w.cell? ⟨b, off + i, none⟩ = some (.int .u8 (f i))) :
    Calls Try.prog 5 #[.slice (some ⟨b, off, none⟩) n cap] w fun e w' => e = .returned (.slice (some ⟨w.heap.size, 0, none⟩) n n) ∧ Mid w w' n n f := by
  obtain ⟨i0, hi, hz0, hz1, hz2⟩ := info_parts Try.info5
  have hnn := fun (w : World) => Lib.run_eql_slice_nil (P := Try.prog) w 22 5 (some ⟨b, off, none⟩) n cap 0 0 Try.underlying22
  have HC : Hid (∀ i, i < n → w.cell? ⟨b, off + i, none⟩ = some (.int .u8 (f i))) := hc
  clear hc
  go_enter Try.func5, Try.ntmps5
  go_wp2_with (refine wpList_make_full _ rfl (.tmp 8) (.tmp 8) 22 rfl w.heap.size 5 i0 _ 1 Try.underlying22 hi hz0 hz1 .i64 .i64 _ _ n rfl rfl rfl rfl (by rw [hz2]; omega) (by unfold maxLen; omega) (Nat.le_refl _) ?_; intro w1 hown1 hgrow1)
  have HM : Hid (Mid w w1 n 0 f) := ⟨(Below.refl _ _).grown hgrow1 (Nat.le_refl _) (by simp), _, hown1, fun q hq => by omega⟩
  clear hown1 hgrow1
  go_loopw [4] (fun i wr => ∃ q : Nat, i = .int .i64 q ∧ q ≤ n ∧ Hid (Mid w wr n q f)) (fun i _ => n - (intOf i).toNat)
  case atStart => exact ⟨0, rfl, by omega, HM⟩
  case round =>
    obtain ⟨q, rfl, hq, HQ⟩ := hrel
    by_cases hlt : q < n
    · have hgb : b < w.heap.size := block_lt_of_cell (HC.out q hlt)
      have cq : wr.cell? ⟨b, off + q, none⟩ = some (.int .u8 (f q)) := (HQ.out.below.cell (p := ⟨b, off + q, none⟩) hgb).trans (HC.out q hlt)
      obtain ⟨v0, cv, fv⟩ := HQ.out.cell q hlt
      go_wp2
      go_roundw
      case rel => exact ⟨q + 1, by go_num, by omega, HQ.out.next hlt⟩
      case measure => simp [intOf]; omega
    · obtain rfl : q = n := by omega
      go_wp2
      go_ret
      exact ⟨rfl, HQ.out⟩

/-- WHAT THE WALK IS TOLD OF A SLICE OF INTEGERS THAT CAME IN: it is nil; or it leads to a row of 'cap' cells, the numbers 'zs' (the first 'len' are its elements, the rest its spare room), each fitting its kind. -/
def IsRow (k : IntKind) (w : World) (a : Option Addr) (len cap : Nat) (zs : List Int) : Prop :=
  (a = none ∧ len = 0 ∧ cap = 0 ∧ zs = []) ∨
  ∃ x, a = some x ∧ len ≤ cap ∧ cap ≤ maxLen ∧ zs.length = cap ∧ (∀ i, i < zs.length → w.cell? (x.add i) = some (.int k (zs.getD i 0))) ∧ ∀ n ∈ zs, (Lit.int k n).wf = true

theorem IsRow.keep {k : IntKind} {w w' : World} {a : Option Addr} {len cap : Nat} {zs : List Int} (h : IsRow k w a len cap zs) (hb : Below w.heap.size w w') : IsRow k w' a len cap zs := by
  rcases h with h | ⟨x, h1, h2, h3, h4, h5, h6⟩
  · exact .inl h
  · exact .inr ⟨x, h1, h2, h3, h4, fun i hi => (hb.cell (block_lt_of_cell (h5 i hi))).trans (h5 i hi), h6⟩

theorem take_getD (zs : List Int) (n i : Nat) (h : i < n) : (zs.take n).getD i 0 = zs.getD i 0 := by
  simp [List.getD, h]

theorem clone5 {w : World} {a : Option Addr} {n c : Nat} {zs : List Int} (h : IsRow .u8 w a n c zs) (hn : n ≤ 1048576) :
    Calls Try.prog 5 #[.slice a n c] w fun e w' => ∃ a' c', e = .returned (.slice a' n c') ∧ Row w' a' n c' (zs.take n) ∧ Below w.heap.size w w' := by
  rcases h with ⟨rfl, rfl, rfl, rfl⟩ | ⟨x, rfl, h2, h3, h4, h5, h6⟩
  · refine (clone5_nil w).mono ?_
    rintro e w' ⟨rfl, rfl⟩
    exact ⟨none, 0, rfl, ⟨rfl, .inl ⟨rfl, rfl, rfl⟩⟩, Below.refl _ _⟩
  · by_cases h0 : n = 0
    · subst h0
      refine (clone5_zero x c (fun i => (zs.take 0).getD i 0) w).mono ?_
      rintro e w' ⟨rfl, hM⟩
      exact ⟨_, _, rfl, hM.row (by simp), hM.below⟩
    · obtain ⟨b, off, spot⟩ := x
      have hspot : spot = none := by simpa [Addr.add] using World.cell?_spot (h5 0 (by omega))
      subst hspot
      refine (clone5_pos b off n c (fun i => (zs.take n).getD i 0) w hn ?_).mono ?_
      · intro i hi
        rw [take_getD zs n i hi, ← add_plain]
        exact h5 i (by omega)
      · rintro e w' ⟨rfl, hM⟩
        exact ⟨_, _, rfl, hM.row (by simp; omega), hM.below⟩

/-! ### (template).script: three appends within the capacity, in one region that draws its order -/
/-- 'append' WITHIN THE CAPACITY, whatever the shape of what is appended, AS ONE STEP OF A REGION THAT DRAWS. -/
theorem step_append_fits_any {P : Program} (w : World) {ops : Array Oper} {o : Oper} {a : Act} {K : Act → World → Prop} {Q : Exit → Act → World → Prop} {E : Prop}
    (hg : o.guard = none) (s x : Operand) (t : TypeId) (hop : o.op = Op.call { callee := Callee.builtin Builtin.append, args := #[s, x], argTypes := #[t, t] })
    (base : Nat) (e : TypeId) (i : TypeInfo) (size : Nat) (h1 : P.underlying t = some (.slice e)) (h2 : P.info? e = some i) (h4 : i.size = size)
    (g k cap : Nat) (xs : List Value) (hs : a.eval s = .slice (some ⟨g, 0, none⟩) k cap) (hown : w.ownsRow base e size (.slice (some ⟨g, 0, none⟩) k cap) k xs) (ao : Option Addr) (m c : Nat) (news : List Value) (hx : a.eval x = .slice ao m c) (hn : news.length = m * size)
    (hnone : ao = none → m = 0 ∧ c = 0) (hc : ∀ ad, ao = some ad → ∀ j u, news[j]? = some u → w.cell? (ad.add j) = some u) (h1c : ∀ u ∈ news, u.oneCell' = true) (b1 : k + m ≤ cap)
    (hK : ∀ w', w'.ownsRow base e size (.slice (some ⟨g, 0, none⟩) (k + m) cap) (k + m) (xs ++ news) → w.grownBy w' (some g) → K (a.put o.dst (.slice (some ⟨g, 0, none⟩) (k + m) cap)) w') :
    if Region.wanted o (yielded ops a.tmps) = true then Oper.wp P o a w K Q else E := by
  have hw : Region.wanted o (yielded ops a.tmps) = true := by simp [Region.wanted, hg]
  rw [if_pos hw]
  cases ao with
  | some ad =>
    obtain ⟨w', hrun, r1, r2⟩ := run_append_fits (P := P) w base t o.type e i size h1 h2 h4 g k cap xs hown ad m c news hn (hc ad rfl) h1c b1
    unfold Oper.wp
    simp [execOp, hop, resolve, invoke, builtin, hs, hx, hrun, Result.andThen]
    exact hK w' r1 r2
  | none =>
    obtain ⟨rfl, rfl⟩ := hnone rfl
    have hnews : news = [] := List.eq_nil_of_length_eq_zero (by simpa using hn)
    subst hnews
    have hrun := run_append_owned_none (P := P) w base t o.type e i size h1 h2 _ k xs hown
    unfold Oper.wp
    simp [execOp, hop, resolve, invoke, builtin, hs, hx, hrun, Result.andThen]
    exact hK w (by simpa using hown) (World.grownBy.refl _ _)

/-- What is appended lies there, in every later world. -/
def SrcOk (w : World) (a : Option Addr) (news : List Value) : Prop := ∀ w', Below w.heap.size w w' → ∀ ad, a = some ad → ∀ j u, news[j]? = some u → w'.cell? (ad.add j) = some u

theorem Row.src {w : World} {a : Option Addr} {n c : Nat} {zs : List Int} (h : Row w a n c zs) : SrcOk w a (zs.map (Value.int .u8)) := by
  intro w' hb ad had j u hu
  rcases h.shape with ⟨rfl, _⟩ | ⟨g, rfl, hg, hc⟩
  · cases had
  · obtain rfl := Option.some.inj had
    have hj : j < zs.length := by
      have := (List.getElem?_eq_some_iff.1 hu).1
      simpa using this
    have hl := h.len
    rw [add_plain, Nat.zero_add]
    rw [hb.cell (p := ⟨g, j, none⟩) hg, hc j (by omega), ← hu]
    simp [List.getD, List.getElem?_eq_getElem hj]

theorem Row.none {w : World} {a : Option Addr} {n c : Nat} {zs : List Int} (h : Row w a n c zs) : a = none → n = 0 ∧ c = 0 := by
  rintro rfl
  rcases h.shape with ⟨_, h1, h2⟩ | ⟨g, h, _⟩
  · exact ⟨h1, h2⟩
  · cases h

theorem far_box {w w1 : World} {cs : Array Value} {t : TypeId} {row : Option Nat} (hg : (w.alloc (.cells cs t)).grownBy w1 row) (hr : row ≠ some w.heap.size) (k : Nat) : w1.cell? ⟨w.heap.size, k, none⟩ = cs[k]? := by
  rw [hg.cell_far ⟨w.heap.size, k, none⟩ (by simp) (Ne.symm hr)]
  simp

set_option maxRecDepth 100000 in
set_option maxHeartbeats 2000000 in
theorem script8 (pa sa ha : Option Addr) (pl sl hl pc sc hc : Nat) (zp zs zh : List Int) (w : World) (hp : Row w pa pl pc zp) (hs : Row w sa sl sc zs) (hh : Row w ha hl hc zh) (bp : pl ≤ 262144) (bs : sl ≤ 262144) (bh : hl ≤ 262144) :
    Calls Try.prog 8 #[.agg #[.slice pa pl pc, .slice sa sl sc], .slice ha hl hc] w fun e w' => ∃ g c, e = .returned (.slice (some ⟨g, 0, none⟩) (pl + hl + sl) c) ∧ w.heap.size ≤ g ∧
      w'.ownsRow w.heap.size 5 1 (.slice (some ⟨g, 0, none⟩) (pl + hl + sl) c) (pl + hl + sl) ((zp.map (Value.int .u8) ++ zh.map (Value.int .u8)) ++ zs.map (Value.int .u8)) ∧ Below w.heap.size w w' := by
  obtain ⟨i0, hi, hz0, hz1, hz2⟩ := info_parts Try.info5
  have HP : Hid (SrcOk w pa (zp.map (Value.int .u8))) := hp.src
  have HS : Hid (SrcOk w sa (zs.map (Value.int .u8))) := hs.src
  have HH : Hid (SrcOk w ha (zh.map (Value.int .u8))) := hh.src
  have np : Hid (pa = none → pl = 0 ∧ pc = 0) := hp.none
  have ns : Hid (sa = none → sl = 0 ∧ sc = 0) := hs.none
  have nh : Hid (ha = none → hl = 0 ∧ hc = 0) := hh.none
  have lp : (zp.map (Value.int .u8)).length = pl * 1 := by simp [hp.len]
  have ls : (zs.map (Value.int .u8)).length = sl * 1 := by simp [hs.len]
  have lh : (zh.map (Value.int .u8)).length = hl * 1 := by simp [hh.len]
  have op : ∀ u ∈ zp.map (Value.int .u8), u.oneCell' = true := ints_oneCell _ _
  have os : ∀ u ∈ zs.map (Value.int .u8), u.oneCell' = true := ints_oneCell _ _
  have oh : ∀ u ∈ zh.map (Value.int .u8), u.oneCell' = true := ints_oneCell _ _
  clear hp hs hh
  generalize zp.map (Value.int .u8) = Lp at *
  generalize zs.map (Value.int .u8) = Ls at *
  generalize zh.map (Value.int .u8) = Lh at *
  go_enter Try.func8, Try.ntmps8
  go_wp2_with (refine wpList_make_own _ rfl (.const (.int .i64 0)) (.tmp 15) 22 rfl w.heap.size 5 i0 _ 1 Try.underlying22 hi hz0 hz1 .i64 .i64 _ (pl + hl + sl) rfl rfl (by simp) (by rw [hz2]; omega) (by unfold maxLen; omega) (by simp) ?_; intro w1 hown1 hgrow1)
  rw [show (w.alloc (Obj.cells #[Value.slice pa pl pc, Value.slice sa sl sc] 28)).heap.size = w.heap.size + 1 by simp] at hown1
  have k0 : w1.cell? ⟨w.heap.size, 0, none⟩ = some (.slice pa pl pc) := far_box hgrow1 (by simp) 0
  have k1 : w1.cell? ⟨w.heap.size, 1, none⟩ = some (.slice sa sl sc) := far_box hgrow1 (by simp) 1
  have hb1 : Below w.heap.size w w1 := ((Below.refl _ _).alloc (Nat.le_refl _) _).grown hgrow1 (by simp) (by simp)
  have hlt1 : w.heap.size < w1.heap.size := block_lt_of_cell k0
  have hg1 := (hown1.lt _ rfl).2
  clear hgrow1
  have HP1 : Hid (∀ ad, pa = some ad → ∀ j u, Lp[j]? = some u → w1.drew.cell? (ad.add j) = some u) := HP.out _ hb1.drew
  go_region_held3 (fun w' => w'.cell? ⟨w.heap.size, 0, none⟩ = some (.slice pa pl pc) ∧ w'.cell? ⟨w.heap.size, 1, none⟩ = some (.slice sa sl sc))
    (first
      | go_keep
      | (go_split_ands
         refine ⟨?_, ?_⟩
         · (rw [hgrow4.cell_far _ (by simp; omega) (by simp)]; assumption)
         · (rw [hgrow4.cell_far _ (by simp; omega) (by simp)]; assumption))
      | (go_split_ands
         refine ⟨?_, ?_⟩
         · (rw [hgrow3.cell_far _ (by simp; omega) (by simp)]; assumption)
         · (rw [hgrow3.cell_far _ (by simp; omega) (by simp)]; assumption))
      | (go_split_ands
         refine ⟨?_, ?_⟩
         · (rw [hgrow2.cell_far _ (by simp; omega) (by simp)]; assumption)
         · (rw [hgrow2.cell_far _ (by simp; omega) (by simp)]; assumption)))
    (first
      | (refine step_append_fits_any _ (by rfl) (.tmp 17) (.tmp 19) 22 (by rfl) w.heap.size 5 i0 1 Try.underlying22 hi hz1 (w.heap.size + 1) 0 (pl + hl + sl) [] (by rfl) hown1.drew pa pl pc Lp (by rfl) lp np.out HP1.out op (by omega) ?_; intro w2 hown2 hgrow2; have hb2 : Below w.heap.size w w2 := hb1.drew.grown hgrow2 (by exact hb1.size) (by intro k hk; simp at hk; omega); have hlt2 : w.heap.size + 1 < w2.heap.size := Nat.lt_of_lt_of_le hg1 hgrow2.size)
      | (refine step_append_fits_any _ (by rfl) (.tmp 20) (.tmp 21) 22 (by rfl) w.heap.size 5 i0 1 Try.underlying22 hi hz1 (w.heap.size + 1) (0 + pl) (pl + hl + sl) ([] ++ Lp) (by rfl) hown2 ha hl hc Lh (by rfl) lh nh.out (HH.out _ hb2) oh (by omega) ?_; intro w3 hown3 hgrow3; have hb3 : Below w.heap.size w w3 := hb2.grown hgrow3 (by omega) (by intro k hk; simp at hk; omega); have hlt3 : w.heap.size + 1 < w3.heap.size := Nat.lt_of_lt_of_le hlt2 hgrow3.size)
      | (refine step_append_fits_any _ (by rfl) (.tmp 22) (.tmp 24) 22 (by rfl) w.heap.size 5 i0 1 Try.underlying22 hi hz1 (w.heap.size + 1) (0 + pl + hl) (pl + hl + sl) ([] ++ Lp ++ Lh) (by rfl) hown3 sa sl sc Ls (by rfl) ls ns.out (HS.out _ hb3) os (by omega) ?_; intro w4 hown4 hgrow4))
  have hown := hown4
  simp only [Nat.zero_add, List.nil_append] at hown
  have hb4 : Below w.heap.size w w4 := hb3.grown hgrow4 (by omega) (by intro k hk; simp at hk; omega)
  clear hown1 hown2 hown3 hown4 hgrow2 hgrow3 hgrow4
  go_wp2
  go_ret
  exact ⟨w.heap.size + 1, pl + hl + sl, rfl, by omega, by rw [← List.append_assoc]; exact hown, hb4⟩

theorem script6 {pa sa ha : Option Addr} {pl sl hl pc sc hc : Nat} {zp zs zh : List Int} {w : World} (hp : Row w pa pl pc zp) (hs : Row w sa sl sc zs) (hh : Row w ha hl hc zh) (bp : pl ≤ 262144) (bs : sl ≤ 262144) (bh : hl ≤ 262144) :
    Calls Try.prog 6 #[.slice pa pl pc, .slice sa sl sc, .slice ha hl hc] w fun e w' => ∃ g c, e = .returned (.slice (some ⟨g, 0, none⟩) (pl + hl + sl) c) ∧ w.heap.size ≤ g ∧
      w'.ownsRow w.heap.size 5 1 (.slice (some ⟨g, 0, none⟩) (pl + hl + sl) c) (pl + hl + sl) (((zp ++ zh) ++ zs).map (Value.int .u8)) ∧ Below w.heap.size w w' := by
  have H8 : Hid (Calls Try.prog 8 #[.agg #[.slice pa pl pc, .slice sa sl sc], .slice ha hl hc] w fun e w' => ∃ g c, e = .returned (.slice (some ⟨g, 0, none⟩) (pl + hl + sl) c) ∧ w.heap.size ≤ g ∧
      w'.ownsRow w.heap.size 5 1 (.slice (some ⟨g, 0, none⟩) (pl + hl + sl) c) (pl + hl + sl) (((zp ++ zh) ++ zs).map (Value.int .u8)) ∧ Below w.heap.size w w') := by
    have := script8 pa sa ha pl sl hl pc sc hc zp zs zh w hp hs hh bp bs bh
    rw [← List.map_append, ← List.map_append] at this
    exact this
  clear hp hs hh
  generalize ((zp ++ zh) ++ zs).map (Value.int .u8) = L at *
  go_enter Try.func6, Try.ntmps6
  go_wp2_with fail
  refine H8.out.mono ?_
  rintro e w1 ⟨g, c, rfl, h1, h2, h3⟩
  go_wp2_with fail
  go_ret
  exact ⟨g, c, rfl, h1, h2, h3⟩
end Go.Proofs.Qxb6617522a.script
