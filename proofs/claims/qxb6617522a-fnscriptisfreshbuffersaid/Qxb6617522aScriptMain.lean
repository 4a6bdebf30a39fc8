import Derived.Test.Qxb6617522aScriptWalks
namespace Go.Proofs.Qxb6617522a.script
open Go.ChangeShapes Go.WideShapes Go.ChangeAt Go.RowKit

/-- '^x' on a byte, as the walk writes it. -/
def fl (x : Int) : Int := bits .xor .u8 (if IntKind.u8.signed = true then -1 else IntKind.u8.max) x

theorem fl_fl_fin (m : Fin 256) : fl (fl (m.val : Int)) = (m.val : Int) := by
  revert m
  decide +kernel
theorem fl_fl (x : Int) (h0 : 0 ≤ x) (h1 : x ≤ 255) : fl (fl x) = x := by
  obtain ⟨k, rfl⟩ := Int.eq_ofNat_of_zero_le h0
  exact fl_fl_fin ⟨k, by omega⟩

theorem IsRow.bytes {w : World} {a : Option Addr} {len cap : Nat} {zs : List Int} (h : IsRow .u8 w a len cap zs) : ∀ n ∈ zs, (Lit.int .u8 n).wf = true := by
  rcases h with ⟨_, _, _, rfl⟩ | ⟨x, _, _, _, _, _, h6⟩
  · intro n hn; cases hn
  · exact h6

theorem wf_three {x y z : List Int} (hx : ∀ n ∈ x, (Lit.int .u8 n).wf = true) (hy : ∀ n ∈ y, (Lit.int .u8 n).wf = true) (hz : ∀ n ∈ z, (Lit.int .u8 n).wf = true) (a b c q : Nat) :
    0 ≤ (x.take a ++ y.take b ++ z.take c).getD q 0 ∧ (x.take a ++ y.take b ++ z.take c).getD q 0 ≤ 255 := by
  have h : ∀ n ∈ x.take a ++ y.take b ++ z.take c, (Lit.int .u8 n).wf = true := by
    intro n hn
    simp only [List.mem_append] at hn
    rcases hn with (hn | hn) | hn
    · exact hx n (List.mem_of_mem_take hn)
    · exact hy n (List.mem_of_mem_take hn)
    · exact hz n (List.mem_of_mem_take hn)
  have := range_u8 h q
  simpa [List.getD] using this

/-- The script, its first k bytes flipped. -/
structure Flip (w wr : World) (g c N k : Nat) (F G : Nat → Int) : Prop where
  below : Below w.heap.size w wr
  own : ∃ xs, wr.ownsRow w.heap.size 5 1 (.slice (some ⟨g, 0, none⟩) N c) N xs ∧ ∀ q, q < N → xs[q]? = some (.int .u8 (if q < k then G q else F q))

theorem Flip.start {w wr : World} {g c N : Nat} {L : List Int} {G : Nat → Int} (hb : Below w.heap.size w wr) (ho : wr.ownsRow w.heap.size 5 1 (.slice (some ⟨g, 0, none⟩) N c) N (L.map (Value.int .u8))) : Flip w wr g c N 0 (fun q => L.getD q 0) G := by
  refine ⟨hb, _, ho, fun q hq => ?_⟩
  have hl := ho.1
  have hq' : q < L.length := by simp at hl; omega
  simp [List.getD, List.getElem?_eq_getElem hq']

theorem Flip.atByte {w wr : World} {g c N k : Nat} {F G : Nat → Int} (h : Flip w wr g c N k F G) (q : Nat) (hq : q < N) : wr.cell? ⟨g, q, none⟩ = some (.int .u8 (if q < k then G q else F q)) ∧ wr.frozen? ⟨g, q, none⟩ = false := by
  obtain ⟨xs, ho, hx⟩ := h.own
  exact ⟨(ho.cellAt q (by omega)).trans (hx q hq), ho.frozenAt _⟩

theorem Flip.block {w wr : World} {g c N k : Nat} {F G : Nat → Int} (h : Flip w wr g c N k F G) : w.heap.size ≤ g ∧ g < wr.heap.size := by
  obtain ⟨xs, ho, hx⟩ := h.own
  exact ho.lt g rfl

theorem Flip.next {w wr : World} {g c N k : Nat} {F G : Nat → Int} (h : Flip w wr g c N k F G) (hk : k < N) : Flip w (wr.setCell ⟨g, k, none⟩ (.int .u8 (G k))) g c N (k + 1) F G := by
  have hg := h.block.1
  obtain ⟨xs, ho, hx⟩ := h.own
  obtain ⟨ho', _⟩ := ho.stored k (.int .u8 (G k))
  refine ⟨h.below.setCell hg _, xs.set k (.int .u8 (G k)), ho', ?_⟩
  intro q hq
  have hl := ho.1
  rw [List.getElem?_set]
  by_cases e : k = q
  · subst e
    rw [if_pos rfl, if_pos (by omega), if_pos (by omega)]
  · rw [if_neg e, hx q hq]
    by_cases h1 : q < k
    · rw [if_pos h1, if_pos (by omega)]
    · rw [if_neg h1, if_neg (by omega)]

set_option maxRecDepth 100000 in
set_option maxHeartbeats 2000000 in
theorem walk_in (a0 a1 a2 : Option Addr) (l0 l1 l2 c0 c1 c2 : Nat) (z0 z1 z2 : List Int) (w : World) (r0 : IsRow .u8 w a0 l0 c0 z0) (r1 : IsRow .u8 w a1 l1 c1 z1) (r2 : IsRow .u8 w a2 l2 c2 z2)
    (b0 : l0 ≤ 262144) (b1 : l1 ≤ 262144) (b2 : l2 ≤ 262144) :
    Calls Try.prog 3 #[.slice a0 l0 c0, .slice a1 l1 c1, .slice a2 l2 c2] w fun e w' => e = .returned (.bool true) ∧ Below w.heap.size w w' := by
  have R0 : Hid (IsRow .u8 w a0 l0 c0 z0) := r0
  have R1 : Hid (IsRow .u8 w a1 l1 c1 z1) := r1
  have R2 : Hid (IsRow .u8 w a2 l2 c2 z2) := r2
  clear r0 r1 r2
  obtain ⟨F, hF⟩ : ∃ F : Nat → Int, F = fun q => (z0.take l0 ++ z2.take l2 ++ z1.take l1).getD q 0 := ⟨_, rfl⟩
  obtain ⟨G, hG⟩ : ∃ G : Nat → Int, G = fun q => fl (F q) := ⟨_, rfl⟩
  have HG : Hid (∀ q, G q = fl (F q)) := fun q => by rw [hG]
  have HN : Hid (∀ q, (F q != fl (G q)) = false) := by
    intro q
    have hb := wf_three R0.out.bytes R2.out.bytes R1.out.bytes l0 l2 l1 q
    have : fl (G q) = F q := by
      rw [hG, hF]
      exact fl_fl _ hb.1 hb.2
    rw [this]; simp
  have HF : Hid (F = fun q => (z0.take l0 ++ z2.take l2 ++ z1.take l1).getD q 0) := hF
  clear hF hG
  go_enter Try.func3, Try.ntmps3
  go_wp2_with fail
  refine (bytes4 a0 a1 a2 l0 l1 l2 c0 c1 c2 w (by omega) (by omega) (by omega)).mono ?_
  rintro e w' ⟨⟨b, rfl⟩, hw⟩
  obtain rfl : w = w' := hw.symm
  cases b
  · go_wp2
    go_ret
    exact ⟨rfl, Below.refl _ _⟩
  go_wp2_with fail
  refine (clone5 R0.out (by omega)).mono ?_
  rintro e w1 ⟨pa, pc, rfl, pe1, hb1⟩
  go_wp2_with fail
  refine (clone5 (R1.out.keep hb1) (by omega)).mono ?_
  rintro e w2 ⟨sa, sc, rfl, se2, hb2'⟩
  have hb2 : Below w.heap.size w w2 := hb1.trans (hb2'.mono hb1.size)
  go_wp2_with fail
  refine (clone5 (R2.out.keep hb2) (by omega)).mono ?_
  rintro e w3 ⟨ha, hc, rfl, he3, hb3'⟩
  have hb3 : Below w.heap.size w w3 := hb2.trans (hb3'.mono hb2.size)
  go_wp2_with fail
  refine (clone5 (R0.out.keep hb3) (by omega)).mono ?_
  rintro e w4 ⟨pa2, pc2, rfl, p4, hb4'⟩
  have hb4 : Below w.heap.size w w4 := hb3.trans (hb4'.mono hb3.size)
  go_wp2_with fail
  refine (clone5 (R1.out.keep hb4) (by omega)).mono ?_
  rintro e w5 ⟨sa2, sc2, rfl, s5, hb5'⟩
  have hb5 : Below w.heap.size w w5 := hb4.trans (hb5'.mono hb4.size)
  go_wp2_with fail
  refine (clone5 (R2.out.keep hb5) (by omega)).mono ?_
  rintro e w6 ⟨ha2, hc2, rfl, h6, hb6'⟩
  have hb6 : Below w.heap.size w w6 := hb5.trans (hb6'.mono hb5.size)
  clear R0 R1 R2
  have PE : Hid (Row w6 pa l0 pc (z0.take l0)) := ((((pe1.keep hb2').keep hb3').keep hb4').keep hb5').keep hb6'
  have SE : Hid (Row w6 sa l1 sc (z1.take l1)) := (((se2.keep hb3').keep hb4').keep hb5').keep hb6'
  have HE : Hid (Row w6 ha l2 hc (z2.take l2)) := ((he3.keep hb4').keep hb5').keep hb6'
  have PP : Hid (Row w6 pa2 l0 pc2 (z0.take l0)) := (p4.keep hb5').keep hb6'
  have SS : Hid (Row w6 sa2 l1 sc2 (z1.take l1)) := s5.keep hb6'
  have HH : Hid (Row w6 ha2 l2 hc2 (z2.take l2)) := h6
  clear pe1 se2 he3 p4 s5 h6 hb1 hb2 hb3 hb4 hb5 hb2' hb3' hb4' hb5' hb6'
  go_wp2_with fail
  refine (script6 PP.out SS.out HH.out b0 b1 b2).mono ?_
  rintro e w7 ⟨g, c, rfl, hg, hown, hb7⟩
  have HFL : Hid (Flip w6 w7 g c (l0 + l2 + l1) 0 F G) := by rw [HF.out]; exact Flip.start hb7 hown
  clear hown hb7 hg
  go_wp2_with fail
  go_loopw [12] (fun i wr => ∃ q : Nat, i = .int .i64 q ∧ q ≤ l0 + l2 + l1 ∧ Hid (Flip w6 wr g c (l0 + l2 + l1) q F G)) (fun i _ => l0 + l2 + l1 - (intOf i).toNat)
  case atStart => exact ⟨0, rfl, by omega, HFL⟩
  case round =>
    obtain ⟨q, rfl, hq, HQ⟩ := hrel
    by_cases hlt : q < l0 + l2 + l1
    · obtain ⟨cq, fq⟩ := HQ.out.atByte q hlt
      rw [if_neg (Nat.lt_irrefl q)] at cq
      have H3 : Hid (Flip w6 (wr.setCell ⟨g, q, none⟩ (.int .u8 (fl (F q)))) g c (l0 + l2 + l1) (q + 1) F G) := by
        have := HQ.out.next hlt
        rw [HG.out q] at this
        exact this
      clear HFL
      go_wp2
      go_roundw
      case rel => exact ⟨q + 1, by go_num, by omega, H3⟩
      case measure => simp [intOf]; omega
    · obtain rfl : q = l0 + l2 + l1 := by omega
      clear HFL
      have bw : Below w6.heap.size w6 wr := HQ.out.below
      have hgl : g < wr.heap.size := HQ.out.block.2
      have C1 : Hid (∀ q, q < l0 + l2 + l1 → wr.cell? ⟨g, q, none⟩ = some (.int .u8 (G q))) := by
        intro q hq
        have := (HQ.out.atByte q hq).1
        rwa [if_pos hq] at this
      have hbr : Below w.heap.size w wr := hb6.trans (bw.mono hb6.size)
      clear HQ
      go_wp2_with fail
      refine (eq7 (PP.out.keep bw) (PE.out.keep bw) (by omega)).mono ?_
      rintro e x1 ⟨rfl, d1⟩
      go_wp2_with fail
      refine (eq7 ((SS.out.keep bw).keep (d1.below _)) ((SE.out.keep bw).keep (d1.below _)) (by omega)).mono ?_
      rintro e x2 ⟨rfl, d2⟩
      go_wp2_with fail
      refine (eq7 (((HH.out.keep bw).keep (d1.below _)).keep (d2.below _)) (((HE.out.keep bw).keep (d1.below _)).keep (d2.below _)) (by omega)).mono ?_
      rintro e x3 ⟨rfl, d3⟩
      have PX : Hid (Row x3 pa2 l0 pc2 (z0.take l0)) := (((PP.out.keep bw).keep (d1.below _)).keep (d2.below _)).keep (d3.below _)
      have SX : Hid (Row x3 sa2 l1 sc2 (z1.take l1)) := (((SS.out.keep bw).keep (d1.below _)).keep (d2.below _)).keep (d3.below _)
      have HX : Hid (Row x3 ha2 l2 hc2 (z2.take l2)) := (((HH.out.keep bw).keep (d1.below _)).keep (d2.below _)).keep (d3.below _)
      have C3 : Hid (∀ q, q < l0 + l2 + l1 → x3.cell? ⟨g, q, none⟩ = some (.int .u8 (G q))) := fun q hq => d3.cell (d2.cell (d1.cell (C1.out q hq)))
      have hgx : g < x3.heap.size := Nat.lt_of_lt_of_le hgl (Nat.le_trans (d1.below 0).size (Nat.le_trans (d2.below 0).size (d3.below 0).size))
      have hbx : Below w.heap.size w x3 := ((hbr.trans (d1.below _)).trans (d2.below _)).trans (d3.below _)
      clear PP SS HH PE SE HE C1 d1 d2 d3
      go_wp2_with fail
      refine (script6 PX.out SX.out HX.out b0 b1 b2).mono ?_
      rintro e w8 ⟨g2, c3, rfl, hg2, hown2, hb8⟩
      have C8 : Hid (∀ q, q < l0 + l2 + l1 → w8.cell? ⟨g, q, none⟩ = some (.int .u8 (G q))) := fun q hq => (hb8.cell (p := ⟨g, q, none⟩) hgx).trans (C3.out q hq)
      have D8 : Hid (∀ q, q < l0 + l2 + l1 → w8.cell? ⟨g2, q, none⟩ = some (.int .u8 (F q))) := by
        intro q hq
        have h := (Flip.start (G := F) hb8 hown2).atByte q hq
        rw [HF.out]
        simpa using h.1
      have hbz : Below w.heap.size w w8 := hbx.trans (hb8.mono hbx.size)
      clear PX SX HX C3 hown2 hb8 hg2
      go_wp2_with fail
      go_loopw [14] (fun i wr => ∃ q : Nat, i = .int .i64 q ∧ q ≤ l0 + l2 + l1 ∧ Drawn w8 wr) (fun i _ => l0 + l2 + l1 - (intOf i).toNat)
      case atStart => exact ⟨0, rfl, by omega, Drawn.refl _⟩
      case round =>
        obtain ⟨q, rfl, hq, hD⟩ := hrel
        by_cases hlt : q < l0 + l2 + l1
        · have cg := hD.cell (C8.out q hlt)
          have cf := hD.cell (D8.out q hlt)
          have hne : (F q != bits .xor .u8 (if IntKind.u8.signed = true then -1 else IntKind.u8.max) (G q)) = false := HN.out q
          have i0 : (0 : Int) ≤ (q : Int) := by omega
          have i1 : (q : Int) < (l0 : Int) + (l2 : Int) + (l1 : Int) := by omega
          have i2 : (q : Int) < ((l0 + l2 + l1 : Nat) : Int) := by omega
          go_wp2_with fail
          go_quiet (fail)
          go_wp2_with fail
          go_roundw
          case rel => exact ⟨q + 1, by go_num, by omega, hD.next _⟩
          case measure => simp [intOf]; omega
        · go_wp2
          go_ret
          exact ⟨rfl, hbz.trans (hD.below _)⟩

theorem walk_out (a0 a1 a2 : Option Addr) (l0 l1 l2 c0 c1 c2 : Nat) (w : World) (h0 : l0 ≤ 9223372036854775807) (h1 : l1 ≤ 9223372036854775807) (h2 : l2 ≤ 9223372036854775807) (h : 262144 < l0 ∨ 262144 < l1 ∨ 262144 < l2) :
    Calls Try.prog 3 #[.slice a0 l0 c0, .slice a1 l1 c1, .slice a2 l2 c2] w fun e w' => e = .returned (.bool true) ∧ w' = w := by
  by_cases g0 : 262144 < l0
  · go_enter Try.func3, Try.ntmps3
    go_wp2_with fail
    refine (bytes4 a0 a1 a2 l0 l1 l2 c0 c1 c2 w h0 h1 h2).mono ?_
    rintro e w' ⟨⟨b, rfl⟩, hw⟩
    obtain rfl : w = w' := hw.symm
    cases b
    all_goals
      go_wp2
      go_ret
      exact ⟨rfl, rfl⟩
  · by_cases g1 : 262144 < l1
    · go_enter Try.func3, Try.ntmps3
      go_wp2_with fail
      refine (bytes4 a0 a1 a2 l0 l1 l2 c0 c1 c2 w h0 h1 h2).mono ?_
      rintro e w' ⟨⟨b, rfl⟩, hw⟩
      obtain rfl : w = w' := hw.symm
      cases b
      all_goals
        go_wp2
        go_ret
        exact ⟨rfl, rfl⟩
    · have g2 : 262144 < l2 := by omega
      go_enter Try.func3, Try.ntmps3
      go_wp2_with fail
      refine (bytes4 a0 a1 a2 l0 l1 l2 c0 c1 c2 w h0 h1 h2).mono ?_
      rintro e w' ⟨⟨b, rfl⟩, hw⟩
      obtain rfl : w = w' := hw.symm
      cases b
      all_goals
        go_wp2
        go_ret
        exact ⟨rfl, rfl⟩

theorem IsRow.len {w : World} {a : Option Addr} {len cap : Nat} {zs : List Int} (h : IsRow .u8 w a len cap zs) : len ≤ 9223372036854775807 := by
  rcases h with ⟨_, rfl, _, _⟩ | ⟨x, _, h1, h2, _⟩
  · omega
  · unfold maxLen at h2; omega
end Go.Proofs.Qxb6617522a.script
