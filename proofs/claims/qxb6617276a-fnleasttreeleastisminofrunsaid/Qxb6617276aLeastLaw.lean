/-
  THE PLAIN LAW of leastTree: no Go in sight. 'z k' is the entry at place k; the leaves stand at n .. 2n - 1.
-/
namespace Go.Proofs.Qxb6617276a.leastLaw

/-- Each inner node holds the lesser of its two children. -/
def Wf (z : Nat → Int) (n : Nat) : Prop := ∀ k, 1 ≤ k → k < n → z k = min (z (2 * k)) (z (2 * k + 1))

/-- 'm' is the least of 'l' and the entries at a .. b - 1. -/
def Inv (z : Nat → Int) (m l : Int) (a b : Nat) : Prop :=
  m ≤ l ∧ (∀ k, a ≤ k → k < b → m ≤ z k) ∧ (m = l ∨ ∃ k, a ≤ k ∧ k < b ∧ m = z k)

/-- The least of the c + 1 entries from a on. -/
def mnr (z : Nat → Int) (a : Nat) : Nat → Int
  | 0 => z a
  | c + 1 => min (mnr z a c) (z (a + c + 1))

theorem mnr_le (z : Nat → Int) (a c : Nat) : ∀ k, a ≤ k → k < a + c + 1 → mnr z a c ≤ z k := by
  induction c with
  | zero => intro k h1 h2; obtain rfl : k = a := by omega
            exact Int.le_refl _
  | succ c ih =>
    intro k h1 h2
    simp only [mnr]
    by_cases h : k < a + c + 1
    · have := ih k h1 h; omega
    · obtain rfl : k = a + c + 1 := by omega
      omega

theorem mnr_mem (z : Nat → Int) (a c : Nat) : ∃ k, a ≤ k ∧ k < a + c + 1 ∧ mnr z a c = z k := by
  induction c with
  | zero => exact ⟨a, by omega, by omega, rfl⟩
  | succ c ih =>
    obtain ⟨k, h1, h2, h3⟩ := ih
    simp only [mnr]
    by_cases h : mnr z a c ≤ z (a + c + 1)
    · exact ⟨k, h1, by omega, by rw [Int.min_def, if_pos h, h3]⟩
    · exact ⟨a + c + 1, by omega, by omega, by rw [Int.min_def, if_neg h]⟩

theorem inv_start (z : Nat → Int) (a c : Nat) : Inv z (mnr z a c) (z a) a (a + c + 1) :=
  ⟨mnr_le z a c a (by omega) (by omega), mnr_le z a c, .inr (mnr_mem z a c)⟩

theorem inv_left {z : Nat → Int} {m l : Int} {a b : Nat} (h : Inv z m l a b) (hab : a < b) : Inv z m (min l (z a)) (a + 1) b := by
  obtain ⟨h1, h2, h3⟩ := h
  have ha := h2 a (by omega) hab
  refine ⟨by omega, fun k hk hb => h2 k (by omega) hb, ?_⟩
  rcases h3 with h3 | ⟨k, hk1, hk2, hk3⟩
  · left; omega
  · by_cases e : k = a
    · subst e; left; omega
    · exact .inr ⟨k, by omega, hk2, hk3⟩

theorem inv_right {z : Nat → Int} {m l : Int} {a b : Nat} (h : Inv z m l a (b + 1)) (hab : a < b + 1) : Inv z m (min l (z b)) a b := by
  obtain ⟨h1, h2, h3⟩ := h
  have hb := h2 b (by omega) (by omega)
  refine ⟨by omega, fun k hk hb => h2 k (by omega) (by omega), ?_⟩
  rcases h3 with h3 | ⟨k, hk1, hk2, hk3⟩
  · left; omega
  · by_cases e : k = b
    · subst e; left; omega
    · exact .inr ⟨k, by omega, by omega, hk3⟩

theorem inv_half {z : Nat → Int} {m l : Int} {a b n : Nat} (hw : Wf z n) (h : Inv z m l (2 * a) (2 * b)) (ha : 1 ≤ a) (hb : b ≤ n) : Inv z m l a b := by
  obtain ⟨h1, h2, h3⟩ := h
  refine ⟨h1, fun k hk hkb => ?_, ?_⟩
  · have e := hw k (by omega) (by omega)
    have q1 := h2 (2 * k) (by omega) (by omega)
    have q2 := h2 (2 * k + 1) (by omega) (by omega)
    omega
  · rcases h3 with h3 | ⟨k, hk1, hk2, hk3⟩
    · exact .inl h3
    · refine .inr ⟨k / 2, by omega, by omega, ?_⟩
      have e := hw (k / 2) (by omega) (by omega)
      have q1 := h2 (2 * (k / 2)) (by omega) (by omega)
      have q2 := h2 (2 * (k / 2) + 1) (by omega) (by omega)
      rcases (by omega : k = 2 * (k / 2) ∨ k = 2 * (k / 2) + 1) with hk | hk
      · rw [← hk] at e q1 q2; omega
      · rw [← hk] at e q2; omega

theorem inv_end {z : Nat → Int} {m l : Int} {a b : Nat} (h : Inv z m l a b) (hab : b ≤ a) : m = l := by
  rcases h.2.2 with h3 | ⟨k, hk1, hk2, _⟩
  · exact h3
  · omega

/-! ### one whole round: four ways -/
theorem round_ee {z : Nat → Int} {m l : Int} {a b n : Nat} (hw : Wf z n) (h : Inv z m l a b) (_hab : a < b) (h1 : 1 ≤ a) (hb : b ≤ 2 * n) (ea : a % 2 = 0) (eb : b % 2 = 0) : Inv z m l (a / 2) (b / 2) := by
  refine inv_half hw ?_ (by omega) (by omega)
  rw [show 2 * (a / 2) = a by omega, show 2 * (b / 2) = b by omega]; exact h
theorem round_oe {z : Nat → Int} {m l : Int} {a b n : Nat} (hw : Wf z n) (h : Inv z m l a b) (hab : a < b) (h1 : 1 ≤ a) (hb : b ≤ 2 * n) (ea : a % 2 = 1) (eb : b % 2 = 0) : Inv z m (min l (z a)) ((a + 1) / 2) (b / 2) := by
  refine inv_half hw ?_ (by omega) (by omega)
  rw [show 2 * ((a + 1) / 2) = a + 1 by omega, show 2 * (b / 2) = b by omega]; exact inv_left h hab
theorem round_eo {z : Nat → Int} {m l : Int} {a b n : Nat} (hw : Wf z n) (h : Inv z m l a b) (hab : a < b) (h1 : 1 ≤ a) (hb : b ≤ 2 * n) (ea : a % 2 = 0) (eb : b % 2 = 1) : Inv z m (min l (z (b - 1))) (a / 2) ((b - 1) / 2) := by
  refine inv_half hw ?_ (by omega) (by omega)
  rw [show 2 * (a / 2) = a by omega, show 2 * ((b - 1) / 2) = b - 1 by omega]
  refine inv_right ?_ (by omega)
  rw [show b - 1 + 1 = b by omega]; exact h
theorem round_oo {z : Nat → Int} {m l : Int} {a b n : Nat} (hw : Wf z n) (h : Inv z m l a b) (hab : a < b) (h1 : 1 ≤ a) (hb : b ≤ 2 * n) (ea : a % 2 = 1) (eb : b % 2 = 1) : Inv z m (min (min l (z a)) (z (b - 1))) ((a + 1) / 2) ((b - 1) / 2) := by
  refine inv_half hw ?_ (by omega) (by omega)
  rw [show 2 * ((a + 1) / 2) = a + 1 by omega, show 2 * ((b - 1) / 2) = b - 1 by omega]
  refine inv_right ?_ (by omega)
  rw [show b - 1 + 1 = b by omega]; exact inv_left h hab
end Go.Proofs.Qxb6617276a.leastLaw
