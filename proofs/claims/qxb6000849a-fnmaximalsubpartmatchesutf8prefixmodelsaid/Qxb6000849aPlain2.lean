/-
  Seat b6000849a: THE TWO PLAIN LAWS.
-/
import Derived.Test.Qxb6000849aPlain
namespace Go.Proofs.Qxb6000849a

theorem nn0 {b : Int} (h : b < 224 ∨ 244 < b) : nn b = 0 := by unfold nn; rw [if_neg (by omega), if_neg (by omega)]
theorem nn3 {b : Int} (h1 : 224 ≤ b) (h2 : b ≤ 239) : nn b = 3 := by unfold nn; rw [if_pos ⟨h1, h2⟩]
theorem nn4 {b : Int} (h1 : 240 ≤ b) (h2 : b ≤ 244) : nn b = 4 := by unfold nn; rw [if_neg (by omega), if_pos ⟨h1, h2⟩]

theorem lo2_ge (b : Int) : 128 ≤ lo2 b := by unfold lo2; split; omega; split <;> omega
theorem hi2_le (b : Int) : hi2 b ≤ 191 := by unfold hi2; split; omega; split <;> omega

theorem starts_high {b : Int} {r : List Int} (h : Starts (b :: r) = false) : 128 ≤ b := by
  by_cases hb : b < 128
  · simp [Starts, hb] at h
  · omega

/-- what a text that begins with no whole character cannot be -/
theorem starts2 {b c : Int} {t : List Int} (h : Starts (b :: c :: t) = false) (h2 : 194 ≤ b) (h3 : b ≤ 223) : ¬ (128 ≤ c ∧ c ≤ 191) := by
  intro hc
  have hl := (ll2 (b := b) (by omega) h3).1
  simp only [Starts, hl, List.length_cons] at h
  rw [if_neg (by omega), if_neg (by omega), if_neg (by omega)] at h
  have := (CS2 b c (by omega) (by omega)).2 (Or.inl ⟨h2, h3, hc.1, hc.2⟩)
  simp only [List.take_succ_cons, List.take_zero] at h
  rw [this] at h
  cases h
theorem starts3 {b c d : Int} {t : List Int} (h : Starts (b :: c :: d :: t) = false) (h2 : 224 ≤ b) (h3 : b ≤ 239) : ¬ (lo2 b ≤ c ∧ c ≤ hi2 b ∧ 128 ≤ d ∧ d ≤ 191) := by
  intro hc
  have hl := (ll3 (b := b) h2 h3).1
  simp only [Starts, hl, List.length_cons] at h
  rw [if_neg (by omega), if_neg (by omega), if_neg (by omega)] at h
  have := (CS3 b c d (by omega) (by omega)).2 ⟨h2, by omega, hc⟩
  simp only [List.take_succ_cons, List.take_zero] at h
  rw [this] at h
  cases h
theorem starts4 {b c d e : Int} {t : List Int} (h : Starts (b :: c :: d :: e :: t) = false) (h2 : 240 ≤ b) (h3 : b ≤ 244) : ¬ (lo2 b ≤ c ∧ c ≤ hi2 b ∧ 128 ≤ d ∧ d ≤ 191 ∧ 128 ≤ e ∧ e ≤ 191) := by
  intro hc
  have hl := (ll4 (b := b) h2 (by omega)).1
  simp only [Starts, hl, List.length_cons] at h
  rw [if_neg (by omega), if_neg (by omega), if_neg (by omega)] at h
  have := (CS4 b c d e (by omega) (by omega)).2 ⟨h2, h3, hc⟩
  simp only [List.take_succ_cons, List.take_zero] at h
  rw [this] at h
  cases h

/-- the three kinds of a first byte that begins no ASCII character -/
theorem classes (b : Int) : nn b = 0 ∧ (b < 224 ∨ 244 < b) ∨ nn b = 3 ∧ 224 ≤ b ∧ b ≤ 239 ∨ nn b = 4 ∧ 240 ≤ b ∧ b ≤ 244 := by
  rcases (show (b < 224 ∨ 244 < b) ∨ (224 ≤ b ∧ b ≤ 239) ∨ (240 ≤ b ∧ b ≤ 244) by omega) with h | ⟨h, h'⟩ | ⟨h, h'⟩
  · exact Or.inl ⟨nn0 h, h⟩
  · exact Or.inr (Or.inl ⟨nn3 h h', h, h'⟩)
  · exact Or.inr (Or.inr ⟨nn4 h h', h, h'⟩)

theorem match_law (b : Int) (r : List Int) (hb : b ≤ 255) (h : Starts (b :: r) = false) : MS (b :: r) = SM (b :: r) := by
  have h1 := starts_high h
  have c2 := fun c => CS2 b c h1 hb
  have c3 := fun c d => CS3 b c d h1 hb
  have c4 := fun c d e => CS4 b c d e h1 hb
  rcases classes b with ⟨hn, hr⟩ | ⟨hn, hr1, hr2⟩ | ⟨hn, hr1, hr2⟩
  · match r, h with
    | [], _ => simp [MS, SM, sm, hn]
    | c :: t, h =>
      have hno : ¬ CS [b, c] = true := by
        rw [c2 c]
        rintro (⟨q1, q2, q3, q4⟩ | ⟨q1, q2, _⟩)
        · exact starts2 h q1 q2 ⟨q3, q4⟩
        · omega
      simp [MS, SM, sm, hn, hno]
  · match r, h with
    | [], _ => simp [MS, SM, sm, hn, adv]
    | [c], _ =>
      have := c2 c
      by_cases p1 : lo2 b ≤ c ∧ c ≤ hi2 b
      · have q : CS [b, c] = true := this.2 (Or.inr ⟨hr1, by omega, p1⟩)
        simp [MS, SM, sm, hn, adv, p1, q]
      · have q : ¬ CS [b, c] = true := fun q => by
          rcases this.1 q with ⟨_, _, _⟩ | ⟨_, _, q3⟩
          · omega
          · exact p1 q3
        simp [MS, SM, sm, hn, adv, p1, q]
    | c :: d :: t, h =>
      have := c2 c
      have h3 := starts3 h hr1 hr2
      by_cases p1 : lo2 b ≤ c ∧ c ≤ hi2 b
      · have q : CS [b, c] = true := this.2 (Or.inr ⟨hr1, by omega, p1⟩)
        have p2 : ¬ (128 ≤ d ∧ d ≤ 191) := fun p2 => h3 ⟨p1.1, p1.2, p2⟩
        have q3 : ¬ CS [b, c, d] = true := fun q => p2 ((c3 c d).1 q).2.2.2.2
        simp [MS, SM, sm, hn, adv, p1, p2, q, q3]
      · have q : ¬ CS [b, c] = true := fun q => by
          rcases this.1 q with ⟨_, _, _⟩ | ⟨_, _, q3⟩
          · omega
          · exact p1 q3
        simp [MS, SM, sm, hn, adv, p1, q]
  · match r, h with
    | [], _ => simp [MS, SM, sm, hn, adv]
    | [c], _ =>
      have := c2 c
      by_cases p1 : lo2 b ≤ c ∧ c ≤ hi2 b
      · have q : CS [b, c] = true := this.2 (Or.inr ⟨by omega, by omega, p1⟩)
        simp [MS, SM, sm, hn, adv, p1, q]
      · have q : ¬ CS [b, c] = true := fun q => by
          rcases this.1 q with ⟨_, _, _⟩ | ⟨_, _, q3⟩
          · omega
          · exact p1 q3
        simp [MS, SM, sm, hn, adv, p1, q]
    | [c, d], _ =>
      have := c2 c
      have h3 := c3 c d
      by_cases p1 : lo2 b ≤ c ∧ c ≤ hi2 b
      · have q : CS [b, c] = true := this.2 (Or.inr ⟨by omega, by omega, p1⟩)
        by_cases p2 : 128 ≤ d ∧ d ≤ 191
        · have q3 : CS [b, c, d] = true := h3.2 ⟨by omega, by omega, p1.1, p1.2, p2⟩
          simp [MS, SM, sm, hn, adv, p1, p2, q, q3]
        · have q3 : ¬ CS [b, c, d] = true := fun q => p2 (h3.1 q).2.2.2.2
          simp [MS, SM, sm, hn, adv, p1, p2, q, q3]
      · have q : ¬ CS [b, c] = true := fun q => by
          rcases this.1 q with ⟨_, _, _⟩ | ⟨_, _, q3⟩
          · omega
          · exact p1 q3
        simp [MS, SM, sm, hn, adv, p1, q]
    | c :: d :: e :: t, h =>
      have := c2 c
      have h3 := c3 c d
      have h4 := starts4 h hr1 hr2
      by_cases p1 : lo2 b ≤ c ∧ c ≤ hi2 b
      · have q : CS [b, c] = true := this.2 (Or.inr ⟨by omega, by omega, p1⟩)
        by_cases p2 : 128 ≤ d ∧ d ≤ 191
        · have q3 : CS [b, c, d] = true := h3.2 ⟨by omega, by omega, p1.1, p1.2, p2⟩
          have p3 : ¬ (128 ≤ e ∧ e ≤ 191) := fun p3 => h4 ⟨p1.1, p1.2, p2.1, p2.2, p3⟩
          have q4 : ¬ CS [b, c, d, e] = true := fun q => p3 ((c4 c d e).1 q).2.2.2.2.2.2
          simp [MS, SM, sm, hn, adv, p1, p2, p3, q, q3, q4]
        · have q3 : ¬ CS [b, c, d] = true := fun q => p2 (h3.1 q).2.2.2.2
          simp [MS, SM, sm, hn, adv, p1, p2, q, q3]
      · have q : ¬ CS [b, c] = true := fun q => by
          rcases this.1 q with ⟨_, _, _⟩ | ⟨_, _, q3⟩
          · omega
          · exact p1 q3
        simp [MS, SM, sm, hn, adv, p1, q]

/-! ### the second law: the answer's bounds, and that the cut text answers the same -/
theorem adv_le : ∀ (l : List Int) (f : Nat) (lo hi : Int), adv l f lo hi ≤ f ∧ adv l f lo hi ≤ l.length
  | [], f, _, _ => by simp [adv]
  | c :: r, 0, _, _ => by simp [adv]
  | c :: r, f + 1, lo, hi => by
    have := adv_le r f 128 191
    simp only [adv]
    split
    · simp; omega
    · simp

theorem adv_cont : ∀ (l : List Int) (f : Nat) (lo hi : Int), 128 ≤ lo → hi ≤ 191 → ∀ j, j < adv l f lo hi → 128 ≤ l.getD j 0 ∧ l.getD j 0 ≤ 191
  | [], f, _, _, _, _, j, h => by simp [adv] at h
  | c :: r, 0, _, _, _, _, j, h => by simp [adv] at h
  | c :: r, f + 1, lo, hi, h1, h2, j, h => by
    simp only [adv] at h
    split at h
    · rename_i hc
      cases j with
      | zero => simp; omega
      | succ j =>
        have := adv_cont r f 128 191 (by omega) (by omega) j (by omega)
        simpa using this
    · omega

theorem adv_take : ∀ (l : List Int) (f : Nat) (lo hi : Int), adv (l.take (adv l f lo hi)) f lo hi = adv l f lo hi
  | [], f, _, _ => by simp [adv]
  | c :: r, 0, _, _ => by simp [adv]
  | c :: r, f + 1, lo, hi => by
    simp only [adv]
    split
    · rename_i hc
      simp [adv, hc, adv_take r f 128 191]
    · simp [adv]

theorem MS_take (b : Int) (r : List Int) : MS ((b :: r).take (MS (b :: r))) = MS (b :: r) := by
  by_cases h : nn b = 0
  · simp [MS, h]
  · have e : MS (b :: r) = adv r (nn b - 1) (lo2 b) (hi2 b) + 1 := by simp [MS, h]
    rw [e, List.take_succ_cons]
    simp [MS, h, adv_take]

theorem MS_cont (b : Int) (r : List Int) (j : Nat) (h1 : 1 ≤ j) (h2 : j < MS (b :: r)) : 128 ≤ (b :: r).getD j 0 ∧ (b :: r).getD j 0 ≤ 191 := by
  simp only [MS] at h2
  split at h2
  · omega
  · cases j with
    | zero => omega
    | succ j =>
      have := adv_cont r (nn b - 1) _ _ (lo2_ge b) (hi2_le b) j (by omega)
      simpa using this

theorem MS_pos (b : Int) (r : List Int) : 1 ≤ MS (b :: r) ∧ MS (b :: r) ≤ r.length + 1 := by
  simp only [MS]
  split
  · omega
  · have := adv_le r (nn b - 1) (lo2 b) (hi2 b)
    omega

theorem MS_three (b : Int) (r : List Int) (h : Starts (b :: r) = false) : MS (b :: r) ≤ 3 := by
  rcases classes b with ⟨hn, hr⟩ | ⟨hn, hr1, hr2⟩ | ⟨hn, hr1, hr2⟩
  · simp [MS, hn]
  · have := (adv_le r (nn b - 1) (lo2 b) (hi2 b)).1
    simp only [MS, hn] at this ⊢
    simp; omega
  · match r, h with
    | [], _ => simp [MS, hn, adv]
    | [c], _ =>
      have := (MS_pos b [c]).2
      simp at this; omega
    | [c, d], _ =>
      have := (MS_pos b [c, d]).2
      simp at this; omega
    | c :: d :: e :: t, h =>
      have h4 := starts4 h hr1 hr2
      by_cases p1 : lo2 b ≤ c ∧ c ≤ hi2 b
      · by_cases p2 : 128 ≤ d ∧ d ≤ 191
        · have p3 : ¬ (128 ≤ e ∧ e ≤ 191) := fun p3 => h4 ⟨p1.1, p1.2, p2.1, p2.2, p3⟩
          simp [MS, hn, adv, p1, p2, p3]
        · simp [MS, hn, adv, p1, p2]
      · simp [MS, hn, adv, p1]

end Go.Proofs.Qxb6000849a
