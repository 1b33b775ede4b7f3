/-
  Seat b6000849a: THE PLAIN MATHEMATICS: what the law's own decoder answers (CS), what the program's maximalSubpart answers (MS), and that they say one thing. No Go in sight.
-/
namespace Go.Proofs.Qxb6000849a

def LL (b : Int) : Nat := if 192 ≤ b ∧ b ≤ 223 then 2 else if 224 ≤ b ∧ b ≤ 239 then 3 else if 240 ≤ b ∧ b ≤ 247 then 4 else 0
def cont (b : Int) : Bool := decide (128 ≤ b ∧ b ≤ 191)
def lead (b : Int) : Int := if LL b = 2 then b - 192 else if LL b = 3 then b - 224 else b - 240
def val (v : Int) : List Int → Int
  | [] => v
  | c :: r => val (v * 64 + (c - 128)) r
def least (n : Nat) : Int := if n = 3 then 2048 else if n = 4 then 65536 else 128
def okI (n : Nat) (lo hi : Int) : Bool := decide (least n ≤ hi ∧ lo ≤ 1114111 ∧ ¬ (55296 ≤ lo ∧ hi ≤ 57343))
/-- zzCanStartWellFormed -/
def CS : List Int → Bool
  | [] => false
  | b :: r => if b < 128 then r.isEmpty else if LL b = 0 then false else if LL b < r.length + 1 then false else
      r.all cont && okI (LL b) (val (lead b) r * 64 ^ (LL b - (r.length + 1))) (val (lead b) r * 64 ^ (LL b - (r.length + 1)) + 64 ^ (LL b - (r.length + 1)) - 1)
/-- zzStartsWellFormed -/
def Starts : List Int → Bool
  | [] => false
  | b :: r => if b < 128 then true else if LL b = 0 then false else if r.length + 1 < LL b then false else CS ((b :: r).take (LL b))
/-- zzSubpartModel -/
def sm (zs : List Int) : Nat → Nat → Nat
  | 0, j => j - 1
  | f + 1, j => if j ≤ zs.length ∧ CS (zs.take j) = true then sm zs f (j + 1) else j - 1
def SM (zs : List Int) : Nat := sm zs 3 2
/-- maximalSubpart -/
def nn (b : Int) : Nat := if 224 ≤ b ∧ b ≤ 239 then 3 else if 240 ≤ b ∧ b ≤ 244 then 4 else 0
def lo2 (b : Int) : Int := if b = 224 then 160 else if b = 240 then 144 else 128
def hi2 (b : Int) : Int := if b = 237 then 159 else if b = 244 then 143 else 191
def adv : List Int → Nat → Int → Int → Nat
  | [], _, _, _ => 0
  | _ :: _, 0, _, _ => 0
  | c :: r, f + 1, lo, hi => if lo ≤ c ∧ c ≤ hi then adv r f 128 191 + 1 else 0
def MS : List Int → Nat
  | [] => 1
  | b :: r => if nn b = 0 then 1 else adv r (nn b - 1) (lo2 b) (hi2 b) + 1

theorem ll2 {b : Int} (h1 : 192 ≤ b) (h2 : b ≤ 223) : LL b = 2 ∧ lead b = b - 192 := by
  have e : LL b = 2 := by unfold LL; rw [if_pos ⟨h1, h2⟩]
  exact ⟨e, by unfold lead; rw [e]; simp⟩
theorem ll3 {b : Int} (h1 : 224 ≤ b) (h2 : b ≤ 239) : LL b = 3 ∧ lead b = b - 224 := by
  have e : LL b = 3 := by unfold LL; rw [if_neg (by omega), if_pos ⟨h1, h2⟩]
  exact ⟨e, by unfold lead; rw [e]; simp⟩
theorem ll4 {b : Int} (h1 : 240 ≤ b) (h2 : b ≤ 247) : LL b = 4 ∧ lead b = b - 240 := by
  have e : LL b = 4 := by unfold LL; rw [if_neg (by omega), if_neg (by omega), if_pos ⟨h1, h2⟩]
  exact ⟨e, by unfold lead; rw [e]; simp⟩
theorem ll0 {b : Int} (h : b < 192 ∨ 247 < b) : LL b = 0 := by
  unfold LL; rw [if_neg (by omega), if_neg (by omega), if_neg (by omega)]

theorem cont_iff (b : Int) : cont b = true ↔ 128 ≤ b ∧ b ≤ 191 := by simp [cont]

theorem CS2 (b c : Int) (h : 128 ≤ b) (h' : b ≤ 255) : CS [b, c] = true ↔ (194 ≤ b ∧ b ≤ 223 ∧ 128 ≤ c ∧ c ≤ 191) ∨ (224 ≤ b ∧ b ≤ 244 ∧ lo2 b ≤ c ∧ c ≤ hi2 b) := by
  have h1 : ¬ b < 128 := by omega
  rcases (show b < 192 ∨ (192 ≤ b ∧ b ≤ 223) ∨ (224 ≤ b ∧ b ≤ 239) ∨ (240 ≤ b ∧ b ≤ 247) ∨ 247 < b by omega) with h2 | ⟨h2, h3⟩ | ⟨h2, h3⟩ | ⟨h2, h3⟩ | h2
  · simp [CS, h1, ll0 (Or.inl h2)]; omega
  · obtain ⟨e1, e2⟩ := ll2 h2 h3
    simp [CS, h1, e1, e2, val, okI, least, cont]; omega
  · obtain ⟨e1, e2⟩ := ll3 h2 h3
    simp [CS, h1, e1, e2, val, okI, least, cont]
    unfold lo2 hi2
    split <;> split <;> (try split) <;> (try split) <;> omega
  · obtain ⟨e1, e2⟩ := ll4 h2 h3
    simp [CS, h1, e1, e2, val, okI, least, cont]
    unfold lo2 hi2
    split <;> split <;> (try split) <;> (try split) <;> omega
  · simp [CS, h1, ll0 (Or.inr h2)]; omega

theorem CS3 (b c d : Int) (h : 128 ≤ b) (h' : b ≤ 255) : CS [b, c, d] = true ↔ (224 ≤ b ∧ b ≤ 244 ∧ lo2 b ≤ c ∧ c ≤ hi2 b ∧ 128 ≤ d ∧ d ≤ 191) := by
  have h1 : ¬ b < 128 := by omega
  rcases (show b < 192 ∨ (192 ≤ b ∧ b ≤ 223) ∨ (224 ≤ b ∧ b ≤ 239) ∨ (240 ≤ b ∧ b ≤ 247) ∨ 247 < b by omega) with h2 | ⟨h2, h3⟩ | ⟨h2, h3⟩ | ⟨h2, h3⟩ | h2
  · simp [CS, h1, ll0 (Or.inl h2)]; omega
  · obtain ⟨e1, e2⟩ := ll2 h2 h3
    simp [CS, h1, e1]; omega
  · obtain ⟨e1, e2⟩ := ll3 h2 h3
    simp [CS, h1, e1, e2, val, okI, least, cont]
    unfold lo2 hi2
    split <;> split <;> (try split) <;> (try split) <;> omega
  · obtain ⟨e1, e2⟩ := ll4 h2 h3
    simp [CS, h1, e1, e2, val, okI, least, cont]
    unfold lo2 hi2
    split <;> split <;> (try split) <;> (try split) <;> omega
  · simp [CS, h1, ll0 (Or.inr h2)]; omega

theorem CS4 (b c d e : Int) (h : 128 ≤ b) (h' : b ≤ 255) : CS [b, c, d, e] = true ↔ (240 ≤ b ∧ b ≤ 244 ∧ lo2 b ≤ c ∧ c ≤ hi2 b ∧ 128 ≤ d ∧ d ≤ 191 ∧ 128 ≤ e ∧ e ≤ 191) := by
  have h1 : ¬ b < 128 := by omega
  rcases (show b < 192 ∨ (192 ≤ b ∧ b ≤ 223) ∨ (224 ≤ b ∧ b ≤ 239) ∨ (240 ≤ b ∧ b ≤ 247) ∨ 247 < b by omega) with h2 | ⟨h2, h3⟩ | ⟨h2, h3⟩ | ⟨h2, h3⟩ | h2
  · simp [CS, h1, ll0 (Or.inl h2)]; omega
  · obtain ⟨e1, e2⟩ := ll2 h2 h3
    simp [CS, h1, e1]; omega
  · obtain ⟨e1, e2⟩ := ll3 h2 h3
    simp [CS, h1, e1]; omega
  · obtain ⟨e1, e2⟩ := ll4 h2 h3
    simp [CS, h1, e1, e2, val, okI, least, cont]
    unfold lo2 hi2
    split <;> split <;> (try split) <;> (try split) <;> omega
  · simp [CS, h1, ll0 (Or.inr h2)]; omega

end Go.Proofs.Qxb6000849a
