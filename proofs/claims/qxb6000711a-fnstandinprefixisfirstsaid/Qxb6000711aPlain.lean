/-
  Seat b6000711a: THE PLAIN MATHEMATICS: the names over '_', 'a' .. 'z' in their order; the next name; the runs of a text; pigeons. No Go in sight.
-/
namespace Go.Proofs.Qxb6000711a

/-! ### the letters and the names -/
def letter (d : Nat) : Int := if d = 0 then 95 else 96 + (d : Int)
def sc (c : Int) : Int := if c = 95 then 97 else c + 1

theorem letter_inj {a b : Nat} (h : letter a = letter b) : a = b := by
  unfold letter at h
  split at h <;> split at h <;> omega
theorem letter_lo (d : Nat) : 95 ≤ letter d := by unfold letter; split <;> omega
theorem letter_hi {d : Nat} (_h : d < 27) : letter d ≤ 122 := by unfold letter; split <;> omega
theorem letter_z {d : Nat} (_h : d < 27) : letter d = 122 ↔ d = 26 := by unfold letter; split <;> omega
theorem letter_stand {d : Nat} (_h : d < 27) : letter d = 95 ∨ (97 ≤ letter d ∧ letter d ≤ 122) := by unfold letter; split <;> omega
theorem letter_succ (d : Nat) : sc (letter d) = letter (d + 1) := by
  unfold sc letter
  rw [if_neg (show ¬ d + 1 = 0 by omega)]
  by_cases h : d = 0
  · subst h; simp
  · rw [if_neg h, if_neg (by omega)]
    omega

def name : Nat → Nat → List Int
  | 0, _ => []
  | s + 1, j => name s (j / 27) ++ [letter (j % 27)]

theorem name_length : ∀ s j, (name s j).length = s
  | 0, _ => rfl
  | s + 1, j => by simp [name, name_length s]

theorem name_inj : ∀ s i j, i < 27 ^ s → j < 27 ^ s → name s i = name s j → i = j
  | 0, i, j, hi, hj, _ => by simp at hi hj; omega
  | s + 1, i, j, hi, hj, h => by
    simp only [name] at h
    obtain ⟨h1, h2⟩ := List.append_inj' h rfl
    have e := letter_inj (by simpa using h2)
    have hp : 27 ^ (s + 1) = 27 ^ s * 27 := Nat.pow_succ 27 s
    have e2 := name_inj s (i / 27) (j / 27) (by omega) (by omega) h1
    omega

theorem name_mem : ∀ s j, ∀ c ∈ name s j, c = 95 ∨ (97 ≤ c ∧ c ≤ 122)
  | 0, _, c, h => by simp [name] at h
  | s + 1, j, c, h => by
    simp only [name, List.mem_append, List.mem_singleton] at h
    rcases h with h | rfl
    · exact name_mem s _ c h
    · exact letter_stand (by omega)

theorem name_getD : ∀ s j k, k < s → (name s j).getD k 0 = letter ((j / 27 ^ (s - 1 - k)) % 27)
  | 0, _, _, h => by omega
  | s + 1, j, k, h => by
    simp only [name]
    by_cases hk : k < s
    · rw [List.getD_eq_getElem?_getD, List.getElem?_append_left (by rw [name_length]; exact hk), ← List.getD_eq_getElem?_getD, name_getD s (j / 27) k hk, Nat.div_div_eq_div_mul, show s + 1 - 1 - k = (s - 1 - k) + 1 by omega, Nat.pow_succ, Nat.mul_comm]
    · have : k = s := by omega
      subst this
      rw [List.getD_eq_getElem?_getD, List.getElem?_append_right (by rw [name_length]; omega), name_length]
      simp

theorem name_zero : ∀ s, name s 0 = List.replicate s 95
  | 0 => rfl
  | s + 1 => by
    simp only [name]
    rw [show (0 : Nat) / 27 = 0 from rfl, name_zero s, List.replicate_succ']
    rfl

/-! ### the next name -/
def inc : List Int → List Int × Bool
  | [] => ([], false)
  | c :: r => if (inc r).2 then (c :: (inc r).1, true) else if c = 122 then (95 :: (inc r).1, false) else (sc c :: (inc r).1, true)

theorem inc_snoc : ∀ (l : List Int) (x : Int), inc (l ++ [x]) = if x = 122 then ((inc l).1 ++ [95], (inc l).2) else (l ++ [sc x], true)
  | [], x => by
    simp only [List.nil_append, inc]
    by_cases h : x = 122 <;> simp [h]
  | c :: r, x => by
    simp only [List.cons_append, inc, inc_snoc r x]
    by_cases h : x = 122
    · simp only [h, if_true]
      by_cases h2 : (inc r).2 = true
      · simp [h2]
      · by_cases h3 : c = 122 <;> simp [h2, h3]
    · simp [h]

theorem inc_name : ∀ s j, j + 1 < 27 ^ s → inc (name s j) = (name s (j + 1), true)
  | 0, j, h => by simp at h
  | s + 1, j, h => by
    have hp : 27 ^ (s + 1) = 27 ^ s * 27 := Nat.pow_succ 27 s
    simp only [name]
    rw [inc_snoc]
    by_cases hz : j % 27 = 26
    · rw [if_pos ((letter_z (by omega)).2 hz), inc_name s (j / 27) (by omega)]
      rw [show (j + 1) / 27 = j / 27 + 1 by omega, show (j + 1) % 27 = 0 by omega]
      rfl
    · rw [if_neg (fun e => hz ((letter_z (by omega)).1 e)), letter_succ]
      rw [show (j + 1) / 27 = j / 27 by omega, show (j + 1) % 27 = j % 27 + 1 by omega]

theorem inc_last : ∀ s j, j + 1 = 27 ^ s → (inc (name s j)).2 = false
  | 0, j, _ => rfl
  | s + 1, j, h => by
    have hp : 27 ^ (s + 1) = 27 ^ s * 27 := Nat.pow_succ 27 s
    simp only [name]
    rw [inc_snoc, if_pos ((letter_z (by omega)).2 (by omega))]
    exact inc_last s (j / 27) (by omega)

theorem inc_length : ∀ l : List Int, (inc l).1.length = l.length
  | [] => rfl
  | c :: r => by
    simp only [inc]
    split
    · simp [inc_length r]
    · split <;> simp [inc_length r]

/-- all 'z': all '_', and no more -/
theorem inc_all : ∀ l : List Int, (∀ i, i < l.length → l.getD i 0 = 122) → (inc l).2 = false ∧ ∀ i, i < l.length → (inc l).1.getD i 0 = 95
  | [], _ => ⟨rfl, fun i h => by simp at h⟩
  | c :: r, h => by
    obtain ⟨h1, h2⟩ := inc_all r (fun i hi => by have := h (i + 1) (by simp; omega); simpa using this)
    have hc : c = 122 := by have := h 0 (by simp); simpa using this
    simp only [inc, h1, Bool.false_eq_true, if_false, hc, if_true]
    refine ⟨trivial, fun i hi => ?_⟩
    cases i with
    | zero => simp
    | succ i => have := h2 i (by simp at hi; omega); simpa using this

/-- at m no 'z', behind it all 'z' -/
theorem inc_at : ∀ (l : List Int) (m : Nat), m < l.length → l.getD m 0 ≠ 122 → (∀ i, m < i → i < l.length → l.getD i 0 = 122) →
    (inc l).2 = true ∧ ∀ i, i < l.length → (inc l).1.getD i 0 = if i < m then l.getD i 0 else if i = m then sc (l.getD m 0) else 95
  | [], m, h, _, _ => by simp at h
  | c :: r, 0, _, h2, h3 => by
    obtain ⟨h4, h5⟩ := inc_all r (fun i hi => by have := h3 (i + 1) (by omega) (by simp; omega); simpa using this)
    have hc : ¬ c = 122 := by simpa using h2
    simp only [inc, h4, Bool.false_eq_true, if_false, hc]
    refine ⟨trivial, fun i hi => ?_⟩
    cases i with
    | zero => simp
    | succ i => have := h5 i (by simp at hi; omega); simpa using this
  | c :: r, m + 1, h1, h2, h3 => by
    obtain ⟨h4, h5⟩ := inc_at r m (by simp at h1; omega) (by simpa using h2) (fun i hi hl => by have := h3 (i + 1) (by omega) (by simp; omega); simpa using this)
    simp only [inc, h4, if_true]
    refine ⟨trivial, fun i hi => ?_⟩
    cases i with
    | zero => simp
    | succ i => have := h5 i (by simp at hi; omega); simpa using this

/-! ### pigeons -/
theorem pigeons {α : Type} [DecidableEq α] : ∀ (l m : List α), l.Nodup → (∀ x ∈ l, x ∈ m) → l.length ≤ m.length
  | [], _, _, _ => Nat.zero_le _
  | a :: r, m, hn, hs => by
    obtain ⟨h1, h2⟩ := List.nodup_cons.1 hn
    have ha := hs a (by simp)
    have := pigeons r (m.erase a) h2 (fun x hx => (List.mem_erase_of_ne (fun e => h1 (by rw [← e]; exact hx))).2 (hs x (by simp [hx])))
    rw [List.length_erase_of_mem ha] at this
    have hp : 0 < m.length := List.length_pos_of_mem ha
    simp only [List.length_cons]
    omega

theorem names_nodup (s m : Nat) (hm : m ≤ 27 ^ s) : ((List.range m).map (name s)).Nodup := by
  rw [List.Nodup, List.pairwise_map]
  refine List.Pairwise.imp_of_mem ?_ List.nodup_range
  intro a b ha hb hne e
  simp at ha hb
  exact hne (name_inj s a b (by omega) (by omega) e)

end Go.Proofs.Qxb6000711a
