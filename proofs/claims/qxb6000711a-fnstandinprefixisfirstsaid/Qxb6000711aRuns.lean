/-
  Seat b6000711a: THE RUNS OF A TEXT (plain), and what a run is worth as a slice value.
-/
import Derived.Test.Qxb6000711aBase2
import Derived.Test.Qxb6000711aPlain
namespace Go.Proofs.Qxb6000711a
open Go.RowKit

theorem takeWhile_step {α : Type} (p : α → Bool) : ∀ (l : List α) (m : Nat), m ≤ (l.takeWhile p).length → (m < (l.takeWhile p).length ↔ ∃ x, l[m]? = some x ∧ p x = true)
  | [], m, _ => by simp
  | a :: r, m, h => by
    cases hp : p a
    · simp [hp] at h ⊢
      subst h
      simpa using hp
    · simp only [List.takeWhile_cons, hp, if_true, List.length_cons] at h ⊢
      cases m with
      | zero => simp [hp]
      | succ m =>
        have := takeWhile_step p r m (by omega)
        simp only [List.getElem?_cons_succ]
        rw [← this]
        omega

def span (zs : List Int) (i : Nat) : Nat := ((zs.drop i).takeWhile anchB).length

theorem span_le (zs : List Int) (i : Nat) : span zs i ≤ zs.length - i := by
  unfold span
  have := (List.takeWhile_prefix anchB (l := zs.drop i)).length_le
  simpa using this

theorem span_step (zs : List Int) (i m : Nat) (h : m ≤ span zs i) : m < span zs i ↔ i + m < zs.length ∧ anchB (zs.getD (i + m) 0) = true := by
  unfold span at h ⊢
  rw [takeWhile_step anchB _ m h, List.getElem?_drop]
  constructor
  · rintro ⟨x, hx, hp⟩
    have hl := (List.getElem?_eq_some_iff.1 hx).1
    refine ⟨hl, ?_⟩
    rw [List.getD_eq_getElem?_getD, hx]
    exact hp
  · rintro ⟨hl, hp⟩
    refine ⟨zs.getD (i + m) 0, ?_, hp⟩
    rw [List.getD_eq_getElem?_getD, List.getElem?_eq_getElem hl]
    rfl

def ampB (c : Int) : Bool := decide (c = 38 ∨ c = 42)

def runsTo (zs : List Int) : Nat → List (Nat × Nat)
  | 0 => []
  | k + 1 => runsTo zs k ++ (if ampB (zs.getD k 0) then [(k + 1, span zs (k + 1))] else [])

theorem runsTo_length (zs : List Int) : ∀ k, (runsTo zs k).length ≤ k
  | 0 => Nat.le_refl _
  | k + 1 => by
    have := runsTo_length zs k
    simp only [runsTo, List.length_append]
    split <;> simp <;> omega

theorem runsTo_hit (zs : List Int) (k : Nat) (h : ampB (zs.getD k 0) = true) : runsTo zs (k + 1) = runsTo zs k ++ [(k + 1, span zs (k + 1))] := by
  simp only [runsTo, h, if_true]
theorem runsTo_miss (zs : List Int) (k : Nat) (h : ampB (zs.getD k 0) = false) : runsTo zs (k + 1) = runsTo zs k := by
  simp only [runsTo, h, Bool.false_eq_true, if_false, List.append_nil]

theorem mem_runsTo (zs : List Int) (r : Nat × Nat) : ∀ k, r ∈ runsTo zs k ↔ ∃ i, i < k ∧ ampB (zs.getD i 0) = true ∧ r = (i + 1, span zs (i + 1))
  | 0 => by simp [runsTo]
  | k + 1 => by
    simp only [runsTo, List.mem_append, mem_runsTo zs r k]
    constructor
    · rintro (⟨i, hi, h1, h2⟩ | h)
      · exact ⟨i, by omega, h1, h2⟩
      · cases hp : ampB (zs.getD k 0)
        · rw [hp] at h; simp at h
        · rw [hp] at h; simp at h
          exact ⟨k, by omega, hp, h⟩
    · rintro ⟨i, hi, h1, h2⟩
      by_cases e : i = k
      · subst e
        right
        rw [h1]
        simp [h2]
      · exact Or.inl ⟨i, by omega, h1, h2⟩

/-- the bytes of a run's first s -/
def bit (zs : List Int) (st s : Nat) : List Int := (zs.drop st).take s

/-- some run starts with x, which is s long -/
def Taken (zs : List Int) (s : Nat) (x : List Int) : Prop := ∃ r ∈ runsTo zs zs.length, s ≤ r.2 ∧ bit zs r.1 s = x

end Go.Proofs.Qxb6000711a
