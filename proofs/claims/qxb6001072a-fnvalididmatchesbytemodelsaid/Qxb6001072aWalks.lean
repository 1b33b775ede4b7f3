/-
  Seat b6001072a: zzBytes (6), validID (11) and its alias (7), modelID (8): both answer whether the string is good.
-/
import Derived.Test.Qxb6001072aRows
import Derived.WalkKit
import Derived.WalkSpells
import Derived.Below
namespace Go.Proofs.Qxb6001072a
open Go.RowKit

theorem ret_bool {a b : Bool} (h : a = b) : Ending.returned (.bool a) = .returned (.bool b) := by rw [h]

/-- the byte c may stand at place i -/
def Ok (i : Nat) (c : Nat) : Prop := (97 ≤ c ∧ c ≤ 122) ∨ (48 ≤ c ∧ c ≤ 57) ∨ (c = 45 ∧ 0 < i)
/-- a good id -/
def Good (s : ByteArray) : Prop := 0 < s.size ∧ ∀ i (h : i < s.size), Ok i s[i].toNat

def okB (i c : Nat) : Bool := decide ((97 ≤ c ∧ c ≤ 122) ∨ (48 ≤ c ∧ c ≤ 57) ∨ (c = 45 ∧ 0 < i))
def goodB (s : ByteArray) : Bool := decide (0 < s.size) && (List.range s.size).all (fun i => okB i (s.data.toList.getD i 0).toNat)
theorem byte_at (s : ByteArray) (i : Nat) (h : i < s.size) : s.data.toList.getD i 0 = s[i] := by
  rw [List.getD_eq_getElem?_getD, List.getElem?_eq_getElem (by simpa using h)]
  rfl
theorem goodB_iff (s : ByteArray) : goodB s = true ↔ Good s := by
  unfold goodB Good
  rw [Bool.and_eq_true, List.all_eq_true]
  constructor
  · rintro ⟨h1, h2⟩
    refine ⟨of_decide_eq_true h1, fun i h => ?_⟩
    have := h2 i (List.mem_range.2 h)
    rw [byte_at s i h] at this
    unfold Ok
    exact of_decide_eq_true this
  · rintro ⟨h1, h2⟩
    refine ⟨decide_eq_true h1, fun i hi => ?_⟩
    have h := List.mem_range.1 hi
    rw [byte_at s i h]
    have q := h2 i h
    unfold Ok at q
    exact decide_eq_true q
theorem goodB_yes {s : ByteArray} (h : Good s) : true = goodB s := ((goodB_iff s).2 h).symm
theorem goodB_no {s : ByteArray} (h : ¬ Good s) : false = goodB s := by
  cases hg : goodB s
  · rfl
  · exact absurd ((goodB_iff s).1 hg) h

theorem bytes_yes (s : ByteArray) (w : World) (hn : s.size ≤ 1048576) :
    Calls Try.prog 6 #[.string s] w fun e w' => e = .returned (.bool true) ∧ w = w' := by
  go_enter Try.func6, Try.ntmps6
  go_wp2
  go_ret
  exact ⟨rfl, rfl⟩
theorem bytes_no (s : ByteArray) (w : World) (hn : 1048576 < s.size) (hm : s.size ≤ maxLen) :
    Calls Try.prog 6 #[.string s] w fun e w' => e = .returned (.bool false) ∧ w = w' := by
  unfold maxLen at hm
  go_enter Try.func6, Try.ntmps6
  go_wp2
  go_ret
  exact ⟨rfl, rfl⟩

set_option maxHeartbeats 1000000 in
theorem model_any (s : ByteArray) (w : World) (hn : s.size ≤ 1048576) :
    Calls Try.prog 8 #[.string s] w fun e w' => e = .returned (.bool (goodB s)) ∧ w = w' := by
  by_cases h0 : s.size = 0
  · have hz : ((s.size : Int) == 0) = true := beq_iff_eq.2 (by omega)
    have HG : Hid (¬ Good s) := fun h => by have := h.1; omega
    clear h0
    go_enter Try.func8, Try.ntmps8
    go_wp2
    go_ret
    exact ⟨ret_bool (goodB_no HG.out), rfl⟩
  have hp : 0 < s.size := by omega
  have hz : ((s.size : Int) == 0) = false := beq_eq_false_iff_ne.2 (by omega)
  clear h0
  by_cases h45 : s[0].toNat = 45
  · have HG : Hid (¬ Good s) := fun h => by
      have := h.2 0 hp
      rw [h45] at this
      unfold Ok at this
      omega
    have h45' : ((s[0].toNat : Int) == 45) = true := beq_iff_eq.2 (by omega)
    clear h45
    go_enter Try.func8, Try.ntmps8
    go_wp2
    go_ret
    exact ⟨ret_bool (goodB_no HG.out), rfl⟩
  have H45 : Hid (¬ s[0].toNat = 45) := h45
  have h45' : ((s[0].toNat : Int) == 45) = false := beq_eq_false_iff_ne.2 (by omega)
  clear h45
  go_enter Try.func8, Try.ntmps8
  go_wp2
  go_loop [3] (fun i => ∃ k : Nat, k ≤ s.size ∧ i = .int .i64 k ∧ ∀ j (h : j < s.size), j < k → Ok j s[j].toNat) (fun i => s.size - (intOf i).toNat)
  case atStart => exact ⟨0, Nat.zero_le _, rfl, fun j h hj => by omega⟩
  case round =>
    obtain ⟨k, hk, rfl, hok⟩ := hrel
    have HO : Hid (∀ j (h : j < s.size), j < k → Ok j s[j].toNat) := hok
    clear hok
    by_cases hlt : k < s.size
    · by_cases c1 : 97 ≤ s[k].toNat ∧ s[k].toNat ≤ 122
      · have HK : Hid (Ok k s[k].toNat) := Or.inl c1
        obtain ⟨c1, c2⟩ := c1
        go_wp2
        all_goals
          go_round
          case rel => exact ⟨k + 1, by omega, by go_num, fun j h hj => by
            by_cases e : j = k
            · subst e; exact HK.out
            · exact HO.out j h (by omega)⟩
          case measure => simp [intOf]; omega
      · by_cases c2 : 48 ≤ s[k].toNat ∧ s[k].toNat ≤ 57
        · have HK : Hid (Ok k s[k].toNat) := Or.inr (Or.inl c2)
          obtain ⟨c2, c3⟩ := c2
          clear c1
          go_wp2
          all_goals
            go_round
            case rel => exact ⟨k + 1, by omega, by go_num, fun j h hj => by
              by_cases e : j = k
              · subst e; exact HK.out
              · exact HO.out j h (by omega)⟩
            case measure => simp [intOf]; omega
        · by_cases c3 : s[k].toNat = 45
          · have HK : Hid (Ok k s[k].toNat) := Or.inr (Or.inr ⟨c3, by
              by_cases e : k = 0
              · subst e; exact absurd c3 H45.out
              · omega⟩)
            have c3' : ((s[k].toNat : Int) == 45) = true := beq_iff_eq.2 (by omega)
            have c4 : s[k].toNat < 48 := by omega
            clear c1 c2 c3
            go_wp2
            all_goals
              go_round
              case rel => exact ⟨k + 1, by omega, by go_num, fun j h hj => by
                by_cases e : j = k
                · subst e; exact HK.out
                · exact HO.out j h (by omega)⟩
              case measure => simp [intOf]; omega
          · have HK : Hid (¬ Good s) := fun h => by
              have := h.2 k hlt
              unfold Ok at this
              omega
            have c3' : ((s[k].toNat : Int) == 45) = false := beq_eq_false_iff_ne.2 (by omega)
            rcases (show s[k].toNat < 48 ∨ (57 < s[k].toNat ∧ s[k].toNat < 97) ∨ 122 < s[k].toNat by omega) with c4 | ⟨c4, c5⟩ | c4
            · clear c1 c2 c3
              go_wp2
              go_ret
              exact ⟨ret_bool (goodB_no HK.out), rfl⟩
            · have d57 : decide ((s[k].toNat : Int) ≤ 57) = false := decide_eq_false (by omega)
              clear c1 c2 c3
              go_wp2
              go_ret
              exact ⟨ret_bool (goodB_no HK.out), rfl⟩
            · have d57 : decide ((s[k].toNat : Int) ≤ 57) = false := decide_eq_false (by omega)
              have d122 : decide ((s[k].toNat : Int) ≤ 122) = false := decide_eq_false (by omega)
              clear c1 c2 c3
              go_wp2
              go_ret
              exact ⟨ret_bool (goodB_no HK.out), rfl⟩
    · have HG : Hid (Good s) := ⟨hp, fun i h => HO.out i h (by omega)⟩
      go_wp2
      go_ret
      exact ⟨ret_bool (goodB_yes HG.out), rfl⟩

end Go.Proofs.Qxb6001072a
