/-
  Seat b6000711a: THE SMALL CALLEES' CONTRACTS: zzBytes (6, 11), isLower (17), isStandInByte (9), isAnchorByte (18), cloneBytes (7).
-/
import Derived.Test.Qxb6000711aRows
import Derived.WalkKit
import Derived.WalkSpells
import Derived.Below
namespace Go.Proofs.Qxb6000711a
open Go.RowKit

def lowB (c : Int) : Bool := decide (97 ≤ c ∧ c ≤ 122)
def standB (c : Int) : Bool := decide (c = 95 ∨ (97 ≤ c ∧ c ≤ 122))
def anchB (c : Int) : Bool := decide ((97 ≤ c ∧ c ≤ 122) ∨ (65 ≤ c ∧ c ≤ 90) ∨ (48 ≤ c ∧ c ≤ 57) ∨ c = 95 ∨ c = 45)

theorem ret_bool {a b : Bool} (h : a = b) : Ending.returned (.bool a) = .returned (.bool b) := by rw [h]

theorem bytes_free (ao : Option Addr) (n c : Nat) (w : World) (hn : n ≤ 1048576) :
    Calls Try.prog 6 #[.slice ao n c] w fun e w' => e = .returned (.bool true) ∧ w' = w := by
  go_enter Try.func6, Try.ntmps6
  go_wp2
  go_ret
  exact ⟨rfl, rfl⟩

theorem bytes_free_no (ao : Option Addr) (n c : Nat) (w : World) (hn : 1048576 < n) :
    Calls Try.prog 6 #[.slice ao n c] w fun e w' => e = .returned (.bool false) ∧ w' = w := by
  go_enter Try.func6, Try.ntmps6
  go_wp2
  go_ret
  exact ⟨rfl, rfl⟩

theorem bytes_first (ao : Option Addr) (n c : Nat) (w : World) (hn : n ≤ 1048576) :
    Calls Try.prog 11 #[.slice ao n c] w fun e w' => e = .returned (.bool true) ∧ w' = w := by
  go_enter Try.func11, Try.ntmps11
  go_wp2
  go_ret
  exact ⟨rfl, rfl⟩

theorem bytes_first_no (ao : Option Addr) (n c : Nat) (w : World) (hn : 1048576 < n) :
    Calls Try.prog 11 #[.slice ao n c] w fun e w' => e = .returned (.bool false) ∧ w' = w := by
  go_enter Try.func11, Try.ntmps11
  go_wp2
  go_ret
  exact ⟨rfl, rfl⟩

theorem low_any (c : Int) (w : World) :
    Calls Try.prog 17 #[.int .u8 c] w fun e w' => e = .returned (.bool (lowB c)) ∧ w' = w := by
  by_cases h1 : 97 ≤ c
  · by_cases h2 : c ≤ 122
    · go_enter Try.func17, Try.ntmps17
      go_wp2
      go_ret
      exact ⟨ret_bool (by simp [lowB, h1, h2]), rfl⟩
    · go_enter Try.func17, Try.ntmps17
      go_wp2
      go_ret
      exact ⟨ret_bool (by simp [lowB]; omega), rfl⟩
  · go_enter Try.func17, Try.ntmps17
    go_wp2
    go_ret
    exact ⟨ret_bool (by simp [lowB]; omega), rfl⟩

theorem stand_any (c : Int) (w : World) :
    Calls Try.prog 9 #[.int .u8 c] w fun e w' => e = .returned (.bool (standB c)) ∧ w' = w := by
  by_cases h1 : c = 95
  · subst h1
    go_enter Try.func9, Try.ntmps9
    go_wp2
    go_ret
    exact ⟨ret_bool (by simp [standB]), rfl⟩
  · have h1' : (c == 95) = false := by simpa using h1
    go_enter Try.func9, Try.ntmps9
    go_wp2_with (go_at_call 17; refine (low_any _ _).mono ?_; rintro e w' ⟨rfl, rfl⟩)
    go_ret
    exact ⟨ret_bool (by simp [standB, lowB, h1]), rfl⟩

end Go.Proofs.Qxb6000711a
