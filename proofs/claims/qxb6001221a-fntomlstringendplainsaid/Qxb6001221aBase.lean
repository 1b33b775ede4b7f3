/-
  Seat b6001221a: zzBytes (10), zzPlainBody (11).
-/
import Derived.Test.Qxb6001221aRows
import Derived.WalkKit
import Derived.WalkSpells
import Derived.Below
namespace Go.Proofs.Qxb6001221a
open Go.RowKit

theorem ret_bool {a b : Bool} (h : a = b) : Ending.returned (.bool a) = .returned (.bool b) := by rw [h]
theorem ret_int {k : IntKind} {a b : Int} (h : a = b) : Ending.returned (.int k a) = .returned (.int k b) := by rw [h]

theorem bytes_yes (p b r : ByteArray) (d m : Bool) (w : World) (h1 : p.size ≤ 262144) (h2 : b.size ≤ 262144) (h3 : r.size ≤ 262144) :
    Calls Try.prog 10 #[.string p, .string b, .string r, .bool d, .bool m] w fun e w' => e = .returned (.bool true) ∧ w = w' := by
  go_enter Try.func10, Try.ntmps10
  go_wp2
  go_ret
  exact ⟨rfl, rfl⟩

/-- byte k of a string -/
def tb (T : ByteArray) (k : Nat) : Nat := (T.data.toList.getD k 0).toNat
theorem tb_at (T : ByteArray) (k : Nat) (h : k < T.size) : T[k].toNat = tb T k := by
  unfold tb
  rw [List.getD_eq_getElem?_getD, List.getElem?_eq_getElem (by simpa using h)]
  rfl

/-- the byte c may stand in a plain body -/
def PlainC (q c : Nat) (m : Bool) : Prop := c ≠ q ∧ (q = 34 → c ≠ 92) ∧ (m = false → c ≠ 10 ∧ c ≠ 13)
def plainC (q c : Nat) (m : Bool) : Bool := decide (c ≠ q ∧ (q = 34 → c ≠ 92) ∧ (m = false → c ≠ 10 ∧ c ≠ 13))
/-- a plain body -/
def Plain (B : ByteArray) (q : Nat) (m : Bool) : Prop := (m = false → 0 < B.size) ∧ ∀ k, k < B.size → PlainC q (tb B k) m
def plainB (B : ByteArray) (q : Nat) (m : Bool) : Bool := (m || decide (0 < B.size)) && (List.range B.size).all (fun k => plainC q (tb B k) m)

theorem plainB_iff (B : ByteArray) (q : Nat) (m : Bool) : plainB B q m = true ↔ Plain B q m := by
  unfold plainB Plain
  rw [Bool.and_eq_true, List.all_eq_true]
  constructor
  · rintro ⟨h1, h2⟩
    refine ⟨fun hm => ?_, fun k hk => ?_⟩
    · rw [hm] at h1; simpa using h1
    · have := h2 k (List.mem_range.2 hk)
      unfold PlainC
      exact of_decide_eq_true this
  · rintro ⟨h1, h2⟩
    refine ⟨?_, fun k hk => ?_⟩
    · cases m
      · simpa using h1 rfl
      · rfl
    · have := h2 k (List.mem_range.1 hk)
      unfold PlainC at this
      exact decide_eq_true this
theorem plainB_yes {B : ByteArray} {q : Nat} {m : Bool} (h : Plain B q m) : true = plainB B q m := ((plainB_iff B q m).2 h).symm
theorem plainB_no {B : ByteArray} {q : Nat} {m : Bool} (h : ¬ Plain B q m) : false = plainB B q m := by
  cases hg : plainB B q m
  · rfl
  · exact absurd ((plainB_iff B q m).1 hg) h

set_option maxHeartbeats 1000000 in
theorem plain_34_false (B : ByteArray) (w : World) (hn : B.size ≤ 262144) (hp : 0 < B.size) :
    Calls Try.prog 11 #[.string B, .int .u8 34, .bool false] w fun e w' => e = .returned (.bool (plainB B 34 false)) ∧ w = w' := by
  have hz : ((B.size : Int) == 0) = false := beq_eq_false_iff_ne.2 (by omega)
  go_enter Try.func11, Try.ntmps11
  go_wp2
  go_loop [7] (fun i => ∃ k : Nat, k ≤ B.size ∧ i = .int .i64 k ∧ ∀ j, j < k → PlainC 34 (tb B j) false) (fun i => B.size - (intOf i).toNat)
  case atStart => exact ⟨0, Nat.zero_le _, rfl, fun j hj => by omega⟩
  case round =>
    obtain ⟨k, hk, rfl, hok⟩ := hrel
    have HO : Hid (∀ j, j < k → PlainC 34 (tb B j) false) := hok
    clear hok
    by_cases hlt : k < B.size
    · have HT : Hid (B[k].toNat = tb B k) := tb_at B k hlt
      by_cases c34 : B[k].toNat = 34
      · have HG : Hid (¬ Plain B 34 false) := fun h => by
          have h1 := h.2 k hlt
          have h2 := HT.out
          rw [c34] at h2
          rw [← h2] at h1
          exact absurd h1 (by unfold PlainC; decide)
        have f34 : ((B[k].toNat : Int) == 34) = true := beq_iff_eq.2 (by omega)
        clear c34
        go_wp2
        go_ret
        exact ⟨ret_bool (plainB_no HG.out), rfl⟩
      by_cases c92 : B[k].toNat = 92
      · have HG : Hid (¬ Plain B 34 false) := fun h => by
          have h1 := h.2 k hlt
          have h2 := HT.out
          rw [c92] at h2
          rw [← h2] at h1
          exact absurd h1 (by unfold PlainC; decide)
        have f34 : ((B[k].toNat : Int) == 34) = false := beq_eq_false_iff_ne.2 (by omega)
        have f92 : ((B[k].toNat : Int) == 92) = true := beq_iff_eq.2 (by omega)
        clear c92 c34
        go_wp2
        go_ret
        exact ⟨ret_bool (plainB_no HG.out), rfl⟩
      by_cases c10 : B[k].toNat = 10
      · have HG : Hid (¬ Plain B 34 false) := fun h => by
          have h1 := h.2 k hlt
          have h2 := HT.out
          rw [c10] at h2
          rw [← h2] at h1
          exact absurd h1 (by unfold PlainC; decide)
        have f34 : ((B[k].toNat : Int) == 34) = false := beq_eq_false_iff_ne.2 (by omega)
        have f92 : ((B[k].toNat : Int) == 92) = false := beq_eq_false_iff_ne.2 (by omega)
        have f10 : ((B[k].toNat : Int) == 10) = true := beq_iff_eq.2 (by omega)
        clear c10 c34 c92
        go_wp2
        go_ret
        exact ⟨ret_bool (plainB_no HG.out), rfl⟩
      by_cases c13 : B[k].toNat = 13
      · have HG : Hid (¬ Plain B 34 false) := fun h => by
          have h1 := h.2 k hlt
          have h2 := HT.out
          rw [c13] at h2
          rw [← h2] at h1
          exact absurd h1 (by unfold PlainC; decide)
        have f34 : ((B[k].toNat : Int) == 34) = false := beq_eq_false_iff_ne.2 (by omega)
        have f92 : ((B[k].toNat : Int) == 92) = false := beq_eq_false_iff_ne.2 (by omega)
        have f10 : ((B[k].toNat : Int) == 10) = false := beq_eq_false_iff_ne.2 (by omega)
        have f13 : ((B[k].toNat : Int) == 13) = true := beq_iff_eq.2 (by omega)
        clear c13 c34 c92 c10
        go_wp2
        go_ret
        exact ⟨ret_bool (plainB_no HG.out), rfl⟩
      have f34 : ((B[k].toNat : Int) == 34) = false := beq_eq_false_iff_ne.2 (by omega)
      have f92 : ((B[k].toNat : Int) == 92) = false := beq_eq_false_iff_ne.2 (by omega)
      have f10 : ((B[k].toNat : Int) == 10) = false := beq_eq_false_iff_ne.2 (by omega)
      have f13 : ((B[k].toNat : Int) == 13) = false := beq_eq_false_iff_ne.2 (by omega)
      have HK : Hid (PlainC 34 (tb B k) false) := by
        show PlainC 34 (tb B k) false
        have h2 := HT.out
        unfold PlainC
        rw [← h2]
        exact ⟨c34, fun _ => c92, fun _ => ⟨c10, c13⟩⟩
      clear c34 c92 c10 c13
      go_wp2
      go_round
      case rel => exact ⟨k + 1, by omega, by go_num, fun j hj => by
        by_cases e : j = k
        · subst e; exact HK.out
        · exact HO.out j (by omega)⟩
      case measure => simp [intOf]; omega
    · have HG : Hid (Plain B 34 false) := ⟨fun _ => hp, fun j hj => HO.out j (by omega)⟩
      go_wp2
      go_ret
      exact ⟨ret_bool (plainB_yes HG.out), rfl⟩

set_option maxHeartbeats 1000000 in
theorem plain_34_true (B : ByteArray) (w : World) (hn : B.size ≤ 262144) :
    Calls Try.prog 11 #[.string B, .int .u8 34, .bool true] w fun e w' => e = .returned (.bool (plainB B 34 true)) ∧ w = w' := by
  go_enter Try.func11, Try.ntmps11
  go_wp2
  go_loop [7] (fun i => ∃ k : Nat, k ≤ B.size ∧ i = .int .i64 k ∧ ∀ j, j < k → PlainC 34 (tb B j) true) (fun i => B.size - (intOf i).toNat)
  case atStart => exact ⟨0, Nat.zero_le _, rfl, fun j hj => by omega⟩
  case round =>
    obtain ⟨k, hk, rfl, hok⟩ := hrel
    have HO : Hid (∀ j, j < k → PlainC 34 (tb B j) true) := hok
    clear hok
    by_cases hlt : k < B.size
    · have HT : Hid (B[k].toNat = tb B k) := tb_at B k hlt
      by_cases c34 : B[k].toNat = 34
      · have HG : Hid (¬ Plain B 34 true) := fun h => by
          have h1 := h.2 k hlt
          have h2 := HT.out
          rw [c34] at h2
          rw [← h2] at h1
          exact absurd h1 (by unfold PlainC; decide)
        have f34 : ((B[k].toNat : Int) == 34) = true := beq_iff_eq.2 (by omega)
        clear c34
        go_wp2
        go_ret
        exact ⟨ret_bool (plainB_no HG.out), rfl⟩
      by_cases c92 : B[k].toNat = 92
      · have HG : Hid (¬ Plain B 34 true) := fun h => by
          have h1 := h.2 k hlt
          have h2 := HT.out
          rw [c92] at h2
          rw [← h2] at h1
          exact absurd h1 (by unfold PlainC; decide)
        have f34 : ((B[k].toNat : Int) == 34) = false := beq_eq_false_iff_ne.2 (by omega)
        have f92 : ((B[k].toNat : Int) == 92) = true := beq_iff_eq.2 (by omega)
        clear c92 c34
        go_wp2
        go_ret
        exact ⟨ret_bool (plainB_no HG.out), rfl⟩
      have f34 : ((B[k].toNat : Int) == 34) = false := beq_eq_false_iff_ne.2 (by omega)
      have f92 : ((B[k].toNat : Int) == 92) = false := beq_eq_false_iff_ne.2 (by omega)
      have HK : Hid (PlainC 34 (tb B k) true) := by
        show PlainC 34 (tb B k) true
        have h2 := HT.out
        unfold PlainC
        rw [← h2]
        exact ⟨c34, fun _ => c92, (fun h => by cases h)⟩
      clear c34 c92
      go_wp2
      go_round
      case rel => exact ⟨k + 1, by omega, by go_num, fun j hj => by
        by_cases e : j = k
        · subst e; exact HK.out
        · exact HO.out j (by omega)⟩
      case measure => simp [intOf]; omega
    · have HG : Hid (Plain B 34 true) := ⟨(fun h => by cases h), fun j hj => HO.out j (by omega)⟩
      go_wp2
      go_ret
      exact ⟨ret_bool (plainB_yes HG.out), rfl⟩

set_option maxHeartbeats 1000000 in
theorem plain_39_false (B : ByteArray) (w : World) (hn : B.size ≤ 262144) (hp : 0 < B.size) :
    Calls Try.prog 11 #[.string B, .int .u8 39, .bool false] w fun e w' => e = .returned (.bool (plainB B 39 false)) ∧ w = w' := by
  have hz : ((B.size : Int) == 0) = false := beq_eq_false_iff_ne.2 (by omega)
  go_enter Try.func11, Try.ntmps11
  go_wp2
  go_loop [7] (fun i => ∃ k : Nat, k ≤ B.size ∧ i = .int .i64 k ∧ ∀ j, j < k → PlainC 39 (tb B j) false) (fun i => B.size - (intOf i).toNat)
  case atStart => exact ⟨0, Nat.zero_le _, rfl, fun j hj => by omega⟩
  case round =>
    obtain ⟨k, hk, rfl, hok⟩ := hrel
    have HO : Hid (∀ j, j < k → PlainC 39 (tb B j) false) := hok
    clear hok
    by_cases hlt : k < B.size
    · have HT : Hid (B[k].toNat = tb B k) := tb_at B k hlt
      by_cases c39 : B[k].toNat = 39
      · have HG : Hid (¬ Plain B 39 false) := fun h => by
          have h1 := h.2 k hlt
          have h2 := HT.out
          rw [c39] at h2
          rw [← h2] at h1
          exact absurd h1 (by unfold PlainC; decide)
        have f39 : ((B[k].toNat : Int) == 39) = true := beq_iff_eq.2 (by omega)
        clear c39
        go_wp2
        go_ret
        exact ⟨ret_bool (plainB_no HG.out), rfl⟩
      by_cases c10 : B[k].toNat = 10
      · have HG : Hid (¬ Plain B 39 false) := fun h => by
          have h1 := h.2 k hlt
          have h2 := HT.out
          rw [c10] at h2
          rw [← h2] at h1
          exact absurd h1 (by unfold PlainC; decide)
        have f39 : ((B[k].toNat : Int) == 39) = false := beq_eq_false_iff_ne.2 (by omega)
        have f10 : ((B[k].toNat : Int) == 10) = true := beq_iff_eq.2 (by omega)
        clear c10 c39
        go_wp2
        go_ret
        exact ⟨ret_bool (plainB_no HG.out), rfl⟩
      by_cases c13 : B[k].toNat = 13
      · have HG : Hid (¬ Plain B 39 false) := fun h => by
          have h1 := h.2 k hlt
          have h2 := HT.out
          rw [c13] at h2
          rw [← h2] at h1
          exact absurd h1 (by unfold PlainC; decide)
        have f39 : ((B[k].toNat : Int) == 39) = false := beq_eq_false_iff_ne.2 (by omega)
        have f10 : ((B[k].toNat : Int) == 10) = false := beq_eq_false_iff_ne.2 (by omega)
        have f13 : ((B[k].toNat : Int) == 13) = true := beq_iff_eq.2 (by omega)
        clear c13 c39 c10
        go_wp2
        go_ret
        exact ⟨ret_bool (plainB_no HG.out), rfl⟩
      have f39 : ((B[k].toNat : Int) == 39) = false := beq_eq_false_iff_ne.2 (by omega)
      have f10 : ((B[k].toNat : Int) == 10) = false := beq_eq_false_iff_ne.2 (by omega)
      have f13 : ((B[k].toNat : Int) == 13) = false := beq_eq_false_iff_ne.2 (by omega)
      have HK : Hid (PlainC 39 (tb B k) false) := by
        show PlainC 39 (tb B k) false
        have h2 := HT.out
        unfold PlainC
        rw [← h2]
        exact ⟨c39, (fun h => by omega), fun _ => ⟨c10, c13⟩⟩
      clear c39 c10 c13
      go_wp2
      go_round
      case rel => exact ⟨k + 1, by omega, by go_num, fun j hj => by
        by_cases e : j = k
        · subst e; exact HK.out
        · exact HO.out j (by omega)⟩
      case measure => simp [intOf]; omega
    · have HG : Hid (Plain B 39 false) := ⟨fun _ => hp, fun j hj => HO.out j (by omega)⟩
      go_wp2
      go_ret
      exact ⟨ret_bool (plainB_yes HG.out), rfl⟩

set_option maxHeartbeats 1000000 in
theorem plain_39_true (B : ByteArray) (w : World) (hn : B.size ≤ 262144) :
    Calls Try.prog 11 #[.string B, .int .u8 39, .bool true] w fun e w' => e = .returned (.bool (plainB B 39 true)) ∧ w = w' := by
  go_enter Try.func11, Try.ntmps11
  go_wp2
  go_loop [7] (fun i => ∃ k : Nat, k ≤ B.size ∧ i = .int .i64 k ∧ ∀ j, j < k → PlainC 39 (tb B j) true) (fun i => B.size - (intOf i).toNat)
  case atStart => exact ⟨0, Nat.zero_le _, rfl, fun j hj => by omega⟩
  case round =>
    obtain ⟨k, hk, rfl, hok⟩ := hrel
    have HO : Hid (∀ j, j < k → PlainC 39 (tb B j) true) := hok
    clear hok
    by_cases hlt : k < B.size
    · have HT : Hid (B[k].toNat = tb B k) := tb_at B k hlt
      by_cases c39 : B[k].toNat = 39
      · have HG : Hid (¬ Plain B 39 true) := fun h => by
          have h1 := h.2 k hlt
          have h2 := HT.out
          rw [c39] at h2
          rw [← h2] at h1
          exact absurd h1 (by unfold PlainC; decide)
        have f39 : ((B[k].toNat : Int) == 39) = true := beq_iff_eq.2 (by omega)
        clear c39
        go_wp2
        go_ret
        exact ⟨ret_bool (plainB_no HG.out), rfl⟩
      have f39 : ((B[k].toNat : Int) == 39) = false := beq_eq_false_iff_ne.2 (by omega)
      have HK : Hid (PlainC 39 (tb B k) true) := by
        show PlainC 39 (tb B k) true
        have h2 := HT.out
        unfold PlainC
        rw [← h2]
        exact ⟨c39, (fun h => by omega), (fun h => by cases h)⟩
      clear c39
      go_wp2
      go_round
      case rel => exact ⟨k + 1, by omega, by go_num, fun j hj => by
        by_cases e : j = k
        · subst e; exact HK.out
        · exact HO.out j (by omega)⟩
      case measure => simp [intOf]; omega
    · have HG : Hid (Plain B 39 true) := ⟨(fun h => by cases h), fun j hj => HO.out j (by omega)⟩
      go_wp2
      go_ret
      exact ⟨ret_bool (plainB_yes HG.out), rfl⟩

theorem plain_any (B : ByteArray) (q : Nat) (m : Bool) (w : World) (hq : q = 34 ∨ q = 39) (hn : B.size ≤ 262144) :
    Calls Try.prog 11 #[.string B, .int .u8 q, .bool m] w fun e w' => e = .returned (.bool (plainB B q m)) ∧ w = w' := by
  by_cases h0 : m = false ∧ B.size = 0
  · obtain ⟨rfl, h0⟩ := h0
    have HG : Hid (¬ Plain B q false) := fun h => by have := h.1 rfl; omega
    have hz : ((B.size : Int) == 0) = true := beq_iff_eq.2 (by omega)
    clear h0
    go_enter Try.func11, Try.ntmps11
    go_wp2
    go_ret
    exact ⟨ret_bool (plainB_no HG.out), rfl⟩
  cases m
  · have hp : 0 < B.size := by
      by_cases h : B.size = 0
      · exact absurd ⟨rfl, h⟩ h0
      · omega
    rcases hq with rfl | rfl
    · exact plain_34_false B w hn hp
    · exact plain_39_false B w hn hp
  · rcases hq with rfl | rfl
    · exact plain_34_true B w hn
    · exact plain_39_true B w hn

end Go.Proofs.Qxb6001221a
