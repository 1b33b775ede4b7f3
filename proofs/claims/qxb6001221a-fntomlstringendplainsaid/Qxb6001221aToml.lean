/-
  Seat b6001221a: tomlStringEnd (12) at a string with a plain body, and its alias (8).
-/
import Derived.Test.Qxb6001221aHas
import Derived.Test.Qxb6001221aRep
namespace Go.Proofs.Qxb6001221a
open Go.RowKit

set_option maxHeartbeats 2000000 in
set_option maxRecDepth 100000 in
theorem toml_one_34 (T : ByteArray) (i m : Nat) (w : World) (hT : T.size ≤ 1048576) (hm : 1 ≤ m) (hl : i + 1 + m < T.size) (h0 : tb T i = 34) (hb : ∀ k, k < m → PlainC 34 (tb T (i + 1 + k)) false) (he : tb T (i + 1 + m) = 34) :
    Calls Try.prog 12 #[.string T, .int .i64 i] w fun e w' => e = .returned (.int .i64 ((i + m + 2 : Nat) : Int)) ∧ Below w.heap.size w w' := by
  have HB : Hid (∀ k, k < m → PlainC 34 (tb T (i + 1 + k)) false) := hb
  have hi : i < T.size := by omega
  have hq0 : T[i].toNat = 34 := by rw [tb_at T i hi]; exact h0
  have HH : Hid (hasB (T.extract i T.size) 34 = false) := has_no1 (by omega) (by
    have := (hb 0 (by omega)).1
    exact this)
  have hE : T[i + 1 + m].toNat = 34 := by rw [tb_at T (i + 1 + m) hl]; exact he
  have hts := tail_size T i (by omega)
  have HTS : Hid ((T.extract i T.size).size ≤ 1048576) := by show (T.extract i T.size).size ≤ 1048576; omega
  clear hb h0 he hts
  go_enter Try.func12, Try.ntmps12
  go_wp2_with fail
  refine (rep3 34 w).mono ?_
  rintro e w1 ⟨rfl, hbel⟩
  go_wp2_with fail
  refine (has_any _ 34 w1 HTS.out).mono ?_
  rintro e w' ⟨rfl, rfl⟩
  rw [HH.out]
  go_wp2_with fail
  go_loop [8] (fun j => ∃ k : Nat, k ≤ m ∧ j = .int .i64 ((i + 1 + k : Nat) : Int)) (fun j => i + 1 + m - (intOf j).toNat)
  case atStart => exact ⟨0, Nat.zero_le _, by go_num⟩
  case round =>
    obtain ⟨k, hk, rfl⟩ := hrel
    by_cases hlt : k < m
    · have hlk : i + 1 + k < T.size := by omega
      have hp := HB.out k hlt
      rw [← tb_at T (i + 1 + k) hlk] at hp
      obtain ⟨p1, p2, p3⟩ := hp
      have f1 : ((T[i + 1 + k].toNat : Int) == 34) = false := beq_eq_false_iff_ne.2 (by omega)
      have f2 : ((T[i + 1 + k].toNat : Int) == 10) = false := beq_eq_false_iff_ne.2 (by have := (p3 rfl).1; omega)
      have f3 : ((T[i + 1 + k].toNat : Int) == 13) = false := beq_eq_false_iff_ne.2 (by have := (p3 rfl).2; omega)
      have f4 : ((T[i + 1 + k].toNat : Int) == 92) = false := beq_eq_false_iff_ne.2 (by have := p2 rfl; omega)
      clear p1 p2 p3
      go_wp2_with fail
      go_round
      case rel => exact ⟨k + 1, by omega, by go_num⟩
      case measure => simp [intOf]; omega
    · obtain rfl : m = k := by omega
      go_wp2_with fail
      go_ret
      exact ⟨ret_int (by omega), hbel⟩

set_option maxHeartbeats 2000000 in
set_option maxRecDepth 100000 in
theorem toml_multi_34 (T : ByteArray) (i m : Nat) (w : World) (hT : T.size ≤ 1048576) (hl : i + 6 + m ≤ T.size) (h0 : tb T i = 34) (h1 : tb T (i + 1) = 34) (h2 : tb T (i + 2) = 34) (hb : ∀ k, k < m → PlainC 34 (tb T (i + 3 + k)) true)
    (e0 : tb T (i + 3 + m) = 34) (e1 : tb T (i + 4 + m) = 34) (e2 : tb T (i + 5 + m) = 34) (hr : i + 6 + m < T.size → tb T (i + 6 + m) ≠ 34) :
    Calls Try.prog 12 #[.string T, .int .i64 i] w fun e w' => e = .returned (.int .i64 ((i + m + 6 : Nat) : Int)) ∧ Below w.heap.size w w' := by
  have HB : Hid (∀ k, k < m → PlainC 34 (tb T (i + 3 + k)) true) := hb
  have hi : i < T.size := by omega
  have hq0 : T[i].toNat = 34 := by rw [tb_at T i hi]; exact h0
  have HH : Hid (hasB (T.extract i T.size) 34 = true) := has_yes (by omega) h0 h1 h2
  have HE : Hid (hasB (T.extract (i + 3 + m) T.size) 34 = true) := has_yes (by omega) e0 (by rw [show i + 3 + m + 1 = i + 4 + m by omega]; exact e1) (by rw [show i + 3 + m + 2 = i + 5 + m by omega]; exact e2)
  have HR : Hid (i + 6 + m < T.size → tb T (i + 6 + m) ≠ 34) := hr
  have hlE : i + 3 + m < T.size := by omega
  have hE : T[i + 3 + m].toNat = 34 := by rw [tb_at T (i + 3 + m) hlE]; exact e0
  have HTS : Hid (∀ j, j ≤ T.size → (T.extract j T.size).size ≤ 1048576) := fun j hj => by rw [tail_size T j hj]; omega
  clear hb h0 h1 h2 e0 e1 e2 hr
  go_enter Try.func12, Try.ntmps12
  go_wp2_with fail
  refine (rep3 34 w).mono ?_
  rintro e w1 ⟨rfl, hbel⟩
  go_wp2_with fail
  refine (has_any _ 34 w1 (HTS.out i (by omega))).mono ?_
  rintro e w' ⟨rfl, rfl⟩
  rw [HH.out]
  go_wp2_with fail
  go_loop [10] (fun j => ∃ k : Nat, k ≤ m ∧ j = .int .i64 ((i + 3 + k : Nat) : Int)) (fun j => i + 3 + m - (intOf j).toNat)
  case atStart => exact ⟨0, Nat.zero_le _, by go_num⟩
  case round =>
    obtain ⟨k, hk, rfl⟩ := hrel
    by_cases hlt : k < m
    · have hlk : i + 3 + k < T.size := by omega
      have hp := HB.out k hlt
      have HN : Hid (hasB (T.extract (i + 3 + k) T.size) 34 = false) := has_no0 hlk hp.1
      rw [← tb_at T (i + 3 + k) hlk] at hp
      obtain ⟨p1, p2, p3⟩ := hp
      have f4 : ((T[i + 3 + k].toNat : Int) == 92) = false := beq_eq_false_iff_ne.2 (by have := p2 rfl; omega)
      clear p1 p2 p3
      go_wp2_with fail
      refine (has_any _ 34 _ (HTS.out _ (by omega))).mono ?_
      rintro e w' ⟨rfl, rfl⟩
      rw [HN.out]
      go_wp2_with fail
      go_round
      case rel => exact ⟨k + 1, by omega, by go_num⟩
      case measure => simp [intOf]; omega
    · obtain rfl : m = k := by omega
      go_wp2_with fail
      refine (has_any _ 34 _ (HTS.out _ (by omega))).mono ?_
      rintro e w' ⟨rfl, rfl⟩
      rw [HE.out]
      go_wp2_with fail
      refine wp_loop_rounds 1 ?_
      rw [rounds_succ]
      by_cases hend : i + 3 + m + 3 < T.size
      · have hne := HR.out (by omega)
        rw [show i + 6 + m = i + 3 + m + 3 by omega, ← tb_at T (i + 3 + m + 3) hend] at hne
        have f5 : ((T[i + 3 + m + 3].toNat : Int) == 34) = false := beq_eq_false_iff_ne.2 (by omega)
        clear hne
        go_wp2_with fail
        go_ret
        exact ⟨ret_int (by omega), hbel⟩
      · go_wp2_with fail
        go_ret
        exact ⟨ret_int (by omega), hbel⟩

set_option maxHeartbeats 2000000 in
set_option maxRecDepth 100000 in
theorem toml_one_39 (T : ByteArray) (i m : Nat) (w : World) (hT : T.size ≤ 1048576) (hm : 1 ≤ m) (hl : i + 1 + m < T.size) (h0 : tb T i = 39) (hb : ∀ k, k < m → PlainC 39 (tb T (i + 1 + k)) false) (he : tb T (i + 1 + m) = 39) :
    Calls Try.prog 12 #[.string T, .int .i64 i] w fun e w' => e = .returned (.int .i64 ((i + m + 2 : Nat) : Int)) ∧ Below w.heap.size w w' := by
  have HB : Hid (∀ k, k < m → PlainC 39 (tb T (i + 1 + k)) false) := hb
  have hi : i < T.size := by omega
  have hq0 : T[i].toNat = 39 := by rw [tb_at T i hi]; exact h0
  have HH : Hid (hasB (T.extract i T.size) 39 = false) := has_no1 (by omega) (by
    have := (hb 0 (by omega)).1
    exact this)
  have hE : T[i + 1 + m].toNat = 39 := by rw [tb_at T (i + 1 + m) hl]; exact he
  have hts := tail_size T i (by omega)
  have HTS : Hid ((T.extract i T.size).size ≤ 1048576) := by show (T.extract i T.size).size ≤ 1048576; omega
  clear hb h0 he hts
  go_enter Try.func12, Try.ntmps12
  go_wp2_with fail
  refine (rep3 39 w).mono ?_
  rintro e w1 ⟨rfl, hbel⟩
  go_wp2_with fail
  refine (has_any _ 39 w1 HTS.out).mono ?_
  rintro e w' ⟨rfl, rfl⟩
  rw [HH.out]
  go_wp2_with fail
  go_loop [8] (fun j => ∃ k : Nat, k ≤ m ∧ j = .int .i64 ((i + 1 + k : Nat) : Int)) (fun j => i + 1 + m - (intOf j).toNat)
  case atStart => exact ⟨0, Nat.zero_le _, by go_num⟩
  case round =>
    obtain ⟨k, hk, rfl⟩ := hrel
    by_cases hlt : k < m
    · have hlk : i + 1 + k < T.size := by omega
      have hp := HB.out k hlt
      rw [← tb_at T (i + 1 + k) hlk] at hp
      obtain ⟨p1, p2, p3⟩ := hp
      have f1 : ((T[i + 1 + k].toNat : Int) == 39) = false := beq_eq_false_iff_ne.2 (by omega)
      have f2 : ((T[i + 1 + k].toNat : Int) == 10) = false := beq_eq_false_iff_ne.2 (by have := (p3 rfl).1; omega)
      have f3 : ((T[i + 1 + k].toNat : Int) == 13) = false := beq_eq_false_iff_ne.2 (by have := (p3 rfl).2; omega)
      clear p1 p2 p3
      by_cases c92 : T[i + 1 + k].toNat = 92
      · have f4 : ((T[i + 1 + k].toNat : Int) == 92) = true := beq_iff_eq.2 (by omega)
        clear c92
        go_wp2_with fail
        go_round
        case rel => exact ⟨k + 1, by omega, by go_num⟩
        case measure => simp [intOf]; omega
      · have f4 : ((T[i + 1 + k].toNat : Int) == 92) = false := beq_eq_false_iff_ne.2 (by omega)
        clear c92
        go_wp2_with fail
        go_round
        case rel => exact ⟨k + 1, by omega, by go_num⟩
        case measure => simp [intOf]; omega
    · obtain rfl : m = k := by omega
      go_wp2_with fail
      go_ret
      exact ⟨ret_int (by omega), hbel⟩

set_option maxHeartbeats 2000000 in
set_option maxRecDepth 100000 in
theorem toml_multi_39 (T : ByteArray) (i m : Nat) (w : World) (hT : T.size ≤ 1048576) (hl : i + 6 + m ≤ T.size) (h0 : tb T i = 39) (h1 : tb T (i + 1) = 39) (h2 : tb T (i + 2) = 39) (hb : ∀ k, k < m → PlainC 39 (tb T (i + 3 + k)) true)
    (e0 : tb T (i + 3 + m) = 39) (e1 : tb T (i + 4 + m) = 39) (e2 : tb T (i + 5 + m) = 39) (hr : i + 6 + m < T.size → tb T (i + 6 + m) ≠ 39) :
    Calls Try.prog 12 #[.string T, .int .i64 i] w fun e w' => e = .returned (.int .i64 ((i + m + 6 : Nat) : Int)) ∧ Below w.heap.size w w' := by
  have HB : Hid (∀ k, k < m → PlainC 39 (tb T (i + 3 + k)) true) := hb
  have hi : i < T.size := by omega
  have hq0 : T[i].toNat = 39 := by rw [tb_at T i hi]; exact h0
  have HH : Hid (hasB (T.extract i T.size) 39 = true) := has_yes (by omega) h0 h1 h2
  have HE : Hid (hasB (T.extract (i + 3 + m) T.size) 39 = true) := has_yes (by omega) e0 (by rw [show i + 3 + m + 1 = i + 4 + m by omega]; exact e1) (by rw [show i + 3 + m + 2 = i + 5 + m by omega]; exact e2)
  have HR : Hid (i + 6 + m < T.size → tb T (i + 6 + m) ≠ 39) := hr
  have hlE : i + 3 + m < T.size := by omega
  have hE : T[i + 3 + m].toNat = 39 := by rw [tb_at T (i + 3 + m) hlE]; exact e0
  have HTS : Hid (∀ j, j ≤ T.size → (T.extract j T.size).size ≤ 1048576) := fun j hj => by rw [tail_size T j hj]; omega
  clear hb h0 h1 h2 e0 e1 e2 hr
  go_enter Try.func12, Try.ntmps12
  go_wp2_with fail
  refine (rep3 39 w).mono ?_
  rintro e w1 ⟨rfl, hbel⟩
  go_wp2_with fail
  refine (has_any _ 39 w1 (HTS.out i (by omega))).mono ?_
  rintro e w' ⟨rfl, rfl⟩
  rw [HH.out]
  go_wp2_with fail
  go_loop [10] (fun j => ∃ k : Nat, k ≤ m ∧ j = .int .i64 ((i + 3 + k : Nat) : Int)) (fun j => i + 3 + m - (intOf j).toNat)
  case atStart => exact ⟨0, Nat.zero_le _, by go_num⟩
  case round =>
    obtain ⟨k, hk, rfl⟩ := hrel
    by_cases hlt : k < m
    · have hlk : i + 3 + k < T.size := by omega
      have hp := HB.out k hlt
      have HN : Hid (hasB (T.extract (i + 3 + k) T.size) 39 = false) := has_no0 hlk hp.1
      rw [← tb_at T (i + 3 + k) hlk] at hp
      obtain ⟨p1, p2, p3⟩ := hp
      clear p1 p2 p3
      by_cases c92 : T[i + 3 + k].toNat = 92
      · have f4 : ((T[i + 3 + k].toNat : Int) == 92) = true := beq_iff_eq.2 (by omega)
        clear c92
        go_wp2_with fail
        refine (has_any _ 39 _ (HTS.out _ (by omega))).mono ?_
        rintro e w' ⟨rfl, rfl⟩
        rw [HN.out]
        go_wp2_with fail
        go_round
        case rel => exact ⟨k + 1, by omega, by go_num⟩
        case measure => simp [intOf]; omega
      · have f4 : ((T[i + 3 + k].toNat : Int) == 92) = false := beq_eq_false_iff_ne.2 (by omega)
        clear c92
        go_wp2_with fail
        refine (has_any _ 39 _ (HTS.out _ (by omega))).mono ?_
        rintro e w' ⟨rfl, rfl⟩
        rw [HN.out]
        go_wp2_with fail
        go_round
        case rel => exact ⟨k + 1, by omega, by go_num⟩
        case measure => simp [intOf]; omega
    · obtain rfl : m = k := by omega
      go_wp2_with fail
      refine (has_any _ 39 _ (HTS.out _ (by omega))).mono ?_
      rintro e w' ⟨rfl, rfl⟩
      rw [HE.out]
      go_wp2_with fail
      refine wp_loop_rounds 1 ?_
      rw [rounds_succ]
      by_cases hend : i + 3 + m + 3 < T.size
      · have hne := HR.out (by omega)
        rw [show i + 6 + m = i + 3 + m + 3 by omega, ← tb_at T (i + 3 + m + 3) hend] at hne
        have f5 : ((T[i + 3 + m + 3].toNat : Int) == 39) = false := beq_eq_false_iff_ne.2 (by omega)
        clear hne
        go_wp2_with fail
        go_ret
        exact ⟨ret_int (by omega), hbel⟩
      · go_wp2_with fail
        go_ret
        exact ⟨ret_int (by omega), hbel⟩

end Go.Proofs.Qxb6001221a
