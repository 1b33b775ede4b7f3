/-
  Seat b6000849a: zzSubpartModel (12) answers SM; THE TWO LAWS' WALKS (4, 3).
-/
import Derived.Test.Qxb6000849aModel
import Derived.Test.Qxb6000849aMax
namespace Go.Proofs.Qxb6000849a
open Go.RowKit

theorem sm_go {zs : List Int} {j : Nat} (h1 : j ≤ 4) (h2 : j ≤ zs.length) (h3 : CS (zs.take j) = true) : sm zs (5 - j) j = sm zs (5 - (j + 1)) (j + 1) := by
  rw [show 5 - j = (5 - (j + 1)) + 1 by omega]
  simp only [sm]
  rw [if_pos ⟨h2, h3⟩]
theorem sm_stop {zs : List Int} {j : Nat} (h1 : j ≤ 4) (h : ¬ (j ≤ zs.length ∧ CS (zs.take j) = true)) : sm zs (5 - j) j = j - 1 := by
  rw [show 5 - j = (5 - (j + 1)) + 1 by omega]
  simp only [sm]
  rw [if_neg h]

set_option maxHeartbeats 1000000 in
theorem model_any (b off cap : Nat) (zs : List Int) (w : World) (_hn : zs.length ≤ 1048576) (hcap : zs.length ≤ cap) (hby : Bytes zs) (hc : At w b off zs) :
    Calls Try.prog 12 #[.slice (some ⟨b, off, none⟩) zs.length cap] w fun e w' => e = .returned (.int .i64 (SM zs)) ∧ w = w' := by
  have HB : Hid (Bytes zs) := hby
  have HC : Hid (At w b off zs) := hc
  obtain ⟨n, hnn⟩ : ∃ n, n = zs.length := ⟨_, rfl⟩
  have HN : Hid (n = zs.length) := hnn
  rw [← hnn] at _hn hcap ⊢
  clear hnn hby hc
  go_enter Try.func12, Try.ntmps12
  go_wp2
  go_loop [3, 4] (fun k j => ∃ q : Nat, 2 ≤ q ∧ q ≤ 5 ∧ k = .int .i64 ((q : Int) - 1) ∧ j = .int .i64 q ∧ sm zs (5 - q) q = SM zs) (fun _ j => 5 - (intOf j).toNat)
  case atStart => exact ⟨2, by omega, by omega, rfl, rfl, rfl⟩
  case round =>
    obtain ⟨q, hq1, hq2, rfl, rfl, hsm⟩ := hrel
    have HS : Hid (sm zs (5 - q) q = SM zs) := hsm
    clear hsm
    by_cases h1 : q ≤ n ∧ q ≤ 4
    · obtain ⟨h1, h2⟩ := h1
      have hlen : (zs.take q).length = q := by rw [List.length_take, ← HN.out]; omega
      have hcan := fun cap => can_any b off cap (zs.take q) w (by omega) (by omega) (HB.out.take q) (HC.out.take q)
      rw [hlen] at hcan
      cases hcs : CS (zs.take q)
      · rw [hcs] at hcan
        have HCan : Hid (∀ cap, Calls Try.prog 21 #[.slice (some ⟨b, off, none⟩) q cap] w fun e w' => e = .returned (.bool false) ∧ w = w') := hcan
        have HE : Hid (SM zs = q - 1) := by
          show SM zs = q - 1
          rw [← HS.out, sm_stop h2 (fun h => by rw [hcs] at h; exact Bool.false_ne_true h.2)]
        clear hcan hlen hcs
        go_wp2_with (go_at_call 21; refine (HCan.out _).mono ?_; rintro e w' ⟨rfl, rfl⟩)
        go_ret
        exact ⟨ret_int (by rw [HE.out]; omega), rfl⟩
      · rw [hcs] at hcan
        have HCan : Hid (∀ cap, Calls Try.prog 21 #[.slice (some ⟨b, off, none⟩) q cap] w fun e w' => e = .returned (.bool true) ∧ w = w') := hcan
        have HE : Hid (sm zs (5 - (q + 1)) (q + 1) = SM zs) := by
          show sm zs (5 - (q + 1)) (q + 1) = SM zs
          rw [← HS.out, sm_go h2 (by rw [← HN.out]; exact h1) hcs]
        clear hcan hlen hcs
        go_wp2_with (go_at_call 21; refine (HCan.out _).mono ?_; rintro e w' ⟨rfl, rfl⟩)
        go_round
        case rel => exact ⟨q + 1, by omega, by omega, by go_num, by go_num, HE.out⟩
        case measure => simp [intOf]; omega
    · have HE : Hid (SM zs = q - 1) := by
        show SM zs = q - 1
        rw [← HS.out]
        by_cases h4 : q ≤ 4
        · exact sm_stop h4 (fun h => h1 ⟨by rw [HN.out]; exact h.1, h4⟩)
        · rw [show 5 - q = 0 by omega]
          rfl
      by_cases h4 : q ≤ n
      · have h5 : 4 < q := by omega
        clear h1
        go_wp2
        go_ret
        exact ⟨ret_int (by rw [HE.out]; omega), rfl⟩
      · have h5 : n < q := by omega
        clear h1
        go_wp2
        go_ret
        exact ⟨ret_int (by rw [HE.out]; omega), rfl⟩

/-! ### the laws -/
theorem match_all {zs : List Int} (hp : 0 < zs.length) (hb : Bytes zs) (h : Starts zs = false) : MS zs = SM zs := by
  match zs, hp, hb, h with
  | b :: r, _, hb, h => exact match_law b r (hb b (by simp)).2 h
theorem bounded_all {zs : List Int} (hp : 0 < zs.length) (h : Starts zs = false) :
    1 ≤ MS zs ∧ MS zs ≤ 3 ∧ MS zs ≤ zs.length ∧ (∀ j, 1 ≤ j → j < MS zs → 128 ≤ zs.getD j 0 ∧ zs.getD j 0 ≤ 191) ∧ MS (zs.take (MS zs)) = MS zs := by
  match zs, hp, h with
  | b :: r, _, h => exact ⟨(MS_pos b r).1, MS_three b r h, (MS_pos b r).2, fun j h1 h2 => MS_cont b r j h1 h2, MS_take b r⟩

theorem law4_long (ao : Option Addr) (n c : Nat) (w : World) (hn : 1048576 < n ∨ n = 0) (hm : n ≤ maxLen) :
    Calls Try.prog 4 #[.slice ao n c] w fun e w' => e = .returned (.bool true) ∧ Below w.heap.size w w' := by
  unfold maxLen at hm
  rcases hn with hn | rfl
  · go_enter Try.func4, Try.ntmps4
    go_wp2_with (go_at_call 13; refine (bytes4_no _ _ _ _ hn).mono ?_; rintro e w' ⟨rfl, rfl⟩)
    go_ret
    exact ⟨rfl, Below.refl _ _⟩
  · go_enter Try.func4, Try.ntmps4
    go_wp2_with (go_at_call 13; refine (bytes4 _ _ _ _ (by omega)).mono ?_; rintro e w' ⟨rfl, rfl⟩)
    go_ret
    exact ⟨rfl, Below.refl _ _⟩
theorem law3_long (ao : Option Addr) (n c : Nat) (w : World) (hn : 1048576 < n ∨ n = 0) (hm : n ≤ maxLen) :
    Calls Try.prog 3 #[.slice ao n c] w fun e w' => e = .returned (.bool true) ∧ Below w.heap.size w w' := by
  unfold maxLen at hm
  rcases hn with hn | rfl
  · go_enter Try.func3, Try.ntmps3
    go_wp2_with (go_at_call 8; refine (bytes3_no _ _ _ _ hn).mono ?_; rintro e w' ⟨rfl, rfl⟩)
    go_ret
    exact ⟨rfl, Below.refl _ _⟩
  · go_enter Try.func3, Try.ntmps3
    go_wp2_with (go_at_call 8; refine (bytes3 _ _ _ _ (by omega)).mono ?_; rintro e w' ⟨rfl, rfl⟩)
    go_ret
    exact ⟨rfl, Below.refl _ _⟩

set_option maxHeartbeats 1000000 in
theorem law3_some (b off cap : Nat) (zs : List Int) (w : World) (hn : zs.length ≤ 1048576) (hcap : zs.length ≤ cap) (hp : 0 < zs.length) (hby : Bytes zs) (hc : At w b off zs) :
    Calls Try.prog 3 #[.slice (some ⟨b, off, none⟩) zs.length cap] w fun e w' => e = .returned (.bool true) ∧ Below w.heap.size w w' := by
  have hz : ((zs.length : Int) == 0) = false := beq_eq_false_iff_ne.2 (by omega)
  have HB : Hid (Bytes zs) := hby
  have HC : Hid (At w b off zs) := hc
  clear hby hc
  go_enter Try.func3, Try.ntmps3
  go_wp2_with fail
  refine (bytes3 _ _ _ _ hn).mono ?_
  rintro e w' ⟨rfl, rfl⟩
  go_wp2_with fail
  refine (starts_any b off cap zs w hn hcap hp HB.out HC.out).mono ?_
  rintro e w' ⟨rfl, rfl⟩
  cases hst : Starts zs
  · have HM : Hid (MS zs = SM zs) := by
      exact match_all hp HB.out hst
    clear hst
    go_wp2_with fail
    refine (copy_any b off cap zs w hn hp HC.out).mono ?_
    rintro e w1 ⟨rfl, hat, hb1⟩
    have HA : Hid (At w1 w.heap.size 0 zs) := hat
    clear hat
    go_wp2_with fail
    refine (zz_any w.heap.size 0 zs.length zs w1 hn hp HB.out HA.out).mono ?_
    rintro e w' ⟨rfl, rfl⟩
    rw [HM.out]
    go_wp2_with fail
    refine (model_any w.heap.size 0 zs.length zs w1 hn (Nat.le_refl _) HB.out HA.out).mono ?_
    rintro e w' ⟨rfl, rfl⟩
    go_wp2_with fail
    go_ret
    exact ⟨rfl, hb1⟩
  · go_wp2_with fail
    go_ret
    exact ⟨rfl, Below.refl _ _⟩

set_option maxHeartbeats 1000000 in
theorem law4_some (b off cap : Nat) (zs : List Int) (w : World) (hn : zs.length ≤ 1048576) (hcap : zs.length ≤ cap) (hp : 0 < zs.length) (hby : Bytes zs) (hc : At w b off zs) :
    Calls Try.prog 4 #[.slice (some ⟨b, off, none⟩) zs.length cap] w fun e w' => e = .returned (.bool true) ∧ Below w.heap.size w w' := by
  have hz : ((zs.length : Int) == 0) = false := beq_eq_false_iff_ne.2 (by omega)
  have hbig : decide ((1048576 : Int) < (zs.length : Int)) = false := decide_eq_false (by omega)
  have HB : Hid (Bytes zs) := hby
  have HC : Hid (At w b off zs) := hc
  clear hby hc
  go_enter Try.func4, Try.ntmps4
  go_wp2_with fail
  refine (bytes4 _ _ _ _ hn).mono ?_
  rintro e w' ⟨rfl, rfl⟩
  go_wp2_with fail
  refine (starts_any b off cap zs w hn hcap hp HB.out HC.out).mono ?_
  rintro e w' ⟨rfl, rfl⟩
  cases hst : Starts zs
  · have HM : Hid (1 ≤ MS zs ∧ MS zs ≤ 3 ∧ MS zs ≤ zs.length ∧ (∀ j, 1 ≤ j → j < MS zs → 128 ≤ zs.getD j 0 ∧ zs.getD j 0 ≤ 191) ∧ MS (zs.take (MS zs)) = MS zs) := by
      exact bounded_all hp hst
    clear hst
    go_wp2_with fail
    refine (copy_any b off cap zs w hn hp HC.out).mono ?_
    rintro e w1 ⟨rfl, hat, hb1⟩
    have HA : Hid (At w1 w.heap.size 0 zs) := hat
    clear hat
    go_wp2_with fail
    refine (zz_any w.heap.size 0 zs.length zs w1 hn hp HB.out HA.out).mono ?_
    rintro e w' ⟨rfl, rfl⟩
    obtain ⟨r, hr⟩ : ∃ r, r = MS zs := ⟨_, rfl⟩
    rw [← hr] at HM ⊢
    obtain ⟨h1, h3, hl, hco, htk⟩ := HM.out
    have HCo : Hid (∀ j, 1 ≤ j → j < r → 128 ≤ zs.getD j 0 ∧ zs.getD j 0 ≤ 191) := hco
    have hlen : (zs.take r).length = r := by rw [List.length_take]; omega
    have hz2 := fun cap => zz_any w.heap.size 0 cap (zs.take r) w1 (by omega) (by omega) (HB.out.take r) (HA.out.take r)
    rw [hlen, htk] at hz2
    have HZ : Hid (∀ cap, Calls Try.prog 11 #[.slice (some ⟨w.heap.size, 0, none⟩) r cap] w1 fun e w' => e = .returned (.int .i64 r) ∧ w1 = w') := hz2
    clear HM hr hco htk hz2 hlen
    have q1 : decide ((r : Int) < 1) = false := decide_eq_false (by omega)
    have q2 : decide ((3 : Int) < (r : Int)) = false := decide_eq_false (by omega)
    have q3 : decide ((zs.length : Int) < (r : Int)) = false := decide_eq_false (by omega)
    go_wp2_with fail
    go_loop [4] (fun j => ∃ k : Nat, 1 ≤ k ∧ k ≤ r ∧ j = .int .i64 k) (fun j => r - (intOf j).toNat)
    case atStart => exact ⟨1, by omega, by omega, rfl⟩
    case round =>
      obtain ⟨k, hk1, hk2, rfl⟩ := hrel
      by_cases hk : k < r
      · have hcell : w1.cell? ⟨w.heap.size, k, none⟩ = some (.int .u8 (zs.getD k 0)) := by
          have h := HA.out k (by omega)
          rw [Nat.zero_add] at h
          exact h
        have hco := HCo.out k hk1 hk
        obtain ⟨y, hy⟩ : ∃ y, y = zs.getD k 0 := ⟨_, rfl⟩
        rw [← hy] at hcell hco
        clear hy
        go_wp2_with fail
        go_round
        case rel => exact ⟨k + 1, by omega, by omega, by go_num⟩
        case measure => simp [intOf]; omega
      · go_wp2_with (go_at_call 11; refine (HZ.out _).mono ?_; rintro e w' ⟨rfl, rfl⟩)
        go_ret
        exact ⟨rfl, hb1⟩
  · go_wp2_with fail
    go_ret
    exact ⟨rfl, Below.refl _ _⟩

end Go.Proofs.Qxb6000849a
