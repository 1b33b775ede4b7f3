/-
  Seat b6000849a: maximalSubpart (22) and its alias (11): they answer MS.
-/
import Derived.Test.Qxb6000849aBase
namespace Go.Proofs.Qxb6000849a
open Go.RowKit

theorem drop_at {zs : List Int} {k : Nat} (h : k < zs.length) : zs.drop k = zs.getD k 0 :: zs.drop (k + 1) := by
  rw [List.drop_eq_getElem_cons h, List.getD_eq_getElem?_getD, List.getElem?_eq_getElem h]
  rfl

theorem adv_step {zs : List Int} {k N : Nat} {l h : Int} (h1 : k < zs.length) (h2 : k < N) (h3 : l ≤ zs.getD k 0) (h4 : zs.getD k 0 ≤ h) : adv (zs.drop k) (N - k) l h = adv (zs.drop (k + 1)) (N - (k + 1)) 128 191 + 1 := by
  rw [drop_at h1, show N - k = (N - (k + 1)) + 1 by omega]
  simp only [adv]
  rw [if_pos ⟨h3, h4⟩]
theorem adv_end {zs : List Int} {k N : Nat} {l h : Int} (hh : zs.length ≤ k ∨ N ≤ k) : adv (zs.drop k) (N - k) l h = 0 := by
  rcases hh with hh | hh
  · rw [List.drop_eq_nil_of_le hh]
    simp [adv]
  · rw [show N - k = 0 by omega]
    cases zs.drop k <;> simp [adv]
theorem adv_stop {zs : List Int} {k N : Nat} {l h : Int} (h1 : k < zs.length) (h2 : k < N) (h3 : ¬ (l ≤ zs.getD k 0 ∧ zs.getD k 0 ≤ h)) : adv (zs.drop k) (N - k) l h = 0 := by
  rw [drop_at h1, show N - k = (N - (k + 1)) + 1 by omega]
  simp only [adv]
  rw [if_neg h3]

theorem MS_start {zs : List Int} {N : Nat} {l h : Int} (h0 : 0 < zs.length) (hN : nn (zs.getD 0 0) = N) (hN0 : N ≠ 0) (hl : lo2 (zs.getD 0 0) = l) (hh : hi2 (zs.getD 0 0) = h) : 1 + adv (zs.drop 1) (N - 1) l h = MS zs := by
  match zs, h0 with
  | b :: r, _ =>
    simp only [List.getD_cons_zero] at hN hl hh
    simp only [MS, hN, hl, hh, List.drop_succ_cons, List.drop_zero]
    rw [if_neg hN0]
    omega
theorem MS_one {zs : List Int} (h0 : 0 < zs.length) (hN : nn (zs.getD 0 0) = 0) : MS zs = 1 := by
  match zs, h0 with
  | b :: r, _ =>
    simp only [List.getD_cons_zero] at hN
    simp [MS, hN]

set_option maxHeartbeats 4000000 in
set_option maxRecDepth 100000 in
theorem max_any (b off cap : Nat) (zs : List Int) (w : World) (hn : zs.length ≤ 1048576) (hp : 0 < zs.length) (hby : Bytes zs) (hc : At w b off zs) :
    Calls Try.prog 22 #[.slice (some ⟨b, off, none⟩) zs.length cap] w fun e w' => e = .returned (.int .i64 (MS zs)) ∧ w = w' := by
  have hc0 : w.cell? ⟨b, off, none⟩ = some (.int .u8 (zs.getD 0 0)) := hc 0 hp
  have hb0 := hby.getD 0
  have HB : Hid (Bytes zs) := hby
  have HC : Hid (At w b off zs) := hc
  clear hby hc
  obtain ⟨n, hnn⟩ : ∃ n, n = zs.length := ⟨_, rfl⟩
  have HN : Hid (n = zs.length) := hnn
  obtain ⟨x0, hx0⟩ : ∃ x0, x0 = zs.getD 0 0 := ⟨_, rfl⟩
  have HX : Hid (x0 = zs.getD 0 0) := hx0
  rw [← hnn] at hn hp ⊢
  rw [← hx0] at hc0 hb0
  clear hnn hx0
  have hpi : (0 : Int) < (n : Int) := by omega
  by_cases e224 : x0 = 224
  · have HM : Hid (1 + adv (zs.drop 1) (3 - 1) 160 191 = MS zs) := MS_start (by rw [← HN.out]; exact hp) (by rw [← HX.out]; unfold nn; rw [if_pos (by omega)]) (by omega) (by rw [← HX.out]; unfold lo2; rw [if_pos (by omega)]) (by rw [← HX.out]; unfold hi2; rw [if_neg (by omega), if_neg (by omega)])
    subst e224
    go_enter Try.func22, Try.ntmps22
    go_wp2
    go_loop [4, 5, 7] (fun lo hi i => ∃ (k : Nat) (l h : Int), 1 ≤ k ∧ k ≤ 3 ∧ k ≤ n ∧ lo = .int .u8 l ∧ hi = .int .u8 h ∧ i = .int .i64 k ∧ k + adv (zs.drop k) (3 - k) l h = MS zs)
      (fun _ _ i => 3 - (intOf i).toNat)
    case atStart => exact ⟨1, 160, 191, by omega, by omega, by omega, rfl, rfl, rfl, HM.out⟩
    case round =>
      obtain ⟨k, l, h, hk1, hk2, hk3, rfl, rfl, rfl, hms⟩ := hrel
      have HK : Hid (k + adv (zs.drop k) (3 - k) l h = MS zs) := hms
      clear hms
      by_cases h1 : k < 3 ∧ k < n
      · obtain ⟨h1, h2⟩ := h1
        have hcell : w.cell? ⟨b, off + k, none⟩ = some (.int .u8 (zs.getD k 0)) := HC.out k (by rw [← HN.out]; exact h2)
        have hs := fun a b => adv_step (zs := zs) (k := k) (N := 3) (l := l) (h := h) (by rw [← HN.out]; exact h2) h1 a b
        have ht := fun a => adv_stop (zs := zs) (k := k) (N := 3) (l := l) (h := h) (by rw [← HN.out]; exact h2) h1 a
        obtain ⟨y, hy⟩ : ∃ y, y = zs.getD k 0 := ⟨_, rfl⟩
        rw [← hy] at hcell hs ht
        clear hy
        by_cases h3 : l ≤ y ∧ y ≤ h
        · obtain ⟨h3, h4⟩ := h3
          have HS : Hid (adv (zs.drop k) (3 - k) l h = adv (zs.drop (k + 1)) (3 - (k + 1)) 128 191 + 1) := hs h3 h4
          clear hs ht
          go_wp2
          go_round
          case rel => exact ⟨k + 1, 128, 191, by omega, by omega, by omega, rfl, rfl, by go_num, by rw [← HK.out, HS.out]; omega⟩
          case measure => simp [intOf]; omega
        · have HT : Hid (MS zs = k) := by show MS zs = k; rw [← HK.out, ht h3]; rfl
          clear hs ht
          by_cases h4 : l ≤ y
          · have h5 : h < y := by omega
            clear h3
            go_wp2
            go_ret
            exact ⟨ret_int (by rw [HT.out]), rfl⟩
          · have h5 : y < l := by omega
            clear h3
            go_wp2
            go_ret
            exact ⟨ret_int (by rw [HT.out]), rfl⟩
      · have HT : Hid (MS zs = k) := by show MS zs = k; rw [← HK.out, adv_end (by rw [← HN.out]; omega)]; rfl
        by_cases h4 : k < 3
        · have h5 : n ≤ k := by omega
          clear h1
          go_wp2
          go_ret
          exact ⟨ret_int (by rw [HT.out]), rfl⟩
        · have h5 : 3 ≤ k := by omega
          clear h1
          go_wp2
          go_ret
          exact ⟨ret_int (by rw [HT.out]), rfl⟩
  by_cases e237 : x0 = 237
  · have HM : Hid (1 + adv (zs.drop 1) (3 - 1) 128 159 = MS zs) := MS_start (by rw [← HN.out]; exact hp) (by rw [← HX.out]; unfold nn; rw [if_pos (by omega)]) (by omega) (by rw [← HX.out]; unfold lo2; rw [if_neg (by omega), if_neg (by omega)]) (by rw [← HX.out]; unfold hi2; rw [if_pos (by omega)])
    subst e237
    go_enter Try.func22, Try.ntmps22
    go_wp2
    go_loop [4, 5, 7] (fun lo hi i => ∃ (k : Nat) (l h : Int), 1 ≤ k ∧ k ≤ 3 ∧ k ≤ n ∧ lo = .int .u8 l ∧ hi = .int .u8 h ∧ i = .int .i64 k ∧ k + adv (zs.drop k) (3 - k) l h = MS zs)
      (fun _ _ i => 3 - (intOf i).toNat)
    case atStart => exact ⟨1, 128, 159, by omega, by omega, by omega, rfl, rfl, rfl, HM.out⟩
    case round =>
      obtain ⟨k, l, h, hk1, hk2, hk3, rfl, rfl, rfl, hms⟩ := hrel
      have HK : Hid (k + adv (zs.drop k) (3 - k) l h = MS zs) := hms
      clear hms
      by_cases h1 : k < 3 ∧ k < n
      · obtain ⟨h1, h2⟩ := h1
        have hcell : w.cell? ⟨b, off + k, none⟩ = some (.int .u8 (zs.getD k 0)) := HC.out k (by rw [← HN.out]; exact h2)
        have hs := fun a b => adv_step (zs := zs) (k := k) (N := 3) (l := l) (h := h) (by rw [← HN.out]; exact h2) h1 a b
        have ht := fun a => adv_stop (zs := zs) (k := k) (N := 3) (l := l) (h := h) (by rw [← HN.out]; exact h2) h1 a
        obtain ⟨y, hy⟩ : ∃ y, y = zs.getD k 0 := ⟨_, rfl⟩
        rw [← hy] at hcell hs ht
        clear hy
        by_cases h3 : l ≤ y ∧ y ≤ h
        · obtain ⟨h3, h4⟩ := h3
          have HS : Hid (adv (zs.drop k) (3 - k) l h = adv (zs.drop (k + 1)) (3 - (k + 1)) 128 191 + 1) := hs h3 h4
          clear hs ht
          go_wp2
          go_round
          case rel => exact ⟨k + 1, 128, 191, by omega, by omega, by omega, rfl, rfl, by go_num, by rw [← HK.out, HS.out]; omega⟩
          case measure => simp [intOf]; omega
        · have HT : Hid (MS zs = k) := by show MS zs = k; rw [← HK.out, ht h3]; rfl
          clear hs ht
          by_cases h4 : l ≤ y
          · have h5 : h < y := by omega
            clear h3
            go_wp2
            go_ret
            exact ⟨ret_int (by rw [HT.out]), rfl⟩
          · have h5 : y < l := by omega
            clear h3
            go_wp2
            go_ret
            exact ⟨ret_int (by rw [HT.out]), rfl⟩
      · have HT : Hid (MS zs = k) := by show MS zs = k; rw [← HK.out, adv_end (by rw [← HN.out]; omega)]; rfl
        by_cases h4 : k < 3
        · have h5 : n ≤ k := by omega
          clear h1
          go_wp2
          go_ret
          exact ⟨ret_int (by rw [HT.out]), rfl⟩
        · have h5 : 3 ≤ k := by omega
          clear h1
          go_wp2
          go_ret
          exact ⟨ret_int (by rw [HT.out]), rfl⟩
  by_cases r3 : 225 ≤ x0 ∧ x0 ≤ 239
  · have HM : Hid (1 + adv (zs.drop 1) (3 - 1) 128 191 = MS zs) := MS_start (by rw [← HN.out]; exact hp) (by rw [← HX.out]; unfold nn; rw [if_pos (by omega)]) (by omega) (by rw [← HX.out]; unfold lo2; rw [if_neg (by omega), if_neg (by omega)]) (by rw [← HX.out]; unfold hi2; rw [if_neg (by omega), if_neg (by omega)])
    obtain ⟨hr1, hr2⟩ := r3
    have f224 : (x0 == 224) = false := beq_eq_false_iff_ne.2 (by omega)
    have f237 : (x0 == 237) = false := beq_eq_false_iff_ne.2 (by omega)
    go_enter Try.func22, Try.ntmps22
    go_wp2
    go_loop [4, 5, 7] (fun lo hi i => ∃ (k : Nat) (l h : Int), 1 ≤ k ∧ k ≤ 3 ∧ k ≤ n ∧ lo = .int .u8 l ∧ hi = .int .u8 h ∧ i = .int .i64 k ∧ k + adv (zs.drop k) (3 - k) l h = MS zs)
      (fun _ _ i => 3 - (intOf i).toNat)
    case atStart => exact ⟨1, 128, 191, by omega, by omega, by omega, rfl, rfl, rfl, HM.out⟩
    case round =>
      obtain ⟨k, l, h, hk1, hk2, hk3, rfl, rfl, rfl, hms⟩ := hrel
      have HK : Hid (k + adv (zs.drop k) (3 - k) l h = MS zs) := hms
      clear hms
      by_cases h1 : k < 3 ∧ k < n
      · obtain ⟨h1, h2⟩ := h1
        have hcell : w.cell? ⟨b, off + k, none⟩ = some (.int .u8 (zs.getD k 0)) := HC.out k (by rw [← HN.out]; exact h2)
        have hs := fun a b => adv_step (zs := zs) (k := k) (N := 3) (l := l) (h := h) (by rw [← HN.out]; exact h2) h1 a b
        have ht := fun a => adv_stop (zs := zs) (k := k) (N := 3) (l := l) (h := h) (by rw [← HN.out]; exact h2) h1 a
        obtain ⟨y, hy⟩ : ∃ y, y = zs.getD k 0 := ⟨_, rfl⟩
        rw [← hy] at hcell hs ht
        clear hy
        by_cases h3 : l ≤ y ∧ y ≤ h
        · obtain ⟨h3, h4⟩ := h3
          have HS : Hid (adv (zs.drop k) (3 - k) l h = adv (zs.drop (k + 1)) (3 - (k + 1)) 128 191 + 1) := hs h3 h4
          clear hs ht
          go_wp2
          go_round
          case rel => exact ⟨k + 1, 128, 191, by omega, by omega, by omega, rfl, rfl, by go_num, by rw [← HK.out, HS.out]; omega⟩
          case measure => simp [intOf]; omega
        · have HT : Hid (MS zs = k) := by show MS zs = k; rw [← HK.out, ht h3]; rfl
          clear hs ht
          by_cases h4 : l ≤ y
          · have h5 : h < y := by omega
            clear h3
            go_wp2
            go_ret
            exact ⟨ret_int (by rw [HT.out]), rfl⟩
          · have h5 : y < l := by omega
            clear h3
            go_wp2
            go_ret
            exact ⟨ret_int (by rw [HT.out]), rfl⟩
      · have HT : Hid (MS zs = k) := by show MS zs = k; rw [← HK.out, adv_end (by rw [← HN.out]; omega)]; rfl
        by_cases h4 : k < 3
        · have h5 : n ≤ k := by omega
          clear h1
          go_wp2
          go_ret
          exact ⟨ret_int (by rw [HT.out]), rfl⟩
        · have h5 : 3 ≤ k := by omega
          clear h1
          go_wp2
          go_ret
          exact ⟨ret_int (by rw [HT.out]), rfl⟩
  by_cases e240 : x0 = 240
  · have HM : Hid (1 + adv (zs.drop 1) (4 - 1) 144 191 = MS zs) := MS_start (by rw [← HN.out]; exact hp) (by rw [← HX.out]; unfold nn; rw [if_neg (by omega), if_pos (by omega)]) (by omega) (by rw [← HX.out]; unfold lo2; rw [if_neg (by omega), if_pos (by omega)]) (by rw [← HX.out]; unfold hi2; rw [if_neg (by omega), if_neg (by omega)])
    subst e240
    go_enter Try.func22, Try.ntmps22
    go_wp2
    go_loop [4, 5, 7] (fun lo hi i => ∃ (k : Nat) (l h : Int), 1 ≤ k ∧ k ≤ 4 ∧ k ≤ n ∧ lo = .int .u8 l ∧ hi = .int .u8 h ∧ i = .int .i64 k ∧ k + adv (zs.drop k) (4 - k) l h = MS zs)
      (fun _ _ i => 4 - (intOf i).toNat)
    case atStart => exact ⟨1, 144, 191, by omega, by omega, by omega, rfl, rfl, rfl, HM.out⟩
    case round =>
      obtain ⟨k, l, h, hk1, hk2, hk3, rfl, rfl, rfl, hms⟩ := hrel
      have HK : Hid (k + adv (zs.drop k) (4 - k) l h = MS zs) := hms
      clear hms
      by_cases h1 : k < 4 ∧ k < n
      · obtain ⟨h1, h2⟩ := h1
        have hcell : w.cell? ⟨b, off + k, none⟩ = some (.int .u8 (zs.getD k 0)) := HC.out k (by rw [← HN.out]; exact h2)
        have hs := fun a b => adv_step (zs := zs) (k := k) (N := 4) (l := l) (h := h) (by rw [← HN.out]; exact h2) h1 a b
        have ht := fun a => adv_stop (zs := zs) (k := k) (N := 4) (l := l) (h := h) (by rw [← HN.out]; exact h2) h1 a
        obtain ⟨y, hy⟩ : ∃ y, y = zs.getD k 0 := ⟨_, rfl⟩
        rw [← hy] at hcell hs ht
        clear hy
        by_cases h3 : l ≤ y ∧ y ≤ h
        · obtain ⟨h3, h4⟩ := h3
          have HS : Hid (adv (zs.drop k) (4 - k) l h = adv (zs.drop (k + 1)) (4 - (k + 1)) 128 191 + 1) := hs h3 h4
          clear hs ht
          go_wp2
          go_round
          case rel => exact ⟨k + 1, 128, 191, by omega, by omega, by omega, rfl, rfl, by go_num, by rw [← HK.out, HS.out]; omega⟩
          case measure => simp [intOf]; omega
        · have HT : Hid (MS zs = k) := by show MS zs = k; rw [← HK.out, ht h3]; rfl
          clear hs ht
          by_cases h4 : l ≤ y
          · have h5 : h < y := by omega
            clear h3
            go_wp2
            go_ret
            exact ⟨ret_int (by rw [HT.out]), rfl⟩
          · have h5 : y < l := by omega
            clear h3
            go_wp2
            go_ret
            exact ⟨ret_int (by rw [HT.out]), rfl⟩
      · have HT : Hid (MS zs = k) := by show MS zs = k; rw [← HK.out, adv_end (by rw [← HN.out]; omega)]; rfl
        by_cases h4 : k < 4
        · have h5 : n ≤ k := by omega
          clear h1
          go_wp2
          go_ret
          exact ⟨ret_int (by rw [HT.out]), rfl⟩
        · have h5 : 4 ≤ k := by omega
          clear h1
          go_wp2
          go_ret
          exact ⟨ret_int (by rw [HT.out]), rfl⟩
  by_cases r4 : 241 ≤ x0 ∧ x0 ≤ 243
  · have HM : Hid (1 + adv (zs.drop 1) (4 - 1) 128 191 = MS zs) := MS_start (by rw [← HN.out]; exact hp) (by rw [← HX.out]; unfold nn; rw [if_neg (by omega), if_pos (by omega)]) (by omega) (by rw [← HX.out]; unfold lo2; rw [if_neg (by omega), if_neg (by omega)]) (by rw [← HX.out]; unfold hi2; rw [if_neg (by omega), if_neg (by omega)])
    obtain ⟨hr1, hr2⟩ := r4
    have f224 : (x0 == 224) = false := beq_eq_false_iff_ne.2 (by omega)
    have f237 : (x0 == 237) = false := beq_eq_false_iff_ne.2 (by omega)
    have f240 : (x0 == 240) = false := beq_eq_false_iff_ne.2 (by omega)
    go_enter Try.func22, Try.ntmps22
    go_wp2
    go_loop [4, 5, 7] (fun lo hi i => ∃ (k : Nat) (l h : Int), 1 ≤ k ∧ k ≤ 4 ∧ k ≤ n ∧ lo = .int .u8 l ∧ hi = .int .u8 h ∧ i = .int .i64 k ∧ k + adv (zs.drop k) (4 - k) l h = MS zs)
      (fun _ _ i => 4 - (intOf i).toNat)
    case atStart => exact ⟨1, 128, 191, by omega, by omega, by omega, rfl, rfl, rfl, HM.out⟩
    case round =>
      obtain ⟨k, l, h, hk1, hk2, hk3, rfl, rfl, rfl, hms⟩ := hrel
      have HK : Hid (k + adv (zs.drop k) (4 - k) l h = MS zs) := hms
      clear hms
      by_cases h1 : k < 4 ∧ k < n
      · obtain ⟨h1, h2⟩ := h1
        have hcell : w.cell? ⟨b, off + k, none⟩ = some (.int .u8 (zs.getD k 0)) := HC.out k (by rw [← HN.out]; exact h2)
        have hs := fun a b => adv_step (zs := zs) (k := k) (N := 4) (l := l) (h := h) (by rw [← HN.out]; exact h2) h1 a b
        have ht := fun a => adv_stop (zs := zs) (k := k) (N := 4) (l := l) (h := h) (by rw [← HN.out]; exact h2) h1 a
        obtain ⟨y, hy⟩ : ∃ y, y = zs.getD k 0 := ⟨_, rfl⟩
        rw [← hy] at hcell hs ht
        clear hy
        by_cases h3 : l ≤ y ∧ y ≤ h
        · obtain ⟨h3, h4⟩ := h3
          have HS : Hid (adv (zs.drop k) (4 - k) l h = adv (zs.drop (k + 1)) (4 - (k + 1)) 128 191 + 1) := hs h3 h4
          clear hs ht
          go_wp2
          go_round
          case rel => exact ⟨k + 1, 128, 191, by omega, by omega, by omega, rfl, rfl, by go_num, by rw [← HK.out, HS.out]; omega⟩
          case measure => simp [intOf]; omega
        · have HT : Hid (MS zs = k) := by show MS zs = k; rw [← HK.out, ht h3]; rfl
          clear hs ht
          by_cases h4 : l ≤ y
          · have h5 : h < y := by omega
            clear h3
            go_wp2
            go_ret
            exact ⟨ret_int (by rw [HT.out]), rfl⟩
          · have h5 : y < l := by omega
            clear h3
            go_wp2
            go_ret
            exact ⟨ret_int (by rw [HT.out]), rfl⟩
      · have HT : Hid (MS zs = k) := by show MS zs = k; rw [← HK.out, adv_end (by rw [← HN.out]; omega)]; rfl
        by_cases h4 : k < 4
        · have h5 : n ≤ k := by omega
          clear h1
          go_wp2
          go_ret
          exact ⟨ret_int (by rw [HT.out]), rfl⟩
        · have h5 : 4 ≤ k := by omega
          clear h1
          go_wp2
          go_ret
          exact ⟨ret_int (by rw [HT.out]), rfl⟩
  by_cases e244 : x0 = 244
  · have HM : Hid (1 + adv (zs.drop 1) (4 - 1) 128 143 = MS zs) := MS_start (by rw [← HN.out]; exact hp) (by rw [← HX.out]; unfold nn; rw [if_neg (by omega), if_pos (by omega)]) (by omega) (by rw [← HX.out]; unfold lo2; rw [if_neg (by omega), if_neg (by omega)]) (by rw [← HX.out]; unfold hi2; rw [if_neg (by omega), if_pos (by omega)])
    subst e244
    go_enter Try.func22, Try.ntmps22
    go_wp2
    go_loop [4, 5, 7] (fun lo hi i => ∃ (k : Nat) (l h : Int), 1 ≤ k ∧ k ≤ 4 ∧ k ≤ n ∧ lo = .int .u8 l ∧ hi = .int .u8 h ∧ i = .int .i64 k ∧ k + adv (zs.drop k) (4 - k) l h = MS zs)
      (fun _ _ i => 4 - (intOf i).toNat)
    case atStart => exact ⟨1, 128, 143, by omega, by omega, by omega, rfl, rfl, rfl, HM.out⟩
    case round =>
      obtain ⟨k, l, h, hk1, hk2, hk3, rfl, rfl, rfl, hms⟩ := hrel
      have HK : Hid (k + adv (zs.drop k) (4 - k) l h = MS zs) := hms
      clear hms
      by_cases h1 : k < 4 ∧ k < n
      · obtain ⟨h1, h2⟩ := h1
        have hcell : w.cell? ⟨b, off + k, none⟩ = some (.int .u8 (zs.getD k 0)) := HC.out k (by rw [← HN.out]; exact h2)
        have hs := fun a b => adv_step (zs := zs) (k := k) (N := 4) (l := l) (h := h) (by rw [← HN.out]; exact h2) h1 a b
        have ht := fun a => adv_stop (zs := zs) (k := k) (N := 4) (l := l) (h := h) (by rw [← HN.out]; exact h2) h1 a
        obtain ⟨y, hy⟩ : ∃ y, y = zs.getD k 0 := ⟨_, rfl⟩
        rw [← hy] at hcell hs ht
        clear hy
        by_cases h3 : l ≤ y ∧ y ≤ h
        · obtain ⟨h3, h4⟩ := h3
          have HS : Hid (adv (zs.drop k) (4 - k) l h = adv (zs.drop (k + 1)) (4 - (k + 1)) 128 191 + 1) := hs h3 h4
          clear hs ht
          go_wp2
          go_round
          case rel => exact ⟨k + 1, 128, 191, by omega, by omega, by omega, rfl, rfl, by go_num, by rw [← HK.out, HS.out]; omega⟩
          case measure => simp [intOf]; omega
        · have HT : Hid (MS zs = k) := by show MS zs = k; rw [← HK.out, ht h3]; rfl
          clear hs ht
          by_cases h4 : l ≤ y
          · have h5 : h < y := by omega
            clear h3
            go_wp2
            go_ret
            exact ⟨ret_int (by rw [HT.out]), rfl⟩
          · have h5 : y < l := by omega
            clear h3
            go_wp2
            go_ret
            exact ⟨ret_int (by rw [HT.out]), rfl⟩
      · have HT : Hid (MS zs = k) := by show MS zs = k; rw [← HK.out, adv_end (by rw [← HN.out]; omega)]; rfl
        by_cases h4 : k < 4
        · have h5 : n ≤ k := by omega
          clear h1
          go_wp2
          go_ret
          exact ⟨ret_int (by rw [HT.out]), rfl⟩
        · have h5 : 4 ≤ k := by omega
          clear h1
          go_wp2
          go_ret
          exact ⟨ret_int (by rw [HT.out]), rfl⟩
  have H1 : Hid (MS zs = 1) := MS_one (by rw [← HN.out]; exact hp) (by rw [← HX.out]; unfold nn; rw [if_neg (by omega), if_neg (by omega)])
  have f224 : (x0 == 224) = false := beq_eq_false_iff_ne.2 e224
  have f237 : (x0 == 237) = false := beq_eq_false_iff_ne.2 e237
  have f240 : (x0 == 240) = false := beq_eq_false_iff_ne.2 e240
  have f244 : (x0 == 244) = false := beq_eq_false_iff_ne.2 e244
  rcases (show x0 < 225 ∨ 244 < x0 by omega) with h | h
  · clear r3 r4
    go_enter Try.func22, Try.ntmps22
    go_wp2
    go_ret
    exact ⟨ret_int (by rw [H1.out]; rfl), rfl⟩
  · clear r3 r4
    go_enter Try.func22, Try.ntmps22
    go_wp2
    go_ret
    exact ⟨ret_int (by rw [H1.out]; rfl), rfl⟩

theorem zz_any (b off cap : Nat) (zs : List Int) (w : World) (hn : zs.length ≤ 1048576) (hp : 0 < zs.length) (hby : Bytes zs) (hc : At w b off zs) :
    Calls Try.prog 11 #[.slice (some ⟨b, off, none⟩) zs.length cap] w fun e w' => e = .returned (.int .i64 (MS zs)) ∧ w = w' := by
  go_enter Try.func11, Try.ntmps11
  go_wp2_with fail
  refine (max_any b off cap zs w hn hp hby hc).mono ?_
  rintro e w' ⟨rfl, rfl⟩
  go_wp2_with fail
  go_ret
  exact ⟨rfl, rfl⟩

end Go.Proofs.Qxb6000849a
