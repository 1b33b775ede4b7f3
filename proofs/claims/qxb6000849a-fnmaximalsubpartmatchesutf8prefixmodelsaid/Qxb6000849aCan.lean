/-
  Seat b6000849a: zzCanStartWellFormed (21): it answers CS.
-/
import Derived.Test.Qxb6000849aBase
namespace Go.Proofs.Qxb6000849a
open Go.RowKit

theorem val_snoc : ∀ (l : List Int) (v c : Int), val v (l ++ [c]) = val v l * 64 + (c - 128)
  | [], _, _ => rfl
  | d :: r, v, c => by simp only [List.cons_append, val]; exact val_snoc r _ c

theorem val_step {zs : List Int} {k : Nat} (v : Int) (h1 : 1 ≤ k) (h2 : k < zs.length) : val v ((zs.take (k + 1)).drop 1) = val v ((zs.take k).drop 1) * 64 + (zs.getD k 0 - 128) := by
  have e : (zs.take (k + 1)).drop 1 = (zs.take k).drop 1 ++ [zs.getD k 0] := by
    rw [List.take_succ_eq_append_getElem h2, List.drop_append_of_le_length (by simp; omega), List.getD_eq_getElem?_getD, List.getElem?_eq_getElem h2]
    rfl
  rw [e, val_snoc]

theorem cs_low {zs : List Int} (h0 : 0 < zs.length) (h : zs.getD 0 0 < 128) : CS zs = decide (zs.length = 1) := by
  match zs, h0 with
  | b :: r, _ =>
    have h' : b < 128 := by simpa using h
    simp only [CS, h', if_true]
    cases r <;> simp
theorem cs_none {zs : List Int} (h : 128 ≤ zs.getD 0 0) (hl : LL (zs.getD 0 0) = 0 ∨ LL (zs.getD 0 0) < zs.length) : CS zs = false := by
  match zs with
  | [] => rfl
  | b :: r =>
    simp only [List.getD_cons_zero, List.length_cons] at h hl
    simp only [CS]
    rw [if_neg (by omega)]
    rcases hl with hl | hl
    · rw [if_pos hl]
    · by_cases e : LL b = 0
      · rw [if_pos e]
      · rw [if_neg e, if_pos hl]

theorem all_cont {b : Int} {r : List Int} (h : ∀ i, 1 ≤ i → i < r.length + 1 → cont ((b :: r).getD i 0) = true) : r.all cont = true := by
  rw [List.all_eq_true]
  intro c hc
  obtain ⟨i, hi, rfl⟩ := List.mem_iff_getElem.1 hc
  have := h (i + 1) (by omega) (by omega)
  simpa [hi] using this

theorem cs_yes {zs : List Int} {n L : Nat} (hL : zs.length = L) (h1 : 1 ≤ L) (h2 : L ≤ n) (hx : 128 ≤ zs.getD 0 0) (hn : LL (zs.getD 0 0) = n) (hall : ∀ i, 1 ≤ i → i < L → cont (zs.getD i 0) = true) :
    CS zs = okI n (val (lead (zs.getD 0 0)) (zs.drop 1) * 64 ^ (n - L)) (val (lead (zs.getD 0 0)) (zs.drop 1) * 64 ^ (n - L) + 64 ^ (n - L) - 1) := by
  match zs, hL with
  | b :: r, hL =>
    simp only [List.length_cons] at hL
    simp only [List.getD_cons_zero, List.drop_succ_cons, List.drop_zero] at hx hn ⊢
    have ha := all_cont (b := b) (r := r) (fun i q1 q2 => hall i q1 (by omega))
    simp only [CS]
    rw [if_neg (by omega), hn, if_neg (by omega), if_neg (by omega), ha, hL]
    rfl

theorem cs_no {zs : List Int} (hx : 128 ≤ zs.getD 0 0) (k : Nat) (h1 : 1 ≤ k) (h2 : k < zs.length) (hc : cont (zs.getD k 0) = false) : CS zs = false := by
  match zs, h2 with
  | b :: r, h2 =>
    simp only [List.getD_cons_zero] at hx
    have ha : r.all cont = false := by
      rw [List.all_eq_false]
      match k, h1 with
      | k + 1, _ =>
        have hk : k < r.length := by simpa using h2
        refine ⟨r[k], List.getElem_mem hk, ?_⟩
        have : cont r[k] = false := by simpa [hk] using hc
        rw [this]
        exact Bool.false_ne_true
    simp only [CS]
    rw [if_neg (by omega)]
    split
    · rfl
    · split
      · rfl
      · rw [ha]; rfl

theorem or_u32 (i : Nat) (x y : Int) (hx0 : 0 ≤ x) (hx : x % 2 ^ i = 0) (hx1 : x < 4294967296) (hy0 : 0 ≤ y) (hy : y < 2 ^ i) (hy1 : y < 4294967296) : bits .or .u32 x y = x + y :=
  bits_join .u32 32 (by decide) (fun n h0 h1 => by rw [IntKind.wrap_u32]; omega) i x y hx0 hx hx1 hy0 hy hy1

theorem val_take1 (v : Int) (zs : List Int) : val v ((zs.take 1).drop 1) = v := by
  match zs with
  | [] => rfl
  | b :: r => rfl

set_option maxHeartbeats 4000000 in
set_option maxRecDepth 100000 in
theorem can_2_2 (b off cap : Nat) (zs : List Int) (w : World) (hL : zs.length = 2) (hby : Bytes zs) (hc : At w b off zs) (hl1 : 192 ≤ zs.getD 0 0) (hl2 : zs.getD 0 0 ≤ 223) :
    Calls Try.prog 21 #[.slice (some ⟨b, off, none⟩) 2 cap] w fun e w' => e = .returned (.bool (CS zs)) ∧ w = w' := by
  have hc0 : w.cell? ⟨b, off, none⟩ = some (.int .u8 (zs.getD 0 0)) := hc 0 (by omega)
  have HYes := fun h => cs_yes (n := 2) hL (by omega) (by omega) (by omega) (ll2 hl1 hl2).1 h
  have HNo := fun k (a : 1 ≤ k) (q : k < 2) => cs_no (zs := zs) (by omega) k a (by rw [hL]; exact q)
  have hlead := (ll2 hl1 hl2).2
  rw [hlead] at HYes
  have hb0 := hby.getD 0
  have HY1 : Hid ((∀ i, 1 ≤ i → i < 2 → cont (zs.getD i 0) = true) → CS zs = okI 2 (val (zs.getD 0 0 - 192) (zs.drop 1) * 64 ^ (2 - 2)) (val (zs.getD 0 0 - 192) (zs.drop 1) * 64 ^ (2 - 2) + 64 ^ (2 - 2) - 1)) := HYes
  have HN1 : Hid (∀ k, 1 ≤ k → k < 2 → cont (zs.getD k 0) = false → CS zs = false) := HNo
  have HB : Hid (Bytes zs) := hby
  have HC : Hid (At w b off zs) := hc
  have HL : Hid (zs.length = 2) := hL
  clear hby hc hL HYes HNo hlead
  obtain ⟨x0, hx0⟩ : ∃ x0, x0 = zs.getD 0 0 := ⟨_, rfl⟩
  rw [← hx0] at hc0 hb0 hl1 hl2 HY1
  clear hx0
  have hll : Hid (LL x0 = 2) := (ll2 hl1 hl2).1
  have h128 : decide (x0 < 128) = false := decide_eq_false (by omega)
  have hmod : Hid (x0 % 32 = x0 - 192) := by show x0 % 32 = x0 - 192; omega
  go_enter Try.func21, Try.ntmps21
  go_wp2_with (go_at_call 20; refine (lead_any x0 _ hb0.1 hb0.2).mono ?_; rintro e w' ⟨rfl, rfl⟩; rw [hll.out])
  go_loop [4, 5] (fun v j => ∃ (k : Nat) (u : Int), 1 ≤ k ∧ k ≤ 2 ∧ 0 ≤ u ∧ u < 2097152 ∧ ((k ≤ 1 → u < 32) ∧ (k ≤ 2 → u < 32 * 64) ∧ (k ≤ 3 → u < 32 * 4096)) ∧ v = .int .u32 u ∧ j = .int .i64 k ∧ (∀ i, 1 ≤ i → i < k → cont (zs.getD i 0) = true) ∧ u = val (x0 - 192) ((zs.take k).drop 1))
    (fun _ j => 2 - (intOf j).toNat)
  case atStart => exact ⟨1, x0 % 32, by omega, by omega, by omega, by omega, ⟨by omega, by omega, by omega⟩, rfl, rfl, fun i q1 q2 => by omega, by rw [hmod.out]; exact (val_take1 _ _).symm⟩
  case round =>
    obtain ⟨k, u, hk1, hk2, hu1, hu2, hub, rfl, rfl, hco, hval⟩ := hrel
    have HU : Hid ((k ≤ 1 → u < 32) ∧ (k ≤ 2 → u < 32 * 64) ∧ (k ≤ 3 → u < 32 * 4096)) := hub
    have HCo : Hid (∀ i, 1 ≤ i → i < k → cont (zs.getD i 0) = true) := hco
    have HV : Hid (u = val (x0 - 192) ((zs.take k).drop 1)) := hval
    clear hco hval hub
    by_cases hk : k < 2
    · have hcell : w.cell? ⟨b, off + k, none⟩ = some (.int .u8 (zs.getD k 0)) := HC.out k (by rw [HL.out]; exact hk)
      have hyb := HB.out.getD k
      have hst := val_step (zs := zs) (k := k) (x0 - 192) hk1 (by rw [HL.out]; exact hk)
      have hnn := HN1.out k hk1 hk
      obtain ⟨y, hy⟩ : ∃ y, y = zs.getD k 0 := ⟨_, rfl⟩
      have HY : Hid (y = zs.getD k 0) := hy
      rw [← hy] at hcell hyb hst hnn
      rw [← HV.out] at hst
      have HS : Hid (val (x0 - 192) ((zs.take (k + 1)).drop 1) = u * 64 + (y - 128)) := hst
      clear hy hst
      have ha := and192 y hyb.1 hyb.2
      cases hcy : cont y
      · have HF : Hid (CS zs = false) := hnn hcy
        rw [hcy] at ha
        have ha' : (bits .and .u8 y 192 != 128) = true := ha
        clear ha hnn hcy
        go_wp2
        go_ret
        exact ⟨ret_bool HF.out.symm, rfl⟩
      · have hy2 := (cont_iff y).1 hcy
        have HCY : Hid (cont y = true) := hcy
        rw [hcy] at ha
        have ha' : (bits .and .u8 y 192 != 128) = false := ha
        have hor : Hid (bits .or .u32 (u * 64) (y % 64) = u * 64 + (y - 128)) := by
          show bits .or .u32 (u * 64) (y % 64) = u * 64 + (y - 128)
          rw [or_u32 6 (u * 64) (y % 64) (by omega) (by omega) (by omega) (by omega) (by omega) (by omega)]
          omega
        clear ha hnn hcy
        go_wp2
        go_round
        case rel =>
          rw [hor.out]
          have hq := HU.out
          exact ⟨k + 1, u * 64 + (y - 128), by omega, by omega, by omega, by omega, ⟨by omega, by omega, by omega⟩, rfl, by go_num, fun i q1 q2 => by
            by_cases e : i = k
            · subst e; rw [← HY.out]; exact HCY.out
            · exact HCo.out i q1 (by omega), HS.out.symm⟩
        case measure => simp [intOf]; omega
    · have hkk : k = 2 := by omega
      have HF : Hid (CS zs = okI 2 (u * 1) (u * 1 + 1 - 1)) := by
        have h := HY1.out (fun i q1 q2 => HCo.out i q1 (by omega))
        have hv := HV.out
        rw [List.take_of_length_le (by rw [HL.out]; omega)] at hv
        rw [← hv] at h
        exact h
      have hq := HU.out
      have hub : u < 2048 := by omega
      have hor : bits .or .u32 (u * 1) (1 - 1) = u * 1 + (1 - 1) := or_u32 0 (u * 1) (1 - 1) (by omega) (by omega) (by omega) (by omega) (by omega) (by omega)
      rw [show ((1 : Int) - 1) = 0 from rfl, Int.mul_one, Int.add_zero] at hor
      clear hq hkk HU
      go_wp2
      all_goals
        go_ret
        exact ⟨ret_bool (by rw [HF.out]; unfold okI least; simp; omega), rfl⟩

set_option maxHeartbeats 4000000 in
set_option maxRecDepth 100000 in
theorem can_3_2 (b off cap : Nat) (zs : List Int) (w : World) (hL : zs.length = 2) (hby : Bytes zs) (hc : At w b off zs) (hl1 : 224 ≤ zs.getD 0 0) (hl2 : zs.getD 0 0 ≤ 239) :
    Calls Try.prog 21 #[.slice (some ⟨b, off, none⟩) 2 cap] w fun e w' => e = .returned (.bool (CS zs)) ∧ w = w' := by
  have hc0 : w.cell? ⟨b, off, none⟩ = some (.int .u8 (zs.getD 0 0)) := hc 0 (by omega)
  have HYes := fun h => cs_yes (n := 3) hL (by omega) (by omega) (by omega) (ll3 hl1 hl2).1 h
  have HNo := fun k (a : 1 ≤ k) (q : k < 2) => cs_no (zs := zs) (by omega) k a (by rw [hL]; exact q)
  have hlead := (ll3 hl1 hl2).2
  rw [hlead] at HYes
  have hb0 := hby.getD 0
  have HY1 : Hid ((∀ i, 1 ≤ i → i < 2 → cont (zs.getD i 0) = true) → CS zs = okI 3 (val (zs.getD 0 0 - 224) (zs.drop 1) * 64 ^ (3 - 2)) (val (zs.getD 0 0 - 224) (zs.drop 1) * 64 ^ (3 - 2) + 64 ^ (3 - 2) - 1)) := HYes
  have HN1 : Hid (∀ k, 1 ≤ k → k < 2 → cont (zs.getD k 0) = false → CS zs = false) := HNo
  have HB : Hid (Bytes zs) := hby
  have HC : Hid (At w b off zs) := hc
  have HL : Hid (zs.length = 2) := hL
  clear hby hc hL HYes HNo hlead
  obtain ⟨x0, hx0⟩ : ∃ x0, x0 = zs.getD 0 0 := ⟨_, rfl⟩
  rw [← hx0] at hc0 hb0 hl1 hl2 HY1
  clear hx0
  have hll : Hid (LL x0 = 3) := (ll3 hl1 hl2).1
  have h128 : decide (x0 < 128) = false := decide_eq_false (by omega)
  have hmod : Hid (x0 % 16 = x0 - 224) := by show x0 % 16 = x0 - 224; omega
  go_enter Try.func21, Try.ntmps21
  go_wp2_with (go_at_call 20; refine (lead_any x0 _ hb0.1 hb0.2).mono ?_; rintro e w' ⟨rfl, rfl⟩; rw [hll.out])
  go_loop [4, 5] (fun v j => ∃ (k : Nat) (u : Int), 1 ≤ k ∧ k ≤ 2 ∧ 0 ≤ u ∧ u < 2097152 ∧ ((k ≤ 1 → u < 16) ∧ (k ≤ 2 → u < 16 * 64) ∧ (k ≤ 3 → u < 16 * 4096)) ∧ v = .int .u32 u ∧ j = .int .i64 k ∧ (∀ i, 1 ≤ i → i < k → cont (zs.getD i 0) = true) ∧ u = val (x0 - 224) ((zs.take k).drop 1))
    (fun _ j => 2 - (intOf j).toNat)
  case atStart => exact ⟨1, x0 % 16, by omega, by omega, by omega, by omega, ⟨by omega, by omega, by omega⟩, rfl, rfl, fun i q1 q2 => by omega, by rw [hmod.out]; exact (val_take1 _ _).symm⟩
  case round =>
    obtain ⟨k, u, hk1, hk2, hu1, hu2, hub, rfl, rfl, hco, hval⟩ := hrel
    have HU : Hid ((k ≤ 1 → u < 16) ∧ (k ≤ 2 → u < 16 * 64) ∧ (k ≤ 3 → u < 16 * 4096)) := hub
    have HCo : Hid (∀ i, 1 ≤ i → i < k → cont (zs.getD i 0) = true) := hco
    have HV : Hid (u = val (x0 - 224) ((zs.take k).drop 1)) := hval
    clear hco hval hub
    by_cases hk : k < 2
    · have hcell : w.cell? ⟨b, off + k, none⟩ = some (.int .u8 (zs.getD k 0)) := HC.out k (by rw [HL.out]; exact hk)
      have hyb := HB.out.getD k
      have hst := val_step (zs := zs) (k := k) (x0 - 224) hk1 (by rw [HL.out]; exact hk)
      have hnn := HN1.out k hk1 hk
      obtain ⟨y, hy⟩ : ∃ y, y = zs.getD k 0 := ⟨_, rfl⟩
      have HY : Hid (y = zs.getD k 0) := hy
      rw [← hy] at hcell hyb hst hnn
      rw [← HV.out] at hst
      have HS : Hid (val (x0 - 224) ((zs.take (k + 1)).drop 1) = u * 64 + (y - 128)) := hst
      clear hy hst
      have ha := and192 y hyb.1 hyb.2
      cases hcy : cont y
      · have HF : Hid (CS zs = false) := hnn hcy
        rw [hcy] at ha
        have ha' : (bits .and .u8 y 192 != 128) = true := ha
        clear ha hnn hcy
        go_wp2
        go_ret
        exact ⟨ret_bool HF.out.symm, rfl⟩
      · have hy2 := (cont_iff y).1 hcy
        have HCY : Hid (cont y = true) := hcy
        rw [hcy] at ha
        have ha' : (bits .and .u8 y 192 != 128) = false := ha
        have hor : Hid (bits .or .u32 (u * 64) (y % 64) = u * 64 + (y - 128)) := by
          show bits .or .u32 (u * 64) (y % 64) = u * 64 + (y - 128)
          rw [or_u32 6 (u * 64) (y % 64) (by omega) (by omega) (by omega) (by omega) (by omega) (by omega)]
          omega
        clear ha hnn hcy
        go_wp2
        go_round
        case rel =>
          rw [hor.out]
          have hq := HU.out
          exact ⟨k + 1, u * 64 + (y - 128), by omega, by omega, by omega, by omega, ⟨by omega, by omega, by omega⟩, rfl, by go_num, fun i q1 q2 => by
            by_cases e : i = k
            · subst e; rw [← HY.out]; exact HCY.out
            · exact HCo.out i q1 (by omega), HS.out.symm⟩
        case measure => simp [intOf]; omega
    · have hkk : k = 2 := by omega
      have HF : Hid (CS zs = okI 3 (u * 64) (u * 64 + 64 - 1)) := by
        have h := HY1.out (fun i q1 q2 => HCo.out i q1 (by omega))
        have hv := HV.out
        rw [List.take_of_length_le (by rw [HL.out]; omega)] at hv
        rw [← hv] at h
        exact h
      have hq := HU.out
      have hub : u < 1024 := by omega
      have hor : bits .or .u32 (u * 64) (64 - 1) = u * 64 + (64 - 1) := or_u32 6 (u * 64) (64 - 1) (by omega) (by omega) (by omega) (by omega) (by omega) (by omega)
      rw [show ((64 : Int) - 1) = 63 from rfl] at hor
      clear hq hkk HU
      go_wp2
      all_goals
        go_ret
        exact ⟨ret_bool (by rw [HF.out]; unfold okI least; simp; omega), rfl⟩

set_option maxHeartbeats 4000000 in
set_option maxRecDepth 100000 in
theorem can_3_3 (b off cap : Nat) (zs : List Int) (w : World) (hL : zs.length = 3) (hby : Bytes zs) (hc : At w b off zs) (hl1 : 224 ≤ zs.getD 0 0) (hl2 : zs.getD 0 0 ≤ 239) :
    Calls Try.prog 21 #[.slice (some ⟨b, off, none⟩) 3 cap] w fun e w' => e = .returned (.bool (CS zs)) ∧ w = w' := by
  have hc0 : w.cell? ⟨b, off, none⟩ = some (.int .u8 (zs.getD 0 0)) := hc 0 (by omega)
  have HYes := fun h => cs_yes (n := 3) hL (by omega) (by omega) (by omega) (ll3 hl1 hl2).1 h
  have HNo := fun k (a : 1 ≤ k) (q : k < 3) => cs_no (zs := zs) (by omega) k a (by rw [hL]; exact q)
  have hlead := (ll3 hl1 hl2).2
  rw [hlead] at HYes
  have hb0 := hby.getD 0
  have HY1 : Hid ((∀ i, 1 ≤ i → i < 3 → cont (zs.getD i 0) = true) → CS zs = okI 3 (val (zs.getD 0 0 - 224) (zs.drop 1) * 64 ^ (3 - 3)) (val (zs.getD 0 0 - 224) (zs.drop 1) * 64 ^ (3 - 3) + 64 ^ (3 - 3) - 1)) := HYes
  have HN1 : Hid (∀ k, 1 ≤ k → k < 3 → cont (zs.getD k 0) = false → CS zs = false) := HNo
  have HB : Hid (Bytes zs) := hby
  have HC : Hid (At w b off zs) := hc
  have HL : Hid (zs.length = 3) := hL
  clear hby hc hL HYes HNo hlead
  obtain ⟨x0, hx0⟩ : ∃ x0, x0 = zs.getD 0 0 := ⟨_, rfl⟩
  rw [← hx0] at hc0 hb0 hl1 hl2 HY1
  clear hx0
  have hll : Hid (LL x0 = 3) := (ll3 hl1 hl2).1
  have h128 : decide (x0 < 128) = false := decide_eq_false (by omega)
  have hmod : Hid (x0 % 16 = x0 - 224) := by show x0 % 16 = x0 - 224; omega
  go_enter Try.func21, Try.ntmps21
  go_wp2_with (go_at_call 20; refine (lead_any x0 _ hb0.1 hb0.2).mono ?_; rintro e w' ⟨rfl, rfl⟩; rw [hll.out])
  go_loop [4, 5] (fun v j => ∃ (k : Nat) (u : Int), 1 ≤ k ∧ k ≤ 3 ∧ 0 ≤ u ∧ u < 2097152 ∧ ((k ≤ 1 → u < 16) ∧ (k ≤ 2 → u < 16 * 64) ∧ (k ≤ 3 → u < 16 * 4096)) ∧ v = .int .u32 u ∧ j = .int .i64 k ∧ (∀ i, 1 ≤ i → i < k → cont (zs.getD i 0) = true) ∧ u = val (x0 - 224) ((zs.take k).drop 1))
    (fun _ j => 3 - (intOf j).toNat)
  case atStart => exact ⟨1, x0 % 16, by omega, by omega, by omega, by omega, ⟨by omega, by omega, by omega⟩, rfl, rfl, fun i q1 q2 => by omega, by rw [hmod.out]; exact (val_take1 _ _).symm⟩
  case round =>
    obtain ⟨k, u, hk1, hk2, hu1, hu2, hub, rfl, rfl, hco, hval⟩ := hrel
    have HU : Hid ((k ≤ 1 → u < 16) ∧ (k ≤ 2 → u < 16 * 64) ∧ (k ≤ 3 → u < 16 * 4096)) := hub
    have HCo : Hid (∀ i, 1 ≤ i → i < k → cont (zs.getD i 0) = true) := hco
    have HV : Hid (u = val (x0 - 224) ((zs.take k).drop 1)) := hval
    clear hco hval hub
    by_cases hk : k < 3
    · have hcell : w.cell? ⟨b, off + k, none⟩ = some (.int .u8 (zs.getD k 0)) := HC.out k (by rw [HL.out]; exact hk)
      have hyb := HB.out.getD k
      have hst := val_step (zs := zs) (k := k) (x0 - 224) hk1 (by rw [HL.out]; exact hk)
      have hnn := HN1.out k hk1 hk
      obtain ⟨y, hy⟩ : ∃ y, y = zs.getD k 0 := ⟨_, rfl⟩
      have HY : Hid (y = zs.getD k 0) := hy
      rw [← hy] at hcell hyb hst hnn
      rw [← HV.out] at hst
      have HS : Hid (val (x0 - 224) ((zs.take (k + 1)).drop 1) = u * 64 + (y - 128)) := hst
      clear hy hst
      have ha := and192 y hyb.1 hyb.2
      cases hcy : cont y
      · have HF : Hid (CS zs = false) := hnn hcy
        rw [hcy] at ha
        have ha' : (bits .and .u8 y 192 != 128) = true := ha
        clear ha hnn hcy
        go_wp2
        go_ret
        exact ⟨ret_bool HF.out.symm, rfl⟩
      · have hy2 := (cont_iff y).1 hcy
        have HCY : Hid (cont y = true) := hcy
        rw [hcy] at ha
        have ha' : (bits .and .u8 y 192 != 128) = false := ha
        have hor : Hid (bits .or .u32 (u * 64) (y % 64) = u * 64 + (y - 128)) := by
          show bits .or .u32 (u * 64) (y % 64) = u * 64 + (y - 128)
          rw [or_u32 6 (u * 64) (y % 64) (by omega) (by omega) (by omega) (by omega) (by omega) (by omega)]
          omega
        clear ha hnn hcy
        go_wp2
        go_round
        case rel =>
          rw [hor.out]
          have hq := HU.out
          exact ⟨k + 1, u * 64 + (y - 128), by omega, by omega, by omega, by omega, ⟨by omega, by omega, by omega⟩, rfl, by go_num, fun i q1 q2 => by
            by_cases e : i = k
            · subst e; rw [← HY.out]; exact HCY.out
            · exact HCo.out i q1 (by omega), HS.out.symm⟩
        case measure => simp [intOf]; omega
    · have hkk : k = 3 := by omega
      have HF : Hid (CS zs = okI 3 (u * 1) (u * 1 + 1 - 1)) := by
        have h := HY1.out (fun i q1 q2 => HCo.out i q1 (by omega))
        have hv := HV.out
        rw [List.take_of_length_le (by rw [HL.out]; omega)] at hv
        rw [← hv] at h
        exact h
      have hq := HU.out
      have hub : u < 65536 := by omega
      have hor : bits .or .u32 (u * 1) (1 - 1) = u * 1 + (1 - 1) := or_u32 0 (u * 1) (1 - 1) (by omega) (by omega) (by omega) (by omega) (by omega) (by omega)
      rw [show ((1 : Int) - 1) = 0 from rfl, Int.mul_one, Int.add_zero] at hor
      clear hq hkk HU
      go_wp2
      all_goals
        go_ret
        exact ⟨ret_bool (by rw [HF.out]; unfold okI least; simp; omega), rfl⟩

set_option maxHeartbeats 4000000 in
set_option maxRecDepth 100000 in
theorem can_4_2 (b off cap : Nat) (zs : List Int) (w : World) (hL : zs.length = 2) (hby : Bytes zs) (hc : At w b off zs) (hl1 : 240 ≤ zs.getD 0 0) (hl2 : zs.getD 0 0 ≤ 247) :
    Calls Try.prog 21 #[.slice (some ⟨b, off, none⟩) 2 cap] w fun e w' => e = .returned (.bool (CS zs)) ∧ w = w' := by
  have hc0 : w.cell? ⟨b, off, none⟩ = some (.int .u8 (zs.getD 0 0)) := hc 0 (by omega)
  have HYes := fun h => cs_yes (n := 4) hL (by omega) (by omega) (by omega) (ll4 hl1 hl2).1 h
  have HNo := fun k (a : 1 ≤ k) (q : k < 2) => cs_no (zs := zs) (by omega) k a (by rw [hL]; exact q)
  have hlead := (ll4 hl1 hl2).2
  rw [hlead] at HYes
  have hb0 := hby.getD 0
  have HY1 : Hid ((∀ i, 1 ≤ i → i < 2 → cont (zs.getD i 0) = true) → CS zs = okI 4 (val (zs.getD 0 0 - 240) (zs.drop 1) * 64 ^ (4 - 2)) (val (zs.getD 0 0 - 240) (zs.drop 1) * 64 ^ (4 - 2) + 64 ^ (4 - 2) - 1)) := HYes
  have HN1 : Hid (∀ k, 1 ≤ k → k < 2 → cont (zs.getD k 0) = false → CS zs = false) := HNo
  have HB : Hid (Bytes zs) := hby
  have HC : Hid (At w b off zs) := hc
  have HL : Hid (zs.length = 2) := hL
  clear hby hc hL HYes HNo hlead
  obtain ⟨x0, hx0⟩ : ∃ x0, x0 = zs.getD 0 0 := ⟨_, rfl⟩
  rw [← hx0] at hc0 hb0 hl1 hl2 HY1
  clear hx0
  have hll : Hid (LL x0 = 4) := (ll4 hl1 hl2).1
  have h128 : decide (x0 < 128) = false := decide_eq_false (by omega)
  have hmod : Hid (x0 % 8 = x0 - 240) := by show x0 % 8 = x0 - 240; omega
  go_enter Try.func21, Try.ntmps21
  go_wp2_with (go_at_call 20; refine (lead_any x0 _ hb0.1 hb0.2).mono ?_; rintro e w' ⟨rfl, rfl⟩; rw [hll.out])
  go_loop [4, 5] (fun v j => ∃ (k : Nat) (u : Int), 1 ≤ k ∧ k ≤ 2 ∧ 0 ≤ u ∧ u < 2097152 ∧ ((k ≤ 1 → u < 8) ∧ (k ≤ 2 → u < 8 * 64) ∧ (k ≤ 3 → u < 8 * 4096)) ∧ v = .int .u32 u ∧ j = .int .i64 k ∧ (∀ i, 1 ≤ i → i < k → cont (zs.getD i 0) = true) ∧ u = val (x0 - 240) ((zs.take k).drop 1))
    (fun _ j => 2 - (intOf j).toNat)
  case atStart => exact ⟨1, x0 % 8, by omega, by omega, by omega, by omega, ⟨by omega, by omega, by omega⟩, rfl, rfl, fun i q1 q2 => by omega, by rw [hmod.out]; exact (val_take1 _ _).symm⟩
  case round =>
    obtain ⟨k, u, hk1, hk2, hu1, hu2, hub, rfl, rfl, hco, hval⟩ := hrel
    have HU : Hid ((k ≤ 1 → u < 8) ∧ (k ≤ 2 → u < 8 * 64) ∧ (k ≤ 3 → u < 8 * 4096)) := hub
    have HCo : Hid (∀ i, 1 ≤ i → i < k → cont (zs.getD i 0) = true) := hco
    have HV : Hid (u = val (x0 - 240) ((zs.take k).drop 1)) := hval
    clear hco hval hub
    by_cases hk : k < 2
    · have hcell : w.cell? ⟨b, off + k, none⟩ = some (.int .u8 (zs.getD k 0)) := HC.out k (by rw [HL.out]; exact hk)
      have hyb := HB.out.getD k
      have hst := val_step (zs := zs) (k := k) (x0 - 240) hk1 (by rw [HL.out]; exact hk)
      have hnn := HN1.out k hk1 hk
      obtain ⟨y, hy⟩ : ∃ y, y = zs.getD k 0 := ⟨_, rfl⟩
      have HY : Hid (y = zs.getD k 0) := hy
      rw [← hy] at hcell hyb hst hnn
      rw [← HV.out] at hst
      have HS : Hid (val (x0 - 240) ((zs.take (k + 1)).drop 1) = u * 64 + (y - 128)) := hst
      clear hy hst
      have ha := and192 y hyb.1 hyb.2
      cases hcy : cont y
      · have HF : Hid (CS zs = false) := hnn hcy
        rw [hcy] at ha
        have ha' : (bits .and .u8 y 192 != 128) = true := ha
        clear ha hnn hcy
        go_wp2
        go_ret
        exact ⟨ret_bool HF.out.symm, rfl⟩
      · have hy2 := (cont_iff y).1 hcy
        have HCY : Hid (cont y = true) := hcy
        rw [hcy] at ha
        have ha' : (bits .and .u8 y 192 != 128) = false := ha
        have hor : Hid (bits .or .u32 (u * 64) (y % 64) = u * 64 + (y - 128)) := by
          show bits .or .u32 (u * 64) (y % 64) = u * 64 + (y - 128)
          rw [or_u32 6 (u * 64) (y % 64) (by omega) (by omega) (by omega) (by omega) (by omega) (by omega)]
          omega
        clear ha hnn hcy
        go_wp2
        go_round
        case rel =>
          rw [hor.out]
          have hq := HU.out
          exact ⟨k + 1, u * 64 + (y - 128), by omega, by omega, by omega, by omega, ⟨by omega, by omega, by omega⟩, rfl, by go_num, fun i q1 q2 => by
            by_cases e : i = k
            · subst e; rw [← HY.out]; exact HCY.out
            · exact HCo.out i q1 (by omega), HS.out.symm⟩
        case measure => simp [intOf]; omega
    · have hkk : k = 2 := by omega
      have HF : Hid (CS zs = okI 4 (u * 4096) (u * 4096 + 4096 - 1)) := by
        have h := HY1.out (fun i q1 q2 => HCo.out i q1 (by omega))
        have hv := HV.out
        rw [List.take_of_length_le (by rw [HL.out]; omega)] at hv
        rw [← hv] at h
        exact h
      have hq := HU.out
      have hub : u < 512 := by omega
      have hor : bits .or .u32 (u * 4096) (4096 - 1) = u * 4096 + (4096 - 1) := or_u32 12 (u * 4096) (4096 - 1) (by omega) (by omega) (by omega) (by omega) (by omega) (by omega)
      rw [show ((4096 : Int) - 1) = 4095 from rfl] at hor
      clear hq hkk HU
      go_wp2
      all_goals
        go_ret
        exact ⟨ret_bool (by rw [HF.out]; unfold okI least; simp; omega), rfl⟩

set_option maxHeartbeats 4000000 in
set_option maxRecDepth 100000 in
theorem can_4_3 (b off cap : Nat) (zs : List Int) (w : World) (hL : zs.length = 3) (hby : Bytes zs) (hc : At w b off zs) (hl1 : 240 ≤ zs.getD 0 0) (hl2 : zs.getD 0 0 ≤ 247) :
    Calls Try.prog 21 #[.slice (some ⟨b, off, none⟩) 3 cap] w fun e w' => e = .returned (.bool (CS zs)) ∧ w = w' := by
  have hc0 : w.cell? ⟨b, off, none⟩ = some (.int .u8 (zs.getD 0 0)) := hc 0 (by omega)
  have HYes := fun h => cs_yes (n := 4) hL (by omega) (by omega) (by omega) (ll4 hl1 hl2).1 h
  have HNo := fun k (a : 1 ≤ k) (q : k < 3) => cs_no (zs := zs) (by omega) k a (by rw [hL]; exact q)
  have hlead := (ll4 hl1 hl2).2
  rw [hlead] at HYes
  have hb0 := hby.getD 0
  have HY1 : Hid ((∀ i, 1 ≤ i → i < 3 → cont (zs.getD i 0) = true) → CS zs = okI 4 (val (zs.getD 0 0 - 240) (zs.drop 1) * 64 ^ (4 - 3)) (val (zs.getD 0 0 - 240) (zs.drop 1) * 64 ^ (4 - 3) + 64 ^ (4 - 3) - 1)) := HYes
  have HN1 : Hid (∀ k, 1 ≤ k → k < 3 → cont (zs.getD k 0) = false → CS zs = false) := HNo
  have HB : Hid (Bytes zs) := hby
  have HC : Hid (At w b off zs) := hc
  have HL : Hid (zs.length = 3) := hL
  clear hby hc hL HYes HNo hlead
  obtain ⟨x0, hx0⟩ : ∃ x0, x0 = zs.getD 0 0 := ⟨_, rfl⟩
  rw [← hx0] at hc0 hb0 hl1 hl2 HY1
  clear hx0
  have hll : Hid (LL x0 = 4) := (ll4 hl1 hl2).1
  have h128 : decide (x0 < 128) = false := decide_eq_false (by omega)
  have hmod : Hid (x0 % 8 = x0 - 240) := by show x0 % 8 = x0 - 240; omega
  go_enter Try.func21, Try.ntmps21
  go_wp2_with (go_at_call 20; refine (lead_any x0 _ hb0.1 hb0.2).mono ?_; rintro e w' ⟨rfl, rfl⟩; rw [hll.out])
  go_loop [4, 5] (fun v j => ∃ (k : Nat) (u : Int), 1 ≤ k ∧ k ≤ 3 ∧ 0 ≤ u ∧ u < 2097152 ∧ ((k ≤ 1 → u < 8) ∧ (k ≤ 2 → u < 8 * 64) ∧ (k ≤ 3 → u < 8 * 4096)) ∧ v = .int .u32 u ∧ j = .int .i64 k ∧ (∀ i, 1 ≤ i → i < k → cont (zs.getD i 0) = true) ∧ u = val (x0 - 240) ((zs.take k).drop 1))
    (fun _ j => 3 - (intOf j).toNat)
  case atStart => exact ⟨1, x0 % 8, by omega, by omega, by omega, by omega, ⟨by omega, by omega, by omega⟩, rfl, rfl, fun i q1 q2 => by omega, by rw [hmod.out]; exact (val_take1 _ _).symm⟩
  case round =>
    obtain ⟨k, u, hk1, hk2, hu1, hu2, hub, rfl, rfl, hco, hval⟩ := hrel
    have HU : Hid ((k ≤ 1 → u < 8) ∧ (k ≤ 2 → u < 8 * 64) ∧ (k ≤ 3 → u < 8 * 4096)) := hub
    have HCo : Hid (∀ i, 1 ≤ i → i < k → cont (zs.getD i 0) = true) := hco
    have HV : Hid (u = val (x0 - 240) ((zs.take k).drop 1)) := hval
    clear hco hval hub
    by_cases hk : k < 3
    · have hcell : w.cell? ⟨b, off + k, none⟩ = some (.int .u8 (zs.getD k 0)) := HC.out k (by rw [HL.out]; exact hk)
      have hyb := HB.out.getD k
      have hst := val_step (zs := zs) (k := k) (x0 - 240) hk1 (by rw [HL.out]; exact hk)
      have hnn := HN1.out k hk1 hk
      obtain ⟨y, hy⟩ : ∃ y, y = zs.getD k 0 := ⟨_, rfl⟩
      have HY : Hid (y = zs.getD k 0) := hy
      rw [← hy] at hcell hyb hst hnn
      rw [← HV.out] at hst
      have HS : Hid (val (x0 - 240) ((zs.take (k + 1)).drop 1) = u * 64 + (y - 128)) := hst
      clear hy hst
      have ha := and192 y hyb.1 hyb.2
      cases hcy : cont y
      · have HF : Hid (CS zs = false) := hnn hcy
        rw [hcy] at ha
        have ha' : (bits .and .u8 y 192 != 128) = true := ha
        clear ha hnn hcy
        go_wp2
        go_ret
        exact ⟨ret_bool HF.out.symm, rfl⟩
      · have hy2 := (cont_iff y).1 hcy
        have HCY : Hid (cont y = true) := hcy
        rw [hcy] at ha
        have ha' : (bits .and .u8 y 192 != 128) = false := ha
        have hor : Hid (bits .or .u32 (u * 64) (y % 64) = u * 64 + (y - 128)) := by
          show bits .or .u32 (u * 64) (y % 64) = u * 64 + (y - 128)
          rw [or_u32 6 (u * 64) (y % 64) (by omega) (by omega) (by omega) (by omega) (by omega) (by omega)]
          omega
        clear ha hnn hcy
        go_wp2
        go_round
        case rel =>
          rw [hor.out]
          have hq := HU.out
          exact ⟨k + 1, u * 64 + (y - 128), by omega, by omega, by omega, by omega, ⟨by omega, by omega, by omega⟩, rfl, by go_num, fun i q1 q2 => by
            by_cases e : i = k
            · subst e; rw [← HY.out]; exact HCY.out
            · exact HCo.out i q1 (by omega), HS.out.symm⟩
        case measure => simp [intOf]; omega
    · have hkk : k = 3 := by omega
      have HF : Hid (CS zs = okI 4 (u * 64) (u * 64 + 64 - 1)) := by
        have h := HY1.out (fun i q1 q2 => HCo.out i q1 (by omega))
        have hv := HV.out
        rw [List.take_of_length_le (by rw [HL.out]; omega)] at hv
        rw [← hv] at h
        exact h
      have hq := HU.out
      have hub : u < 32768 := by omega
      have hor : bits .or .u32 (u * 64) (64 - 1) = u * 64 + (64 - 1) := or_u32 6 (u * 64) (64 - 1) (by omega) (by omega) (by omega) (by omega) (by omega) (by omega)
      rw [show ((64 : Int) - 1) = 63 from rfl] at hor
      clear hq hkk HU
      go_wp2
      all_goals
        go_ret
        exact ⟨ret_bool (by rw [HF.out]; unfold okI least; simp; omega), rfl⟩

set_option maxHeartbeats 4000000 in
set_option maxRecDepth 100000 in
theorem can_4_4 (b off cap : Nat) (zs : List Int) (w : World) (hL : zs.length = 4) (hby : Bytes zs) (hc : At w b off zs) (hl1 : 240 ≤ zs.getD 0 0) (hl2 : zs.getD 0 0 ≤ 247) :
    Calls Try.prog 21 #[.slice (some ⟨b, off, none⟩) 4 cap] w fun e w' => e = .returned (.bool (CS zs)) ∧ w = w' := by
  have hc0 : w.cell? ⟨b, off, none⟩ = some (.int .u8 (zs.getD 0 0)) := hc 0 (by omega)
  have HYes := fun h => cs_yes (n := 4) hL (by omega) (by omega) (by omega) (ll4 hl1 hl2).1 h
  have HNo := fun k (a : 1 ≤ k) (q : k < 4) => cs_no (zs := zs) (by omega) k a (by rw [hL]; exact q)
  have hlead := (ll4 hl1 hl2).2
  rw [hlead] at HYes
  have hb0 := hby.getD 0
  have HY1 : Hid ((∀ i, 1 ≤ i → i < 4 → cont (zs.getD i 0) = true) → CS zs = okI 4 (val (zs.getD 0 0 - 240) (zs.drop 1) * 64 ^ (4 - 4)) (val (zs.getD 0 0 - 240) (zs.drop 1) * 64 ^ (4 - 4) + 64 ^ (4 - 4) - 1)) := HYes
  have HN1 : Hid (∀ k, 1 ≤ k → k < 4 → cont (zs.getD k 0) = false → CS zs = false) := HNo
  have HB : Hid (Bytes zs) := hby
  have HC : Hid (At w b off zs) := hc
  have HL : Hid (zs.length = 4) := hL
  clear hby hc hL HYes HNo hlead
  obtain ⟨x0, hx0⟩ : ∃ x0, x0 = zs.getD 0 0 := ⟨_, rfl⟩
  rw [← hx0] at hc0 hb0 hl1 hl2 HY1
  clear hx0
  have hll : Hid (LL x0 = 4) := (ll4 hl1 hl2).1
  have h128 : decide (x0 < 128) = false := decide_eq_false (by omega)
  have hmod : Hid (x0 % 8 = x0 - 240) := by show x0 % 8 = x0 - 240; omega
  go_enter Try.func21, Try.ntmps21
  go_wp2_with (go_at_call 20; refine (lead_any x0 _ hb0.1 hb0.2).mono ?_; rintro e w' ⟨rfl, rfl⟩; rw [hll.out])
  go_loop [4, 5] (fun v j => ∃ (k : Nat) (u : Int), 1 ≤ k ∧ k ≤ 4 ∧ 0 ≤ u ∧ u < 2097152 ∧ ((k ≤ 1 → u < 8) ∧ (k ≤ 2 → u < 8 * 64) ∧ (k ≤ 3 → u < 8 * 4096)) ∧ v = .int .u32 u ∧ j = .int .i64 k ∧ (∀ i, 1 ≤ i → i < k → cont (zs.getD i 0) = true) ∧ u = val (x0 - 240) ((zs.take k).drop 1))
    (fun _ j => 4 - (intOf j).toNat)
  case atStart => exact ⟨1, x0 % 8, by omega, by omega, by omega, by omega, ⟨by omega, by omega, by omega⟩, rfl, rfl, fun i q1 q2 => by omega, by rw [hmod.out]; exact (val_take1 _ _).symm⟩
  case round =>
    obtain ⟨k, u, hk1, hk2, hu1, hu2, hub, rfl, rfl, hco, hval⟩ := hrel
    have HU : Hid ((k ≤ 1 → u < 8) ∧ (k ≤ 2 → u < 8 * 64) ∧ (k ≤ 3 → u < 8 * 4096)) := hub
    have HCo : Hid (∀ i, 1 ≤ i → i < k → cont (zs.getD i 0) = true) := hco
    have HV : Hid (u = val (x0 - 240) ((zs.take k).drop 1)) := hval
    clear hco hval hub
    by_cases hk : k < 4
    · have hcell : w.cell? ⟨b, off + k, none⟩ = some (.int .u8 (zs.getD k 0)) := HC.out k (by rw [HL.out]; exact hk)
      have hyb := HB.out.getD k
      have hst := val_step (zs := zs) (k := k) (x0 - 240) hk1 (by rw [HL.out]; exact hk)
      have hnn := HN1.out k hk1 hk
      obtain ⟨y, hy⟩ : ∃ y, y = zs.getD k 0 := ⟨_, rfl⟩
      have HY : Hid (y = zs.getD k 0) := hy
      rw [← hy] at hcell hyb hst hnn
      rw [← HV.out] at hst
      have HS : Hid (val (x0 - 240) ((zs.take (k + 1)).drop 1) = u * 64 + (y - 128)) := hst
      clear hy hst
      have ha := and192 y hyb.1 hyb.2
      cases hcy : cont y
      · have HF : Hid (CS zs = false) := hnn hcy
        rw [hcy] at ha
        have ha' : (bits .and .u8 y 192 != 128) = true := ha
        clear ha hnn hcy
        go_wp2
        go_ret
        exact ⟨ret_bool HF.out.symm, rfl⟩
      · have hy2 := (cont_iff y).1 hcy
        have HCY : Hid (cont y = true) := hcy
        rw [hcy] at ha
        have ha' : (bits .and .u8 y 192 != 128) = false := ha
        have hor : Hid (bits .or .u32 (u * 64) (y % 64) = u * 64 + (y - 128)) := by
          show bits .or .u32 (u * 64) (y % 64) = u * 64 + (y - 128)
          rw [or_u32 6 (u * 64) (y % 64) (by omega) (by omega) (by omega) (by omega) (by omega) (by omega)]
          omega
        clear ha hnn hcy
        go_wp2
        go_round
        case rel =>
          rw [hor.out]
          have hq := HU.out
          exact ⟨k + 1, u * 64 + (y - 128), by omega, by omega, by omega, by omega, ⟨by omega, by omega, by omega⟩, rfl, by go_num, fun i q1 q2 => by
            by_cases e : i = k
            · subst e; rw [← HY.out]; exact HCY.out
            · exact HCo.out i q1 (by omega), HS.out.symm⟩
        case measure => simp [intOf]; omega
    · have hkk : k = 4 := by omega
      have HF : Hid (CS zs = okI 4 (u * 1) (u * 1 + 1 - 1)) := by
        have h := HY1.out (fun i q1 q2 => HCo.out i q1 (by omega))
        have hv := HV.out
        rw [List.take_of_length_le (by rw [HL.out]; omega)] at hv
        rw [← hv] at h
        exact h
      have hq := HU.out
      have hub : u < 2097152 := by omega
      have hor : bits .or .u32 (u * 1) (1 - 1) = u * 1 + (1 - 1) := or_u32 0 (u * 1) (1 - 1) (by omega) (by omega) (by omega) (by omega) (by omega) (by omega)
      rw [show ((1 : Int) - 1) = 0 from rfl, Int.mul_one, Int.add_zero] at hor
      clear hq hkk HU
      go_wp2
      all_goals
        go_ret
        exact ⟨ret_bool (by rw [HF.out]; unfold okI least; simp; omega), rfl⟩


set_option maxHeartbeats 1000000 in
/-- ASCII first: not with more bytes behind it -/
theorem can_low (b off cap : Nat) (zs : List Int) (w : World) (hL : 2 ≤ zs.length) (hm : zs.length ≤ 4) (hc : At w b off zs) (hl : zs.getD 0 0 < 128) :
    Calls Try.prog 21 #[.slice (some ⟨b, off, none⟩) zs.length cap] w fun e w' => e = .returned (.bool (CS zs)) ∧ w = w' := by
  have hc0 : w.cell? ⟨b, off, none⟩ = some (.int .u8 (zs.getD 0 0)) := hc 0 (by omega)
  have hcs : CS zs = false := by rw [cs_low (by omega) hl]; exact decide_eq_false (by omega)
  have H : Hid (CS zs = false) := hcs
  generalize zs.getD 0 0 = x0 at *
  generalize zs.length = n at *
  clear hcs hc
  have h1 : ((n : Int) == 1) = false := beq_eq_false_iff_ne.2 (by omega)
  have h0 : ((n : Int) == 0) = false := beq_eq_false_iff_ne.2 (by omega)
  go_enter Try.func21, Try.ntmps21
  go_wp2
  go_ret
  exact ⟨ret_bool H.out.symm, rfl⟩

set_option maxHeartbeats 1000000 in
/-- no lead byte, or more bytes than it announces -/
theorem can_none (b off cap : Nat) (zs : List Int) (w : World) (hL : 2 ≤ zs.length) (hm : zs.length ≤ 4) (hby : Bytes zs) (hc : At w b off zs) (hl : 128 ≤ zs.getD 0 0) (hn : LL (zs.getD 0 0) = 0 ∨ LL (zs.getD 0 0) < zs.length) :
    Calls Try.prog 21 #[.slice (some ⟨b, off, none⟩) zs.length cap] w fun e w' => e = .returned (.bool (CS zs)) ∧ w = w' := by
  have hc0 : w.cell? ⟨b, off, none⟩ = some (.int .u8 (zs.getD 0 0)) := hc 0 (by omega)
  have hb0 := hby.getD 0
  have hcs : CS zs = false := cs_none hl hn
  have H : Hid (CS zs = false) := hcs
  generalize zs.getD 0 0 = x0 at *
  generalize zs.length = n at *
  clear hcs hc hby
  have h0 : ((n : Int) == 0) = false := beq_eq_false_iff_ne.2 (by omega)
  have h128 : decide (x0 < 128) = false := decide_eq_false (by omega)
  obtain ⟨l, hll⟩ : ∃ l, LL x0 = l := ⟨_, rfl⟩
  have HL : Hid (LL x0 = l) := hll
  rw [hll] at hn
  clear hll
  by_cases hz : l = 0
  · subst hz
    go_enter Try.func21, Try.ntmps21
    go_wp2_with (go_at_call 20; refine (lead_any x0 _ hb0.1 hb0.2).mono ?_; rintro e w' ⟨rfl, rfl⟩; rw [HL.out])
    go_ret
    exact ⟨ret_bool H.out.symm, rfl⟩
  · have hz' : ((l : Int) == 0) = false := beq_eq_false_iff_ne.2 (by omega)
    have hlt : l < n := by omega
    clear hn hz
    go_enter Try.func21, Try.ntmps21
    go_wp2_with (go_at_call 20; refine (lead_any x0 _ hb0.1 hb0.2).mono ?_; rintro e w' ⟨rfl, rfl⟩; rw [HL.out])
    go_ret
    exact ⟨ret_bool H.out.symm, rfl⟩

theorem can_any (b off cap : Nat) (zs : List Int) (w : World) (hL : 2 ≤ zs.length) (hm : zs.length ≤ 4) (hby : Bytes zs) (hc : At w b off zs) :
    Calls Try.prog 21 #[.slice (some ⟨b, off, none⟩) zs.length cap] w fun e w' => e = .returned (.bool (CS zs)) ∧ w = w' := by
  have hb0 := hby.getD 0
  by_cases hl : zs.getD 0 0 < 128
  · exact can_low b off cap zs w hL hm hc hl
  by_cases hn : LL (zs.getD 0 0) = 0 ∨ LL (zs.getD 0 0) < zs.length
  · exact can_none b off cap zs w hL hm hby hc (by omega) hn
  rcases (show zs.getD 0 0 < 192 ∨ (192 ≤ zs.getD 0 0 ∧ zs.getD 0 0 ≤ 223) ∨ (224 ≤ zs.getD 0 0 ∧ zs.getD 0 0 ≤ 239) ∨ (240 ≤ zs.getD 0 0 ∧ zs.getD 0 0 ≤ 247) ∨ 247 < zs.getD 0 0 by omega) with h2 | ⟨h2, h3⟩ | ⟨h2, h3⟩ | ⟨h2, h3⟩ | h2
  · exact absurd (Or.inl (ll0 (Or.inl h2))) hn
  · have := (ll2 h2 h3).1
    have hlen : zs.length = 2 := by omega
    rw [hlen]
    exact can_2_2 b off cap zs w hlen hby hc h2 h3
  · have := (ll3 h2 h3).1
    rcases (show zs.length = 2 ∨ zs.length = 3 by omega) with hlen | hlen
    · rw [hlen]; exact can_3_2 b off cap zs w hlen hby hc h2 h3
    · rw [hlen]; exact can_3_3 b off cap zs w hlen hby hc h2 h3
  · have := (ll4 h2 h3).1
    rcases (show zs.length = 2 ∨ zs.length = 3 ∨ zs.length = 4 by omega) with hlen | hlen | hlen
    · rw [hlen]; exact can_4_2 b off cap zs w hlen hby hc h2 h3
    · rw [hlen]; exact can_4_3 b off cap zs w hlen hby hc h2 h3
    · rw [hlen]; exact can_4_4 b off cap zs w hlen hby hc h2 h3
  · exact absurd (Or.inl (ll0 (Or.inr h2))) hn

end Go.Proofs.Qxb6000849a
