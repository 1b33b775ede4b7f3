/-
  Seat b6000849a: zzStartsWellFormed (9) answers Starts; zzSubpartModel (12) answers SM.
-/
import Derived.Test.Qxb6000849aCan
namespace Go.Proofs.Qxb6000849a
open Go.RowKit

theorem LL_le (b : Int) : LL b ≤ 4 := by unfold LL; split; omega; split; omega; split <;> omega
theorem LL_two {b : Int} (h : LL b ≠ 0) : 2 ≤ LL b := by
  unfold LL at h ⊢
  split at h
  · rename_i q; rw [if_pos q]; omega
  · rename_i q; rw [if_neg q]
    split at h
    · rename_i q2; rw [if_pos q2]; omega
    · rename_i q2; rw [if_neg q2]
      split at h
      · rename_i q3; rw [if_pos q3]; omega
      · exact absurd rfl h

theorem starts_low {zs : List Int} (h0 : 0 < zs.length) (h : zs.getD 0 0 < 128) : Starts zs = true := by
  match zs, h0 with
  | b :: r, _ =>
    have h' : b < 128 := by simpa using h
    simp [Starts, h']
theorem starts_none {zs : List Int} (h : 128 ≤ zs.getD 0 0) (hl : LL (zs.getD 0 0) = 0 ∨ zs.length < LL (zs.getD 0 0)) : Starts zs = false := by
  match zs with
  | [] => rfl
  | b :: r =>
    simp only [List.getD_cons_zero, List.length_cons] at h hl
    simp only [Starts]
    rw [if_neg (by omega)]
    rcases hl with hl | hl
    · rw [if_pos hl]
    · by_cases e : LL b = 0
      · rw [if_pos e]
      · rw [if_neg e, if_pos hl]
theorem starts_cs {zs : List Int} (h0 : 0 < zs.length) (h : 128 ≤ zs.getD 0 0) (h1 : LL (zs.getD 0 0) ≠ 0) (h2 : LL (zs.getD 0 0) ≤ zs.length) : Starts zs = CS (zs.take (LL (zs.getD 0 0))) := by
  match zs, h0 with
  | b :: r, _ =>
    simp only [List.getD_cons_zero, List.length_cons] at h h1 h2 ⊢
    simp only [Starts]
    rw [if_neg (by omega), if_neg h1, if_neg (by omega)]

set_option maxHeartbeats 1000000 in
theorem starts_any (b off cap : Nat) (zs : List Int) (w : World) (hn : zs.length ≤ 1048576) (hcap : zs.length ≤ cap) (hp : 0 < zs.length) (hby : Bytes zs) (hc : At w b off zs) :
    Calls Try.prog 9 #[.slice (some ⟨b, off, none⟩) zs.length cap] w fun e w' => e = .returned (.bool (Starts zs)) ∧ w = w' := by
  have hc0 : w.cell? ⟨b, off, none⟩ = some (.int .u8 (zs.getD 0 0)) := hc 0 hp
  have hb0 := hby.getD 0
  have HB : Hid (Bytes zs) := hby
  have HC : Hid (At w b off zs) := hc
  have H1 := fun h => starts_low (zs := zs) hp h
  have H2 := fun h => starts_none (zs := zs) h
  have H3 := fun h => starts_cs (zs := zs) hp h
  obtain ⟨n, hnn⟩ : ∃ n, n = zs.length := ⟨_, rfl⟩
  have HN : Hid (n = zs.length) := hnn
  obtain ⟨x0, hx0⟩ : ∃ x0, x0 = zs.getD 0 0 := ⟨_, rfl⟩
  rw [← hnn] at hn hp hcap H2 H3 ⊢
  rw [← hx0] at hc0 hb0 H1 H2 H3
  clear hnn hx0 hby hc
  have hz : ((n : Int) == 0) = false := beq_eq_false_iff_ne.2 (by omega)
  have hpi : (0 : Int) < (n : Int) := by omega
  by_cases hlow : x0 < 128
  · have H : Hid (Starts zs = true) := H1 hlow
    clear H1 H2 H3
    go_enter Try.func9, Try.ntmps9
    go_wp2
    go_ret
    exact ⟨ret_bool H.out.symm, rfl⟩
  have h128 : decide (x0 < 128) = false := decide_eq_false hlow
  have hge : 128 ≤ x0 := by omega
  have hl4 := LL_le x0
  have hl2 : LL x0 ≠ 0 → 2 ≤ LL x0 := LL_two
  obtain ⟨l, hll⟩ : ∃ l, LL x0 = l := ⟨_, rfl⟩
  have HL : Hid (LL x0 = l) := hll
  rw [hll] at H2 H3 hl4 hl2
  clear hll hlow H1
  by_cases hz0 : l = 0
  · have H : Hid (Starts zs = false) := H2 hge (Or.inl hz0)
    subst hz0
    clear H2 H3 hl2
    go_enter Try.func9, Try.ntmps9
    go_wp2_with (go_at_call 20; refine (lead_any x0 _ hb0.1 hb0.2).mono ?_; rintro e w' ⟨rfl, rfl⟩; rw [HL.out])
    go_ret
    exact ⟨ret_bool H.out.symm, rfl⟩
  have hl2' := hl2 hz0
  have hz' : ((l : Int) == 0) = false := beq_eq_false_iff_ne.2 (by omega)
  by_cases hlt : n < l
  · have H : Hid (Starts zs = false) := H2 hge (Or.inr hlt)
    clear H2 H3 hl2 hz0
    go_enter Try.func9, Try.ntmps9
    go_wp2_with (go_at_call 20; refine (lead_any x0 _ hb0.1 hb0.2).mono ?_; rintro e w' ⟨rfl, rfl⟩; rw [HL.out])
    go_ret
    exact ⟨ret_bool H.out.symm, rfl⟩
  have H : Hid (Starts zs = CS (zs.take l)) := H3 hge hz0 (by omega)
  clear H2 H3 hl2 hz0
  have hlen : (zs.take l).length = l := by rw [List.length_take, ← HN.out]; omega
  have hcan := fun cap => can_any b off cap (zs.take l) w (by omega) (by omega) (HB.out.take l) (HC.out.take l)
  rw [hlen] at hcan
  have HCan := hcan
  clear hcan hlen
  have HCan2 : Hid (∀ cap, Calls Try.prog 21 #[.slice (some ⟨b, off, none⟩) l cap] w fun e w' => e = .returned (.bool (CS (zs.take l))) ∧ w = w') := HCan
  clear HCan
  go_enter Try.func9, Try.ntmps9
  go_wp2_with (first | (go_at_call 20; refine (lead_any x0 _ hb0.1 hb0.2).mono ?_; rintro e w' ⟨rfl, rfl⟩; rw [HL.out]) | (go_at_call 21; refine (HCan2.out _).mono ?_; rintro e w' ⟨rfl, rfl⟩))
  go_ret
  exact ⟨ret_bool H.out.symm, rfl⟩

end Go.Proofs.Qxb6000849a
