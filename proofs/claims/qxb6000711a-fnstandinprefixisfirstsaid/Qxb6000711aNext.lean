/-
  Seat b6000711a: nextName (12): it lays 'inc xs' over xs.
-/
import Derived.Test.Qxb6000711aBase2
import Derived.Test.Qxb6000711aPlain
namespace Go.Proofs.Qxb6000711a
open Go.RowKit

theorem grown_setCell {w0 w : World} {g : Nat} (h : w0.grownBy w (some g)) (i : Nat) (v : Value) : w0.grownBy (w.setCell ⟨g, i, none⟩ v) (some g) :=
  ⟨h.os, h.tape, h.output, by simp [World.setCell]; exact h.size, fun k hk hne => (Below.heap_setCell _ _ _ _ (fun e => hne (by rw [e]))).trans (h.block k hk hne)⟩

set_option maxHeartbeats 1000000 in
theorem next_any (g s : Nat) (xs : List Int) (w : World) (hs : xs.length = s) (hsz : s ≤ 1048576) (hb : ∀ i, i < s → 95 ≤ xs.getD i 0 ∧ xs.getD i 0 ≤ 122) (hr : Txt w g s xs) :
    Calls Try.prog 12 #[.slice (some ⟨g, 0, none⟩) s s] w fun e w' => e = .returned (.bool (inc xs).2) ∧ Txt w' g s (inc xs).1 ∧ w.grownBy w' (some g) := by
  go_enter Try.func12, Try.ntmps12
  go_wp2
  go_loopw [3] (fun k wr => ∃ m : Nat, m ≤ s ∧ k = .int .i64 ((m : Int) - 1) ∧ wr.rowIs g 5 s (fun i => .int .u8 (if i < m then xs.getD i 0 else 95)) ∧ (∀ i, m ≤ i → i < s → xs.getD i 0 = 122) ∧ w.grownBy wr (some g))
    (fun k _ => (intOf k + 1).toNat)
  case atStart => exact ⟨s, Nat.le_refl _, rfl, hr.congr (fun i hi => by rw [if_pos hi]), fun i h1 h2 => by omega, World.grownBy.refl _ _⟩
  case round =>
    obtain ⟨m, hm, rfl, hrow, hz, hgr⟩ := hrel
    have HZ : Hid (∀ i, m ≤ i → i < s → xs.getD i 0 = 122) := hz
    clear hz
    cases m with
    | zero =>
      rw [show (((0 : Nat) : Int) - 1) = -1 from rfl]
      go_wp2
      go_ret
      obtain ⟨h1, h2⟩ := inc_all xs (fun i hi => HZ.out i (Nat.zero_le _) (by omega))
      exact ⟨ret_bool h1.symm, hrow.congr (fun i hi => by rw [if_neg (by omega), h2 i (by omega)]), hgr⟩
    | succ m =>
      rw [show (((m + 1 : Nat) : Int) - 1) = (m : Int) from by omega]
      have hcell := hrow.cell (i := m) (by omega)
      rw [if_pos (Nat.lt_succ_self m)] at hcell
      have hfz := hrow.frozen m
      have hbm := hb m (by omega)
      obtain ⟨x, hx⟩ : ∃ x, x = xs.getD m 0 := ⟨_, rfl⟩
      rw [← hx] at hcell hbm
      have HX : Hid (x = xs.getD m 0) := hx
      clear hx
      by_cases h1 : x = 122
      · subst h1
        go_wp2
        go_roundw
        case rel =>
          refine ⟨m, by omega, rfl, (hrow.set m _).congr (fun j hj => ?_), fun i h1 h2 => ?_, grown_setCell hgr _ _⟩
          · by_cases e : j = m
            · subst e; simp
            · rw [if_neg e]
              by_cases e2 : j < m
              · rw [if_pos e2, if_pos (by omega)]
              · rw [if_neg e2, if_neg (by omega)]
          · by_cases e : i = m
            · subst e; exact HX.out.symm
            · exact HZ.out i (by omega) h2
        case measure => simp [intOf]
      · have HN : Hid (¬ x = 122) := h1
        have e1 : (x == 122) = false := by simpa using h1
        clear h1
        have hfin := inc_at xs m (by omega) (by rw [← HX.out]; exact HN.out) (fun i h1 h2 => HZ.out i (by omega) (by omega))
        rw [← HX.out] at hfin
        have HF := hfin
        have HF : Hid ((inc xs).2 = true ∧ ∀ i, i < xs.length → (inc xs).1.getD i 0 = if i < m then xs.getD i 0 else if i = m then sc x else 95) := hfin
        clear hfin
        by_cases h2 : x = 95
        · have HC : Hid (sc x = 97) := by show sc x = 97; simp [sc, h2]
          subst h2
          go_wp2
          go_ret
          refine ⟨ret_bool HF.out.1.symm, (hrow.set m _).congr (fun j hj => ?_), grown_setCell hgr _ _⟩
          rw [HF.out.2 j (by omega), HC.out]
          by_cases e : j = m
          · subst e; simp
          · rw [if_neg e]
            by_cases e2 : j < m
            · rw [if_pos e2, if_pos (by omega)]
            · rw [if_neg e2, if_neg (by omega), if_neg e]
        · have e2 : (x == 95) = false := by simpa using h2
          have HC : Hid (sc x = x + 1) := by show sc x = x + 1; simp [sc, h2]
          clear h2
          have hx2 : x ≤ 121 := by have := HN.out; omega
          go_wp2
          go_ret
          refine ⟨ret_bool HF.out.1.symm, (hrow.set m _).congr (fun j hj => ?_), grown_setCell hgr _ _⟩
          rw [HF.out.2 j (by omega), HC.out]
          by_cases e : j = m
          · subst e; simp
          · rw [if_neg e]
            by_cases e2 : j < m
            · rw [if_pos e2, if_pos (by omega)]
            · rw [if_neg e2, if_neg (by omega), if_neg e]

end Go.Proofs.Qxb6000711a
