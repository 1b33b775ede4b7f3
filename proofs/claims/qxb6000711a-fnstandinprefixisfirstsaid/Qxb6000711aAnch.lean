/-
  Seat b6000711a: anchoredWith (10).
-/
import Derived.Test.Qxb6000711aBase2
import Derived.Deep.QuietTactic
import Derived.BigQuiet
import Derived.Deep.Draws
namespace Go.Proofs.Qxb6000711a
open Go.RowKit

/-- the text has an ampersand or a star at i, and p right behind it -/
def AnchAt (zs : List Int) (n : Nat) (p : ByteArray) (i : Nat) : Prop :=
  (zs.getD i 0 = 38 ∨ zs.getD i 0 = 42) ∧ i + 1 + p.size ≤ n ∧ ∀ k (h : k < p.size), zs.getD (i + 1 + k) 0 = (p[k].toNat : Int)
def Anch (zs : List Int) (n : Nat) (p : ByteArray) : Prop := ∃ i, i < n ∧ AnchAt zs n p i

set_option maxHeartbeats 2000000 in
set_option maxRecDepth 100000 in
theorem anchored_any (g n : Nat) (zs : List Int) (p : ByteArray) (w : World) (hn : n ≤ 1048576) (hp : p.size ≤ 1048576) (ht : Txt w g n zs) :
    Calls Try.prog 10 #[.slice (some ⟨g, 0, none⟩) n n, .string p] w fun e w' => ∃ b, e = .returned (.bool b) ∧ (b = true ↔ Anch zs n p) ∧ ∃ m, w' = w.drewN m := by
  go_enter Try.func10, Try.ntmps10
  go_wp2
  go_loopw [5] (fun i wr => ∃ k : Nat, k ≤ n ∧ i = .int .i64 k ∧ (∀ j, j < k → ¬ AnchAt zs n p j) ∧ ∃ m, wr = w.drewN m)
    (fun i _ => n - (intOf i).toNat)
  case atStart => exact ⟨0, Nat.zero_le _, rfl, fun j hj => absurd hj (Nat.not_lt_zero _), 0, rfl⟩
  case round =>
    obtain ⟨i, hi, rfl, hno, m, rfl⟩ := hrel
    have HN : Hid (∀ j, j < i → ¬ AnchAt zs n p j) := hno
    clear hno
    by_cases hlt : i < n
    · have hc : w.cell? ⟨g, i, none⟩ = some (.int .u8 (zs.getD i 0)) := World.rowIs.cell ht hlt
      obtain ⟨x, hx⟩ : ∃ x, x = zs.getD i 0 := ⟨_, rfl⟩
      rw [← hx] at hc
      have HX : Hid (x = zs.getD i 0) := hx
      clear hx
      by_cases ha : x = 38 ∨ x = 42
      · by_cases hl : i + 1 + p.size ≤ n
        · have hl' : ¬ ((n : Int) - (i : Int) - 1 < (p.size : Int)) := by omega
          rcases ha with rfl | rfl
          all_goals
            go_wp2
            go_loopw [6, 7] (fun b q wr => ∃ k : Nat, k ≤ p.size ∧ b = .bool true ∧ q = .int .i64 k ∧ (∀ j (h : j < p.size), j < k → zs.getD (i + 1 + j) 0 = (p[j].toNat : Int)) ∧ ∃ m, wr = w.drewN m)
              (fun _ q _ => p.size - (intOf q).toNat)
            case atStart => exact ⟨0, Nat.zero_le _, rfl, rfl, fun j h hj => absurd hj (Nat.not_lt_zero _), m, rfl⟩
            case round =>
              obtain ⟨k, hk, rfl, rfl, hyes, m1, rfl⟩ := hrel
              have HY : Hid (∀ j (h : j < p.size), j < k → zs.getD (i + 1 + j) 0 = (p[j].toNat : Int)) := hyes
              clear hyes
              by_cases hkl : k < p.size
              · have hc2 : w.cell? ⟨g, i + 1 + k, none⟩ = some (.int .u8 (zs.getD (i + 1 + k) 0)) := World.rowIs.cell ht (by omega)
                obtain ⟨y, hy⟩ : ∃ y, y = zs.getD (i + 1 + k) 0 := ⟨_, rfl⟩
                rw [← hy] at hc2
                have HYY : Hid (y = zs.getD (i + 1 + k) 0) := hy
                clear hy
                have b1 : (i : Int) + 1 + (k : Int) < (n : Int) := by omega
                have b2 : 0 ≤ (i : Int) + 1 + (k : Int) := by omega
                have b3 : ((i : Int) + 1 + (k : Int)).toNat = i + 1 + k := by omega
                have b4 : IntKind.i64.wrap ((i : Int) + 1) = (i : Int) + 1 := by rw [IntKind.wrap_i64]; omega
                have b5 : IntKind.i64.wrap ((i : Int) + 1 + (k : Int)) = (i : Int) + 1 + (k : Int) := by rw [IntKind.wrap_i64]; omega
                have b6 : (k : Int) < (p.size : Int) := by omega
                by_cases he : y = (p[k].toNat : Int)
                · have HE : Hid (y = (p[k].toNat : Int)) := he
                  have e3 : (y != (p[k].toNat : Int)) = false := by simpa using he
                  clear he
                  go_wp2
                  go_quiet (fail)
                  go_wp2
                  go_roundw
                  case rel => exact ⟨k + 1, by omega, rfl, by go_num, fun j h hj => by
                    by_cases e : j = k
                    · subst e; rw [← HYY.out]; exact HE.out
                    · exact HY.out j h (by omega), _, rfl⟩
                  case measure => simp [intOf]; omega
                · have HE : Hid (¬ y = (p[k].toNat : Int)) := he
                  have e3 : (y != (p[k].toNat : Int)) = true := by simpa using he
                  clear he
                  go_wp2
                  go_quiet (fail)
                  go_wp2
                  go_roundw
                  case rel => exact ⟨i + 1, by omega, by go_num, fun j hj => by
                    by_cases e : j = i
                    · subst e; exact fun h => HE.out (by rw [HYY.out]; exact h.2.2 k hkl)
                    · exact HN.out j (by omega), _, rfl⟩
                  case measure => simp [intOf]; omega
              · have hkk : k = p.size := by omega
                subst hkk
                go_wp2
                go_ret
                exact ⟨true, rfl, ⟨fun _ => ⟨i, hlt, by rw [← HX.out]; first | exact Or.inl rfl | exact Or.inr rfl, hl, fun j h => HY.out j h h⟩, fun _ => rfl⟩, _, rfl⟩
        · have hl' : ((n : Int) - (i : Int) - 1 < (p.size : Int)) := by omega
          rcases ha with rfl | rfl
          all_goals
            go_wp2
            go_roundw
            case rel => exact ⟨i + 1, by omega, by go_num, fun j hj => by
              by_cases e : j = i
              · subst e; exact fun h => hl h.2.1
              · exact HN.out j (by omega), m, rfl⟩
            case measure => simp [intOf]; omega
      · have e1 : (x != 38) = true := by simp; omega
        have e2 : (x != 42) = true := by simp; omega
        go_wp2
        go_roundw
        case rel => exact ⟨i + 1, by omega, by go_num, fun j hj => by
          by_cases e : j = i
          · subst e; exact fun h => ha (by rw [HX.out]; exact h.1)
          · exact HN.out j (by omega), m, rfl⟩
        case measure => simp [intOf]; omega
    · have : i = n := by omega
      subst this
      go_wp2
      go_ret
      exact ⟨false, rfl, ⟨(fun h => by cases h), fun ⟨j, hj, h⟩ => absurd h (HN.out j hj)⟩, m, rfl⟩

/-- a text of no bytes (nil or not) -/
theorem anchored_none (ao : Option Addr) (c : Nat) (p : ByteArray) (w : World) :
    Calls Try.prog 10 #[.slice ao 0 c, .string p] w fun e w' => e = .returned (.bool false) ∧ w' = w := by
  go_enter Try.func10, Try.ntmps10
  go_wp2
  refine wp_loop_rounds 1 ?_
  rw [rounds_succ]
  go_wp2
  go_ret
  exact ⟨rfl, rfl⟩

theorem anchored_yes (g n : Nat) (zs : List Int) (p : ByteArray) (w : World) (hn : n ≤ 1048576) (hp : p.size ≤ 1048576) (ht : Txt w g n zs) (h : Anch zs n p) :
    Calls Try.prog 10 #[.slice (some ⟨g, 0, none⟩) n n, .string p] w fun e w' => e = .returned (.bool true) ∧ ∃ m, w' = w.drewN m :=
  (anchored_any g n zs p w hn hp ht).mono fun _ _ ⟨b, he, hb, hm⟩ => ⟨by rw [he, hb.2 h], hm⟩

theorem anchored_no (g n : Nat) (zs : List Int) (p : ByteArray) (w : World) (hn : n ≤ 1048576) (hp : p.size ≤ 1048576) (ht : Txt w g n zs) (h : ¬ Anch zs n p) :
    Calls Try.prog 10 #[.slice (some ⟨g, 0, none⟩) n n, .string p] w fun e w' => e = .returned (.bool false) ∧ ∃ m, w' = w.drewN m :=
  (anchored_any g n zs p w hn hp ht).mono fun _ _ ⟨b, he, hb, hm⟩ => ⟨by
    have : b = false := by
      cases hbb : b
      · rfl
      · exact absurd (hb.1 hbb) h
    rw [he, this], hm⟩

end Go.Proofs.Qxb6000711a
