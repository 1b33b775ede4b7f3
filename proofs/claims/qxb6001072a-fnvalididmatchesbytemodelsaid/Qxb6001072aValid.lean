/-
  Seat b6001072a: validID (11): a range over a string, rune by rune; its alias (7); THE LAW's WALK (3).
-/
import Derived.Test.Qxb6001072aWalks
namespace Go.Proofs.Qxb6001072a
open Go.RowKit

theorem empty_iff (s : ByteArray) : s.toList.isEmpty = decide (s.size = 0) := by
  rw [ByteArray.toList_eq, Bool.eq_iff_iff, List.isEmpty_iff, decide_eq_true_iff]
  constructor
  · intro h
    have := congrArg List.length h
    simpa using this
  · intro h
    exact List.eq_nil_of_length_eq_zero (by simpa using h)

set_option maxHeartbeats 2000000 in
set_option maxRecDepth 100000 in
theorem valid_any (s : ByteArray) (w : World) (hn : s.size ≤ 1048576) :
    Calls Try.prog 11 #[.string s] w fun e w' => e = .returned (.bool (goodB s)) ∧ ∃ pos, w' = w.iter s pos := by
  go_enter Try.func11, Try.ntmps11
  go_wp2
  go_loopw [3] (fun _ wr => ∃ pos : Nat, pos ≤ s.size ∧ wr = w.iter s pos ∧ ∀ j (h : j < s.size), j < pos → Ok j s[j].toNat) (fun _ wr => s.size - wr.iterPos w.heap.size)
  case atStart => exact ⟨0, Nat.zero_le _, rfl, fun j h hj => by omega⟩
  case round =>
    obtain ⟨k, hk, rfl, hok⟩ := hrel
    have HO : Hid (∀ j (h : j < s.size), j < k → Ok j s[j].toNat) := hok
    clear hok
    by_cases hlt : k < s.size
    · by_cases ha : s[k].toNat < 128
      · have hnx : ∀ ty, (Instr.next (.pointer (some ⟨w.heap.size, 0, none⟩)) true ty).run Try.prog (w.iter s k) = _ := fun ty => run_next_ascii w s k ty hlt ha
        by_cases c1 : 97 ≤ s[k].toNat ∧ s[k].toNat ≤ 122
        · have HK : Hid (Ok k s[k].toNat) := Or.inl c1
          obtain ⟨c1, c2⟩ := c1
          go_wp2
          go_roundw
          case rel => exact ⟨k + 1, by omega, rfl, fun j h hj => by
            by_cases e : j = k
            · subst e; exact HK.out
            · exact HO.out j h (by omega)⟩
          case measure => simp; omega
        by_cases c2 : 48 ≤ s[k].toNat ∧ s[k].toNat ≤ 57
        · have HK : Hid (Ok k s[k].toNat) := Or.inr (Or.inl c2)
          obtain ⟨c2, c3⟩ := c2
          clear c1
          go_wp2
          go_roundw
          case rel => exact ⟨k + 1, by omega, rfl, fun j h hj => by
            by_cases e : j = k
            · subst e; exact HK.out
            · exact HO.out j h (by omega)⟩
          case measure => simp; omega
        by_cases c3 : s[k].toNat = 45
        · have c3' : ((s[k].toNat : Int) == 45) = true := beq_iff_eq.2 (by omega)
          have c4 : s[k].toNat < 48 := by omega
          by_cases hk0 : 0 < k
          · have HK : Hid (Ok k s[k].toNat) := Or.inr (Or.inr ⟨c3, hk0⟩)
            clear c1 c2 c3
            go_wp2
            go_roundw
            case rel => exact ⟨k + 1, by omega, rfl, fun j h hj => by
              by_cases e : j = k
              · subst e; exact HK.out
              · exact HO.out j h (by omega)⟩
            case measure => simp; omega
          · have HK : Hid (¬ Good s) := fun h => by
              have := h.2 k hlt
              unfold Ok at this
              omega
            have hk1 : k = 0 := by omega
            subst hk1
            clear c1 c2 c3
            go_wp2
            go_ret
            exact ⟨ret_bool (goodB_no HK.out), _, rfl⟩
        have HK : Hid (¬ Good s) := fun h => by
          have := h.2 k hlt
          unfold Ok at this
          omega
        have c3' : ((s[k].toNat : Int) == 45) = false := beq_eq_false_iff_ne.2 (by omega)
        rcases (show s[k].toNat < 48 ∨ (57 < s[k].toNat ∧ s[k].toNat < 97) ∨ 122 < s[k].toNat by omega) with c4 | ⟨c4, c5⟩ | c4
        · clear c1 c2 c3
          go_wp2
          go_ret
          exact ⟨ret_bool (goodB_no HK.out), _, rfl⟩
        · have d57 : decide ((s[k].toNat : Int) ≤ 57) = false := decide_eq_false (by omega)
          clear c1 c2 c3
          go_wp2
          go_ret
          exact ⟨ret_bool (goodB_no HK.out), _, rfl⟩
        · have d57 : decide ((s[k].toNat : Int) ≤ 57) = false := decide_eq_false (by omega)
          have d122 : decide ((s[k].toNat : Int) ≤ 122) = false := decide_eq_false (by omega)
          clear c1 c2 c3
          go_wp2
          go_ret
          exact ⟨ret_bool (goodB_no HK.out), _, rfl⟩
      · have hnx : ∀ ty, (Instr.next (.pointer (some ⟨w.heap.size, 0, none⟩)) true ty).run Try.prog (w.iter s k) = _ := fun ty => run_next_any w s k ty hlt
        have hdh := (decode_high s k hlt (by omega)).1
        have HK : Hid (¬ Good s) := fun h => by
          have := h.2 k hlt
          unfold Ok at this
          omega
        generalize (Utf8.decode s k).1 = r at *
        generalize k + (Utf8.decode s k).2 = q at *
        have d57 : decide ((r : Int) ≤ 57) = false := decide_eq_false (by omega)
        have d122 : decide ((r : Int) ≤ 122) = false := decide_eq_false (by omega)
        have c45 : ((r : Int) == 45) = false := beq_eq_false_iff_ne.2 (by omega)
        go_wp2
        go_ret
        exact ⟨ret_bool (goodB_no HK.out), _, rfl⟩
    · have hnx : ∀ ty, (Instr.next (.pointer (some ⟨w.heap.size, 0, none⟩)) true ty).run Try.prog (w.iter s k) = _ := fun ty => run_next_end w s k ty hlt
      by_cases h0 : 0 < s.size
      · have HG : Hid (Good s) := ⟨h0, fun i h => HO.out i h (by omega)⟩
        have he : s.toList.isEmpty = false := (empty_iff s).trans (decide_eq_false (by omega))
        go_wp2
        go_ret
        exact ⟨ret_bool (goodB_yes HG.out), _, rfl⟩
      · have HG : Hid (¬ Good s) := fun h => h0 h.1
        have he : s.toList.isEmpty = true := (empty_iff s).trans (decide_eq_true (by omega))
        go_wp2
        go_ret
        exact ⟨ret_bool (goodB_no HG.out), _, rfl⟩

theorem zz_any (s : ByteArray) (w : World) (hn : s.size ≤ 1048576) :
    Calls Try.prog 7 #[.string s] w fun e w' => e = .returned (.bool (goodB s)) ∧ ∃ pos, w' = w.iter s pos := by
  go_enter Try.func7, Try.ntmps7
  go_wp2_with fail
  refine (valid_any s w hn).mono ?_
  rintro e w' ⟨rfl, pos, rfl⟩
  go_wp2_with fail
  go_ret
  exact ⟨rfl, pos, rfl⟩

theorem grown_iter (w : World) (s : ByteArray) (pos : Nat) : Grown w (w.iter s pos) := by
  refine ⟨World.keptBut_alloc _ _ _, fun a => ?_, by show w.heap.size ≤ (w.heap.push _).size; simp⟩
  by_cases h : a.block = w.heap.size
  · have e1 : (w.iter s pos).heap[a.block]? = some (.stringIter s pos) := by rw [h]; exact World.iter_heap w s pos
    have e2 : w.heap[a.block]? = none := by rw [h]; simp
    simp [World.frozen?, e1, e2]
  · have e1 : (w.iter s pos).heap[a.block]? = w.heap[a.block]? := by
      show (w.heap.push _)[a.block]? = _
      rw [Array.getElem?_push, if_neg h]
    simp [World.frozen?, e1]

theorem law_any (s : ByteArray) (hm : s.size ≤ maxLen) (w : World) :
    Calls Try.prog 3 #[.string s] w fun e w' => e = .returned (.bool true) ∧ Grown w w' := by
  by_cases hn : s.size ≤ 1048576
  · go_enter Try.func3, Try.ntmps3
    go_wp2_with fail
    refine (bytes_yes s w hn).mono ?_
    rintro e w' ⟨rfl, rfl⟩
    go_wp2_with fail
    refine (zz_any s w hn).mono ?_
    rintro e w' ⟨rfl, pos, rfl⟩
    go_wp2_with fail
    refine (model_any s _ hn).mono ?_
    rintro e w' ⟨rfl, rfl⟩
    go_wp2_with fail
    go_ret
    exact ⟨ret_bool (by simp), grown_iter w s pos⟩
  · have hn' : 1048576 < s.size := by omega
    unfold maxLen at hm
    go_enter Try.func3, Try.ntmps3
    go_wp2_with (go_at_call 6; refine (bytes_no s _ hn' (by unfold maxLen; omega)).mono ?_; rintro e w' ⟨rfl, rfl⟩)
    go_ret
    exact ⟨rfl, Grown.refl _⟩

end Go.Proofs.Qxb6001072a
