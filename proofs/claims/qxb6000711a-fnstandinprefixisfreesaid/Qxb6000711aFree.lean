/-
  Seat b6000711a: FnStandInPrefixIsFree (3): THE WALK.
-/
import Derived.Test.Qxb6000711aStand2
namespace Go.Proofs.Qxb6000711a
open Go.RowKit Go.Maps

theorem flip {P : Program} {f : Nat} {args : Array Value} {w : World} {r : Ending} (h : Calls P f args w fun e w' => e = r ∧ w' = w) : Calls P f args w fun e w' => e = r ∧ w = w' :=
  h.mono fun _ _ h => ⟨h.1, h.2.symm⟩

theorem below_dn {B : Nat} {a w : World} (h : Below B a w) (m : Nat) : Below B a (w.drewN m) := ⟨h.os, h.tape, h.output, h.size, h.block⟩

theorem free_long (ao : Option Addr) (n c : Nat) (w : World) (hn : 65536 < n) (hm : n ≤ maxLen) :
    Calls Try.prog 3 #[.slice ao n c] w fun e w' => e = .returned (.bool true) ∧ Below w.heap.size w w' := by
  unfold maxLen at hm
  by_cases h : n ≤ 1048576
  · go_enter Try.func3, Try.ntmps3
    go_wp2_with (go_at_call 6; refine (bytes_free _ _ _ _ h).mono ?_; rintro e w' ⟨rfl, rfl⟩)
    go_ret
    exact ⟨rfl, Below.refl _ _⟩
  · go_enter Try.func3, Try.ntmps3
    go_wp2_with (go_at_call 6; refine (bytes_free_no _ _ _ _ (by omega)).mono ?_; rintro e w' ⟨rfl, rfl⟩)
    go_ret
    exact ⟨rfl, Below.refl _ _⟩

theorem stand_95 (w : World) : Calls Try.prog 9 #[.int .u8 95] w fun e w' => e = .returned (.bool true) ∧ w' = w :=
  (stand_any 95 w).mono fun _ _ ⟨h1, h2⟩ => ⟨by rw [h1]; rfl, h2⟩

theorem free_nil (w : World) :
    Calls Try.prog 3 #[.slice none 0 0] w fun e w' => e = .returned (.bool true) ∧ Below w.heap.size w w' := by
  go_enter Try.func3, Try.ntmps3
  go_wp2_with fail
  refine (bytes_free _ _ _ _ (by omega)).mono ?_
  rintro e w' ⟨rfl, rfl⟩
  go_wp2_with fail
  refine (clone_nil _).mono ?_
  rintro e w' ⟨rfl, rfl⟩
  go_wp2_with fail
  refine (zz_empty _ _ _).mono ?_
  rintro e w1 ⟨rfl, hb⟩
  go_wp2_with fail
  refine wp_loop_rounds 2 ?_
  rw [rounds_succ]
  go_wp2_with (go_at_call 9; refine (stand_95 _).mono ?_; rintro e w' ⟨rfl, rfl⟩)
  rw [rounds_succ]
  go_wp2_with (go_at_call 10; refine (anchored_none _ _ _ _).mono ?_; rintro e w' ⟨rfl, rfl⟩)
  refine wp_loop_rounds 1 ?_
  rw [rounds_succ]
  go_wp2
  go_ret
  exact ⟨rfl, hb⟩

/-- of a text without a mark nothing is taken: the answer is the first name of all -/
theorem good_plain {zs : List Int} {s j : Nat} (h : Good zs s j) (hno : ∀ i, i < zs.length → ampB (zs.getD i 0) = false) : s = 1 ∧ j = 0 := by
  obtain ⟨h1, h2, h3, h4, h5, h6⟩ := h
  have hnt : ∀ s x, ¬ Taken zs s x := by
    rintro s x ⟨r, hr, _⟩
    obtain ⟨i, hi, ha, _⟩ := (mem_runsTo zs r _).1 hr
    rw [hno i hi] at ha
    cases ha
  constructor
  · by_cases e : 1 < s
    · exact absurd (h6 e 0 (Nat.pow_pos (by omega))) (hnt _ _)
    · omega
  · by_cases e : 0 < j
    · exact absurd (h5 0 e) (hnt _ _)
    · omega

theorem name_str_stand (s j k : Nat) (h : k < (strOfNums (name s j)).size) : standB ((strOfNums (name s j))[k].toNat : Int) = true := by
  rw [str_at _ (name_bytes s j) k h]
  have hk : k < (name s j).length := by rwa [strOfNums_size] at h
  have hm : (name s j).getD k 0 ∈ name s j := by
    rw [List.getD_eq_getElem?_getD, List.getElem?_eq_getElem hk]
    exact List.getElem_mem _
  have := name_mem s j _ hm
  unfold standB
  exact decide_eq_true this

theorem stand_yes (c : Int) (w : World) (h : standB c = true) : Calls Try.prog 9 #[.int .u8 c] w fun e w' => e = .returned (.bool true) ∧ w = w' :=
  (stand_any c w).mono fun _ _ ⟨h1, h2⟩ => ⟨by rw [h1, h], h2.symm⟩

set_option maxHeartbeats 2000000 in
set_option maxRecDepth 100000 in
theorem free_some (x : Addr) (len cap : Nat) (zs0 : List Int) (w : World) (hn : len ≤ 65536) (hz : len ≤ zs0.length) (hby : ∀ c ∈ zs0, 0 ≤ c ∧ c ≤ 255)
    (hc : ∀ i, i < zs0.length → w.cell? (x.add i) = some (.int .u8 (zs0.getD i 0))) :
    Calls Try.prog 3 #[.slice (some x) len cap] w fun e w' => e = .returned (.bool true) ∧ Below w.heap.size w w' := by
  have H1 : Hid (∀ i, i < zs0.length → w.cell? (x.add i) = some (.int .u8 (zs0.getD i 0))) := hc
  obtain ⟨zs, hzs⟩ : ∃ zs, zs = zs0.take len := ⟨_, rfl⟩
  have HZ : Hid (zs = zs0.take len) := hzs
  have HLn : Hid (zs.length = len) := by show zs.length = len; rw [hzs]; simp; omega
  have HB : Hid (∀ c ∈ zs, 0 ≤ c ∧ c ≤ 255) := fun c hc => hby c (by rw [hzs] at hc; exact List.mem_of_mem_take hc)
  clear hc hby hzs
  have hd : decide ((65536 : Int) < (len : Int)) = false := decide_eq_false (by omega)
  go_enter Try.func3, Try.ntmps3
  go_wp2_with fail
  refine (flip (bytes_free _ _ _ _ (by omega))).mono ?_
  rintro e w' ⟨rfl, rfl⟩
  go_wp2_with fail
  refine (clone_some x len cap zs0 _ (by omega) hz H1.out).mono ?_
  rintro e w1 ⟨rfl, ht, hb1⟩
  rw [← HZ.out] at ht
  clear H1 HZ
  have hg1 : w.heap.size < w1.heap.size := World.rowIs.lt ht
  go_wp2_with fail
  refine (zz_any w.heap.size len zs w1 HLn.out hn HB.out hg1 ht).mono ?_
  rintro e w2 ⟨s, j, rfl, hgood, hb2⟩
  have ht2 : Txt w2 w.heap.size len zs := ht.mono hb2 hg1
  have hb12 : Below w.heap.size w w2 := hb1.trans (hb2.mono hb1.size)
  have HG : Hid (Good zs s j) := hgood
  have hs1 := hgood.1
  have hs4 := hgood.2.1
  have hps : (strOfNums (name s j)).size = s := by rw [strOfNums_size, name_length]
  have HN : Hid (¬ Anch zs len (strOfNums (name s j))) := fun h => hgood.2.2.2.1 ((taken_iff zs s j).2 (by rw [HLn.out]; exact h))
  have HS : Hid (∀ k (h : k < (strOfNums (name s j)).size), standB ((strOfNums (name s j))[k].toNat : Int) = true) := name_str_stand s j
  have HPl : Hid ((∀ i, i < len → ampB (zs.getD i 0) = false) → strOfNums (name s j) = ⟨#[95]⟩) := by
    intro hno
    obtain ⟨rfl, rfl⟩ := good_plain hgood (by rw [HLn.out]; exact hno)
    rfl
  clear hgood ht
  generalize hp : strOfNums (name s j) = p at *
  clear hp
  have hp1 : 1 ≤ p.size := by omega
  have hp4 : p.size ≤ 4 := by omega
  clear hps HG hs1 hs4
  have hp0 : ((p.size : Int) == 0) = false := beq_eq_false_iff_ne.2 (by omega)
  go_wp2_with fail
  go_loop [4] (fun i => ∃ k : Nat, k ≤ p.size ∧ i = .int .i64 k) (fun i => p.size - (intOf i).toNat)
  case atStart => exact ⟨0, Nat.zero_le _, rfl⟩
  case round =>
    obtain ⟨k, hk, rfl⟩ := hrel
    by_cases hlt : k < p.size
    · go_wp2_with (go_at_call 9; refine (stand_yes _ _ (HS.out k hlt)).mono ?_; rintro e w' ⟨rfl, rfl⟩)
      go_round
      case rel => exact ⟨k + 1, by omega, by go_num⟩
      case measure => simp [intOf]; omega
    · go_wp2_with fail
      refine (anchored_no _ _ _ _ _ (by omega) (by omega) ht2 HN.out).mono ?_
      rintro e w3 ⟨rfl, m, rfl⟩
      go_wp2
      go_loop [5, 6] (fun b i => ∃ k : Nat, k ≤ len ∧ b = .bool false ∧ i = .int .i64 k ∧ (∀ j, j < k → ampB (zs.getD j 0) = false)) (fun _ i => len - (intOf i).toNat)
      case atStart => exact ⟨0, Nat.zero_le _, rfl, rfl, fun j hj => by omega⟩
      case round =>
        obtain ⟨i, hi, rfl, rfl, hno⟩ := hrel
        have HO : Hid (∀ j, j < i → ampB (zs.getD j 0) = false) := hno
        clear hno
        by_cases hlt2 : i < len
        · have hcl : w2.cell? ⟨w.heap.size, i, none⟩ = some (.int .u8 (zs.getD i 0)) := World.rowIs.cell ht2 hlt2
          obtain ⟨y, hy⟩ : ∃ y, y = zs.getD i 0 := ⟨_, rfl⟩
          rw [← hy] at hcl
          have HY : Hid (y = zs.getD i 0) := hy
          clear hy
          by_cases ha : y = 38 ∨ y = 42
          · rcases ha with rfl | rfl
            all_goals
              go_wp2
              go_ret
              exact ⟨rfl, below_dn hb12 m⟩
          · have e1 : (y == 38) = false := by simp; omega
            have e2 : (y == 42) = false := by simp; omega
            have HA : Hid (ampB y = false) := by show ampB y = false; simp [ampB]; omega
            clear ha
            go_wp2
            go_round
            case rel => exact ⟨i + 1, by omega, rfl, by go_num, fun j hj => by
              by_cases e : j = i
              · subst e; rw [← HY.out]; exact HA.out
              · exact HO.out j (by omega)⟩
            case measure => simp [intOf]; omega
        · have hpe := HPl.out (fun j hj => HO.out j (by omega))
          subst hpe
          go_wp2
          go_ret
          exact ⟨rfl, below_dn hb12 m⟩

end Go.Proofs.Qxb6000711a
