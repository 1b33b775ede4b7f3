/-
  Seat b6000711a: FnStandInPrefixIsFirst (4): THE WALK.
-/
import Derived.Test.Qxb6000711aFree
import Derived.Test.Qxb6000711aNext
import Derived.Deep.LoopGhost
namespace Go.Proofs.Qxb6000711a
open Go.RowKit Go.Maps

theorem first_long (ao : Option Addr) (n c : Nat) (w : World) (hn : 65536 < n) (hm : n ≤ maxLen) :
    Calls Try.prog 4 #[.slice ao n c] w fun e w' => e = .returned (.bool true) ∧ Below w.heap.size w w' := by
  unfold maxLen at hm
  by_cases h : n ≤ 1048576
  · go_enter Try.func4, Try.ntmps4
    go_wp2_with (go_at_call 11; refine (bytes_first _ _ _ _ h).mono ?_; rintro e w' ⟨rfl, rfl⟩)
    go_ret
    exact ⟨rfl, Below.refl _ _⟩
  · go_enter Try.func4, Try.ntmps4
    go_wp2_with (go_at_call 11; refine (bytes_first_no _ _ _ _ (by omega)).mono ?_; rintro e w' ⟨rfl, rfl⟩)
    go_ret
    exact ⟨rfl, Below.refl _ _⟩

theorem Txt.drewN {w : World} {g n : Nat} {zs : List Int} (h : Txt w g n zs) (m : Nat) : Txt (w.drewN m) g n zs := h

theorem name_range (s j : Nat) : ∀ i, i < s → 95 ≤ (name s j).getD i 0 ∧ (name s j).getD i 0 ≤ 122 := fun i hi => by
  have hk : i < (name s j).length := by rw [name_length]; exact hi
  have hm : (name s j).getD i 0 ∈ name s j := by
    rw [List.getD_eq_getElem?_getD, List.getElem?_eq_getElem hk]
    exact List.getElem_mem _
  have := name_mem s j _ hm
  omega

theorem below_grown {B : Nat} {a w w' : World} {g : Nat} (h : Below B a w) (hg : w.grownBy w' (some g)) (hB : B ≤ w.heap.size) (hbg : B ≤ g) : Below B a w' :=
  h.grown hg hB (fun k hk => by cases hk; exact hbg)

/-- there is a next name -/
theorem next_yes (B g s i : Nat) (w0 w : World) (hs : s ≤ 4) (hi : i + 1 < 27 ^ s) (hr : Txt w g s (name s i)) (hb : Below B w0 w) (hB : B ≤ w.heap.size) (hbg : B ≤ g) :
    Calls Try.prog 12 #[.slice (some ⟨g, 0, none⟩) s s] w fun e w' => e = .returned (.bool true) ∧ Txt w' g s (name s (i + 1)) ∧ Below B w0 w' :=
  (next_any g s (name s i) w (name_length s i) (by omega) (name_range s i) hr).mono fun e w' ⟨h1, h2, h3⟩ => by
    rw [inc_name s i hi] at h1 h2
    exact ⟨h1, h2, below_grown hb h3 hB hbg⟩
/-- there is none -/
theorem next_no (B g s i : Nat) (w0 w : World) (hs : s ≤ 4) (hi : i + 1 = 27 ^ s) (hr : Txt w g s (name s i)) (hb : Below B w0 w) (hB : B ≤ w.heap.size) (hbg : B ≤ g) :
    Calls Try.prog 12 #[.slice (some ⟨g, 0, none⟩) s s] w fun e w' => e = .returned (.bool false) ∧ Below B w0 w' :=
  (next_any g s (name s i) w (name_length s i) (by omega) (name_range s i) hr).mono fun e w' ⟨h1, h2, h3⟩ => by
    rw [inc_last s i hi] at h1
    exact ⟨h1, below_grown hb h3 hB hbg⟩

theorem conv_name (w : World) (g s i : Nat) (hr : Txt w g s (name s i)) (c : Nat) : (convert 22 9 (.slice (some ⟨g, 0, none⟩) s c)).run Try.prog w = .ok (.string (strOfNums (name s i))) w :=
  run_convert_bytes_arg (P := Try.prog) w 22 5 Try.underlying22 Try.underlying5 g 0 s c (name s i) (name_length s i) (fun k hk => by rw [Nat.zero_add]; exact World.rowIs.cell hr hk) 9 Try.underlying9

theorem name_zero_getD (s k : Nat) (h : k < s) : (name s 0).getD k 0 = 95 := by
  rw [name_zero, List.getD_eq_getElem?_getD, List.getElem?_replicate, if_pos h]
  rfl

theorem str_inj {s i j : Nat} (hi : i < 27 ^ s) (hj : j < 27 ^ s) (h : strOfNums (name s i) = strOfNums (name s j)) : i = j := by
  have h2 : key (name s i) = key (name s j) := by unfold key; rw [h]
  exact name_inj s i j hi hj (key_inj (name_bytes s i) (name_bytes s j) h2)

theorem str_ne {a b : ByteArray} (h : a ≠ b) : (a.toList == b.toList) = false := by
  rw [beq_eq_false_iff_ne]
  intro e
  rw [ByteArray.toList_eq, ByteArray.toList_eq] at e
  exact h (ByteArray.ext (Array.toList_inj.1 e))

/-- filling with '_': one store more -/
theorem fill_step {w : World} {g s k : Nat} (h : w.rowIs g 5 s (fun i => .int .u8 (if i < k then 95 else 0))) : (w.setCell ⟨g, k, none⟩ (.int .u8 95)).rowIs g 5 s (fun i => .int .u8 (if i < k + 1 then 95 else 0)) :=
  (h.set k _).congr (fun j hj => by
    by_cases e : j = k
    · subst e; simp
    · rw [if_neg e]
      by_cases e2 : j < k
      · rw [if_pos e2, if_pos (by omega)]
      · rw [if_neg e2, if_neg (by omega)])
theorem fill_done {w : World} {g s k : Nat} (h : w.rowIs g 5 s (fun i => .int .u8 (if i < k then 95 else 0))) (hk : s ≤ k) : Txt w g s (name s 0) :=
  h.congr (fun i hi => by rw [if_pos (by omega), name_zero_getD s i hi])

theorem cell_first (w : World) (x : Value) (t : TypeId) : (w.alloc (.cells #[x] t)).cell? ⟨w.heap.size, 0, none⟩ = some x :=
  (World.rowIs_alloc w #[x] t (fun _ => x) (fun i hi => by
    obtain rfl : i = 0 := by simp at hi; omega
    rfl)).cell (i := 0) (by simp)

theorem first_nil (w : World) :
    Calls Try.prog 4 #[.slice none 0 0] w fun e w' => e = .returned (.bool true) ∧ Below w.heap.size w w' := by
  have hmk : ∀ w, (Instr.makeSlice 22 (.int .i64 1) (.int .i64 1)).run Try.prog w = .ok (.slice (some ⟨w.heap.size, 0, none⟩) 1 1) (w.alloc (.cells #[.int .u8 0] 5)) := fun _ => by kernel_rfl
  go_enter Try.func4, Try.ntmps4
  go_wp2_with fail
  refine (bytes_first _ _ _ _ (by omega)).mono ?_
  rintro e w' ⟨rfl, rfl⟩
  go_wp2_with fail
  refine (clone_nil _).mono ?_
  rintro e w' ⟨rfl, rfl⟩
  go_wp2_with fail
  refine (zz_empty _ _ _).mono ?_
  rintro e w1 ⟨rfl, hb⟩
  go_wp2_with fail
  refine wp_loop_rounds 2 ?_
  rw [rounds_succ]
  go_wp2_with (go_at_call 9; refine (flip (stand_95 _)).mono ?_; rintro e w' ⟨rfl, rfl⟩)
  rw [rounds_succ]
  go_wp2_with (go_at_call 10; refine (flip (anchored_none _ _ _ _)).mono ?_; rintro e w' ⟨rfl, rfl⟩)
  refine wp_loop_rounds 2 ?_
  rw [rounds_succ]
  go_wp2
  rw [rounds_succ]
  go_wp2
  have hconv := fun c' => run_convert_bytes_arg (P := Try.prog) (w1.alloc (.cells #[.int .u8 95] 5)) 22 5 Try.underlying22 Try.underlying5 w1.heap.size 0 1 c' [95] rfl (fun i hi => by
    obtain rfl : i = 0 := by omega
    exact cell_first _ _ _) 9 Try.underlying9
  rw [show strOfNums [95] = ⟨#[95]⟩ from rfl] at hconv
  refine wp_loop_rounds 1 ?_
  rw [rounds_succ]
  go_wp2
  go_ret
  exact ⟨rfl, hb.alloc hb.size _⟩

set_option maxHeartbeats 4000000 in
set_option maxRecDepth 100000 in
theorem first_some (x : Addr) (len cap : Nat) (zs0 : List Int) (w : World) (hn : len ≤ 65536) (hz : len ≤ zs0.length) (hby : ∀ c ∈ zs0, 0 ≤ c ∧ c ≤ 255)
    (hc : ∀ i, i < zs0.length → w.cell? (x.add i) = some (.int .u8 (zs0.getD i 0))) :
    Calls Try.prog 4 #[.slice (some x) len cap] w fun e w' => e = .returned (.bool true) ∧ Below w.heap.size w w' := by
  have H1 : Hid (∀ i, i < zs0.length → w.cell? (x.add i) = some (.int .u8 (zs0.getD i 0))) := hc
  obtain ⟨zs, hzs⟩ : ∃ zs, zs = zs0.take len := ⟨_, rfl⟩
  have HZ : Hid (zs = zs0.take len) := hzs
  have HLn : Hid (zs.length = len) := by show zs.length = len; rw [hzs]; simp; omega
  have HB : Hid (∀ c ∈ zs, 0 ≤ c ∧ c ≤ 255) := fun c hc => hby c (by rw [hzs] at hc; exact List.mem_of_mem_take hc)
  clear hc hby hzs
  have hd : decide ((65536 : Int) < (len : Int)) = false := decide_eq_false (by omega)
  go_enter Try.func4, Try.ntmps4
  go_wp2_with fail
  refine (flip (bytes_first _ _ _ _ (by omega))).mono ?_
  rintro e w' ⟨rfl, rfl⟩
  go_wp2_with fail
  refine (clone_some x len cap zs0 _ (by omega) hz H1.out).mono ?_
  rintro e w1 ⟨rfl, ht, hb1⟩
  rw [← HZ.out] at ht
  clear H1 HZ
  have hg1 : w.heap.size < w1.heap.size := World.rowIs.lt ht
  go_wp2_with fail
  refine (zz_any w.heap.size len zs w1 HLn.out hn HB.out hg1 ht).mono ?_
  rintro e w2 ⟨s, j, rfl, hgood, hb2⟩
  have ht2 : Txt w2 w.heap.size len zs := ht.mono hb2 hg1
  have hg2 : w.heap.size < w2.heap.size := Nat.lt_of_lt_of_le hg1 hb2.size
  have hb12 : Below w.heap.size w w2 := hb1.trans (hb2.mono hb1.size)
  have hs1 := hgood.1
  have hs4 := hgood.2.1
  have hj : Hid (j < 27 ^ s) := hgood.2.2.1
  have hps : Hid ((strOfNums (name s j)).size = s) := by show (strOfNums (name s j)).size = s; rw [strOfNums_size, name_length]
  have HN : Hid (¬ Anch zs len (strOfNums (name s j))) := fun h => hgood.2.2.2.1 ((taken_iff zs s j).2 (by rw [HLn.out]; exact h))
  have HT : Hid (∀ i, i < j → Anch zs len (strOfNums (name s i))) := fun i hi => by
    have := (taken_iff zs s i).1 (hgood.2.2.2.2.1 i hi)
    rw [HLn.out] at this
    exact this
  have HT1 : Hid (1 < s → ∀ i, i < 27 ^ (s - 1) → Anch zs len (strOfNums (name (s - 1) i))) := fun h i hi => by
    have := (taken_iff zs (s - 1) i).1 (hgood.2.2.2.2.2 h i hi)
    rw [HLn.out] at this
    exact this
  have HS : Hid (∀ k (h : k < (strOfNums (name s j)).size), standB ((strOfNums (name s j))[k].toNat : Int) = true) := name_str_stand s j
  clear hgood ht hb1 hb2
  obtain ⟨p, hp⟩ : ∃ p, p = strOfNums (name s j) := ⟨_, rfl⟩
  rw [← hp] at HN HS hps ⊢
  have HP : Hid (p = strOfNums (name s j)) := hp
  clear hp
  have hpa : 1 ≤ p.size := by rw [hps.out]; exact hs1
  have hpb : p.size ≤ 4 := by rw [hps.out]; exact hs4
  have hp0 : ((p.size : Int) == 0) = false := beq_eq_false_iff_ne.2 (by omega)
  go_wp2_with fail
  go_loop [4] (fun i => ∃ k : Nat, k ≤ p.size ∧ i = .int .i64 k) (fun i => p.size - (intOf i).toNat)
  case atStart => exact ⟨0, Nat.zero_le _, rfl⟩
  case round =>
    obtain ⟨k, hk, rfl⟩ := hrel
    by_cases hlt : k < p.size
    · go_wp2_with (go_at_call 9; refine (stand_yes _ _ (HS.out k hlt)).mono ?_; rintro e w' ⟨rfl, rfl⟩)
      go_round
      case rel => exact ⟨k + 1, by omega, by go_num⟩
      case measure => simp [intOf]; omega
    · clear HS
      go_wp2_with fail
      refine (anchored_no _ _ _ _ _ (by omega) (by omega) ht2 HN.out).mono ?_
      rintro e w3 ⟨rfl, m, rfl⟩
      have ht3 : Txt (w2.drewN m) w.heap.size len zs := ht2
      have hg3 : w.heap.size < (w2.drewN m).heap.size := hg2
      have hb3 : Below w.heap.size w (w2.drewN m) := below_dn hb12 m
      clear ht2 hg2 hb12 HN
      generalize w2.drewN m = w3 at *
      have hmk := run_make_row' (P := Try.prog) 22 5 (.int .u8 0) 1 Try.underlying22 Try.info5 rfl .i64 .i64 p.size (by omega) (by omega)
      by_cases hone : 1 < s
      · have hd1 : decide ((1 : Int) < (p.size : Int)) = true := decide_eq_true (by rw [hps.out]; omega)
        have hlt1 : 1 < p.size := by rw [hps.out]; exact hone
        have HT2 : Hid (∀ i, i < 27 ^ (s - 1) → Anch zs len (strOfNums (name (s - 1) i))) := HT1.out hone
        clear HT1 hone
        obtain ⟨T, hT⟩ : ∃ T, T = s - 1 := ⟨_, rfl⟩
        rw [← hT] at HT2
        have hT1 : 1 ≤ T := by have := hps.out; omega
        have hT4 : T ≤ 4 := by omega
        have hTp : Hid ((p.size : Int) - 1 = (T : Int)) := by show (p.size : Int) - 1 = (T : Int); have := hps.out; omega
        clear hT
        have hmk1 : ∀ w, (Instr.makeSlice 22 (.int .i64 ((p.size : Int) - 1)) (.int .i64 ((p.size : Int) - 1))).run Try.prog w = .ok (.slice (some ⟨w.heap.size, 0, none⟩) T T) (w.alloc (.cells (madeCells #[.int .u8 0] T) 5)) := fun w => by
          rw [hTp.out]
          exact run_make_row' (P := Try.prog) 22 5 (.int .u8 0) 1 Try.underlying22 Try.info5 rfl .i64 .i64 T (by omega) (by omega) w
        go_wp2
        go_loopw [6] (fun i wr => ∃ k : Nat, k ≤ T ∧ i = .int .i64 k ∧ wr.rowIs w3.heap.size 5 T (fun i => .int .u8 (if i < k then 95 else 0)) ∧ Below w3.heap.size w3 wr)
          (fun i _ => T - (intOf i).toNat)
        case atStart => exact ⟨0, Nat.zero_le _, rfl, (World.rowIs_made _ _ _ _).congr (fun i hi => by rw [if_neg (Nat.not_lt_zero _)]), (Below.refl _ _).alloc (Nat.le_refl _) _⟩
        case round =>
          obtain ⟨k, hk, rfl, hrow, hbx⟩ := hrel
          by_cases hlt : k < T
          · have hcell := hrow.cell hlt
            have hfz := hrow.frozen k
            go_wp2
            go_roundw
            case rel => exact ⟨k + 1, by omega, by go_num, fill_step hrow, hbx.setCell (Nat.le_refl _) _⟩
            case measure => simp [intOf]; omega
          · have hfill := fill_done hrow (by omega)
            clear hrow
            go_wp2
            go_loopg [52] (27 ^ T) (fun gk _ wr => ∃ i : Nat, i < 27 ^ T ∧ gk = 27 ^ T - i ∧ Txt wr w3.heap.size T (name T i) ∧ Below w3.heap.size w3 wr)
            case atStart => exact ⟨0, Nat.pow_pos (by omega), rfl, hfill, hbx⟩
            case round =>
              clear hfill hbx
              obtain ⟨i, hi, hgk, htx, hbx⟩ := hrel
              have HI : Hid (i < 27 ^ T) := hi
              have HK : Hid (gk = 27 ^ T - i) := hgk
              clear hi hgk
              have hconv := conv_name wr w3.heap.size T i htx
              have htt : Txt wr w.heap.size len zs := ht3.mono hbx hg3
              have hsz : (strOfNums (name T i)).size = T := by rw [strOfNums_size, name_length]
              go_wp2_with fail
              refine (anchored_yes _ _ _ _ _ (by omega) (by omega) htt (HT2.out i HI.out)).mono ?_
              rintro e w4 ⟨rfl, m, rfl⟩
              by_cases hlast : i + 1 < 27 ^ T
              · have HL : Hid (i + 1 < 27 ^ T) := hlast
                clear hlast
                go_wp2_with fail
                refine (next_yes w3.heap.size w3.heap.size T i w3 _ (by omega) HL.out (Txt.drewN htx m) (below_dn hbx m) hbx.size (Nat.le_refl _)).mono ?_
                rintro e w5 ⟨rfl, htx5, hb5⟩
                go_wp2_with fail
                go_roundg (27 ^ T - (i + 1))
                case measure => have := HK.out; have := HL.out; omega
                case rel => exact ⟨i + 1, HL.out, rfl, htx5, hb5⟩
              · have HL : Hid (i + 1 = 27 ^ T) := by show i + 1 = 27 ^ T; have := HI.out; omega
                clear hlast
                go_wp2_with fail
                refine (next_no w3.heap.size w3.heap.size T i w3 _ (by omega) HL.out (Txt.drewN htx m) (below_dn hbx m) hbx.size (Nat.le_refl _)).mono ?_
                rintro e w5 ⟨rfl, hb5⟩
                have ht5 : Txt w5 w.heap.size len zs := ht3.mono hb5 hg3
                have hg5 : w.heap.size < w5.heap.size := Nat.lt_of_lt_of_le hg3 hb5.size
                have hb5' : Below w.heap.size w w5 := hb3.trans (hb5.mono (Nat.le_of_lt hg3))
                clear ht3 hg3 hb3 htt htx hbx hb5 hconv hsz HT2 hmk1 hTp HI HK HL
                have ht3 := ht5
                have hg3 := hg5
                have hb3 := hb5'
                clear ht5 hg5 hb5'
                go_wp2
                go_loopw [8] (fun i wr => ∃ k : Nat, k ≤ p.size ∧ i = .int .i64 k ∧ wr.rowIs w5.heap.size 5 p.size (fun i => .int .u8 (if i < k then 95 else 0)) ∧ Below w5.heap.size w5 wr)
                  (fun i _ => p.size - (intOf i).toNat)
                case atStart => exact ⟨0, Nat.zero_le _, rfl, (World.rowIs_made _ _ _ _).congr (fun i hi => by rw [if_neg (Nat.not_lt_zero _)]), (Below.refl _ _).alloc (Nat.le_refl _) _⟩
                case round =>
                  obtain ⟨k, hk, rfl, hrow, hbx⟩ := hrel
                  by_cases hlt : k < p.size
                  · have hcell := hrow.cell hlt
                    have hfz := hrow.frozen k
                    go_wp2
                    go_roundw
                    case rel => exact ⟨k + 1, by omega, by go_num, fill_step hrow, hbx.setCell (Nat.le_refl _) _⟩
                    case measure => simp [intOf]; omega
                  · have hfill := fill_done hrow (by omega)
                    clear hrow
                    go_wp2
                    go_loopg [72] j (fun gk _ wr => ∃ i : Nat, i ≤ j ∧ gk = j - i ∧ Txt wr w5.heap.size p.size (name p.size i) ∧ Below w5.heap.size w5 wr)
                    case atStart => exact ⟨0, Nat.zero_le _, rfl, hfill, hbx⟩
                    case round =>
                      clear hfill hbx
                      obtain ⟨i, hi, hgk, htx, hbx⟩ := hrel
                      have HK : Hid (gk = j - i) := hgk
                      clear hgk
                      have hconv := conv_name wr w5.heap.size p.size i htx
                      have htt : Txt wr w.heap.size len zs := ht3.mono hbx hg3
                      have hsz : (strOfNums (name p.size i)).size = p.size := by rw [strOfNums_size, name_length]
                      by_cases hij : i < j
                      · have hne : Hid (strOfNums (name p.size i) ≠ p) := fun e => by
                          rw [hps.out, HP.out] at e
                          exact absurd (str_inj (Nat.lt_trans hij hj.out) hj.out e) (by omega)
                        have HA : Hid (Anch zs len (strOfNums (name p.size i))) := by
                          have := HT.out i hij
                          rw [← hps.out] at this
                          exact this
                        have hq : ((strOfNums (name p.size i)).toList == p.toList) = false := str_ne hne.out
                        go_wp2_with fail
                        refine (anchored_yes _ _ _ _ _ (by omega) (by omega) htt HA.out).mono ?_
                        rintro e w6 ⟨rfl, m, rfl⟩
                        go_wp2_with fail
                        refine (next_yes w5.heap.size w5.heap.size p.size i w5 _ hpb (by have := hj.out; rw [hps.out]; omega) (Txt.drewN htx m) (below_dn hbx m) hbx.size (Nat.le_refl _)).mono ?_
                        rintro e w7 ⟨rfl, htx7, hb7⟩
                        go_wp2_with fail
                        go_roundg (j - (i + 1))
                        case measure => have := HK.out; omega
                        case rel => exact ⟨i + 1, hij, rfl, htx7, hb7⟩
                      · obtain rfl : j = i := by omega
                        have hq : ((strOfNums (name p.size j)).toList == p.toList) = true := by
                          rw [hps.out, ← HP.out]
                          exact beq_self_eq_true _
                        go_wp2_with fail
                        go_ret
                        exact ⟨rfl, hb3.trans (hbx.mono (Nat.le_of_lt hg3))⟩
      · have hd1 : decide ((1 : Int) < (p.size : Int)) = false := decide_eq_false (by rw [hps.out]; omega)
        clear HT1 hone
        go_wp2
        go_loopw [8] (fun i wr => ∃ k : Nat, k ≤ p.size ∧ i = .int .i64 k ∧ wr.rowIs w3.heap.size 5 p.size (fun i => .int .u8 (if i < k then 95 else 0)) ∧ Below w3.heap.size w3 wr)
          (fun i _ => p.size - (intOf i).toNat)
        case atStart => exact ⟨0, Nat.zero_le _, rfl, (World.rowIs_made _ _ _ _).congr (fun i hi => by rw [if_neg (Nat.not_lt_zero _)]), (Below.refl _ _).alloc (Nat.le_refl _) _⟩
        case round =>
          obtain ⟨k, hk, rfl, hrow, hbx⟩ := hrel
          by_cases hlt : k < p.size
          · have hcell := hrow.cell hlt
            have hfz := hrow.frozen k
            go_wp2
            go_roundw
            case rel => exact ⟨k + 1, by omega, by go_num, fill_step hrow, hbx.setCell (Nat.le_refl _) _⟩
            case measure => simp [intOf]; omega
          · have hfill := fill_done hrow (by omega)
            clear hrow
            go_wp2
            go_loopg [72] j (fun gk _ wr => ∃ i : Nat, i ≤ j ∧ gk = j - i ∧ Txt wr w3.heap.size p.size (name p.size i) ∧ Below w3.heap.size w3 wr)
            case atStart => exact ⟨0, Nat.zero_le _, rfl, hfill, hbx⟩
            case round =>
              clear hfill hbx
              obtain ⟨i, hi, hgk, htx, hbx⟩ := hrel
              have HK : Hid (gk = j - i) := hgk
              clear hgk
              have hconv := conv_name wr w3.heap.size p.size i htx
              have htt : Txt wr w.heap.size len zs := ht3.mono hbx hg3
              have hsz : (strOfNums (name p.size i)).size = p.size := by rw [strOfNums_size, name_length]
              by_cases hij : i < j
              · have hne : Hid (strOfNums (name p.size i) ≠ p) := fun e => by
                  rw [hps.out, HP.out] at e
                  exact absurd (str_inj (Nat.lt_trans hij hj.out) hj.out e) (by omega)
                have HA : Hid (Anch zs len (strOfNums (name p.size i))) := by
                  have := HT.out i hij
                  rw [← hps.out] at this
                  exact this
                have hq : ((strOfNums (name p.size i)).toList == p.toList) = false := str_ne hne.out
                go_wp2_with fail
                refine (anchored_yes _ _ _ _ _ (by omega) (by omega) htt HA.out).mono ?_
                rintro e w6 ⟨rfl, m, rfl⟩
                go_wp2_with fail
                refine (next_yes w3.heap.size w3.heap.size p.size i w3 _ hpb (by have := hj.out; rw [hps.out]; omega) (Txt.drewN htx m) (below_dn hbx m) hbx.size (Nat.le_refl _)).mono ?_
                rintro e w7 ⟨rfl, htx7, hb7⟩
                go_wp2_with fail
                go_roundg (j - (i + 1))
                case measure => have := HK.out; omega
                case rel => exact ⟨i + 1, hij, rfl, htx7, hb7⟩
              · obtain rfl : j = i := by omega
                have hq : ((strOfNums (name p.size j)).toList == p.toList) = true := by
                  rw [hps.out, ← HP.out]
                  exact beq_self_eq_true _
                go_wp2_with fail
                go_ret
                exact ⟨rfl, hb3.trans (hbx.mono (Nat.le_of_lt hg3))⟩

end Go.Proofs.Qxb6000711a
