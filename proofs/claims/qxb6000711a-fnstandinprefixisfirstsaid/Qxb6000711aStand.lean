/-
  Seat b6000711a: standInPrefix (16).
-/
import Derived.Test.Qxb6000711aKeys
namespace Go.Proofs.Qxb6000711a
open Go.RowKit Go.Maps

theorem Try.info22 : (Try.prog.info? 22).map (fun i => (i.zero, i.size, i.bytes)) = some (some (.slice none 0 0), 1, 24) := by kernel_rfl

theorem row_hit {w1 : World} {B : Nat} {v' : Value} {L : List (Nat × Nat)} {r : Nat × Nat} {f : Nat × Nat → Value} (h : w1.ownsRow B 22 1 v' (L.length + 1) (L.map f ++ [f r])) : w1.ownsRow B 22 1 v' (L ++ [r]).length ((L ++ [r]).map f) := by
  simpa using h

theorem anch_same (c : Int) (w : World) : Calls Try.prog 18 #[.int .u8 c] w fun e w' => e = .returned (.bool (anchB c)) ∧ w = w' :=
  (anch_any c w).mono fun _ _ ⟨h1, h2⟩ => ⟨h1, h2.symm⟩

/-- a run's slice value -/
def sv (g n : Nat) (r : Nat × Nat) : Value := .slice (some ⟨g, if n = r.1 then 0 else r.1, none⟩) r.2 (n - r.1)

theorem sv_end (g n st ln : Nat) (h : n = st) : sv g n (st, ln) = .slice (some ⟨g, 0, none⟩) ln 0 := by
  subst h
  simp [sv]

/-- what a slice that owns a row of slices looks like -/
theorem row_form {w : World} {base : Nat} {v : Value} {L : List (Nat × Nat)} {f : Nat × Nat → Value} (h : w.ownsRow base 22 1 v L.length (L.map f)) :
    ∃ ao cap, v = .slice ao L.length cap ∧ (∀ i (hi : i < L.length), ∃ gr, ao = some ⟨gr, 0, none⟩ ∧ base ≤ gr ∧ gr < w.heap.size ∧ w.cell? ⟨gr, i, none⟩ = some (f L[i])) := by
  rcases h.2 with ⟨h1, h2⟩ | ⟨gr, cap, cur, h1, h2, h3, h4, h5, h6, h7⟩
  · exact ⟨none, 0, by rw [h1, h2], fun i hi => by omega⟩
  · refine ⟨some ⟨gr, 0, none⟩, cap, h1, fun i hi => ⟨gr, rfl, h2, (Array.getElem?_eq_some_iff.1 h3).1, ?_⟩⟩
    subst h1
    rw [h.cellAt i (by omega), List.getElem?_map, List.getElem?_eq_getElem hi]
    rfl

/-- the run's slice with at least one byte: it lies at its start -/
theorem sv_some (g n st ln : Nat) (h : st < n) : sv g n (st, ln) = .slice (some ⟨g, st, none⟩) ln (n - st) := by
  simp [sv, show ¬ n = st by omega]

/-- WHAT standInPrefix HANDS BACK: the j-th name of length s is free, all before it are taken, and all that are one shorter. -/
def Good (zs : List Int) (s j : Nat) : Prop :=
  1 ≤ s ∧ s ≤ 4 ∧ j < 27 ^ s ∧ ¬ Taken zs s (name s j) ∧ (∀ i, i < j → Taken zs s (name s i)) ∧ (1 < s → ∀ i, i < 27 ^ (s - 1) → Taken zs (s - 1) (name (s - 1) i))

theorem law9 : Keyed Try.prog 9 := string_keyed Try.underlying9
theorem zero4 (w : World) : (zeroValue 4).run Try.prog w = .ok (.bool false) w := by kernel_rfl

theorem key_of (x : List Int) (h : x.length ≤ 65536) : keyOf Try.prog 9 (.string (strOfNums x)) = some (key x) :=
  WideMaps.keyOf_string_mk Try.underlying9 (by rw [strOfNums_size]; unfold maxLen; omega)

theorem bit_length {zs : List Int} {st s : Nat} (h : st + s ≤ zs.length) : (bit zs st s).length = s := by
  simp [bit]
  omega
theorem bit_getD {zs : List Int} {st s i : Nat} (h : i < s) : (bit zs st s).getD i 0 = zs.getD (st + i) 0 := by
  simp [bit, h, List.getElem?_drop]

/-- a run begins behind its mark and ends in the text -/
theorem run_facts {zs : List Int} {n k st ln : Nat} {R : List (Nat × Nat)} (hn : zs.length = n) (hR : R = runsTo zs n) (hk : k < R.length) (h : R[k] = (st, ln)) : 1 ≤ st ∧ st ≤ n ∧ ln ≤ n - st := by
  have hm : R[k] ∈ runsTo zs n := hR ▸ List.getElem_mem hk
  rw [h] at hm
  obtain ⟨i, hi, _, he⟩ := (mem_runsTo zs _ n).1 hm
  simp only [Prod.mk.injEq] at he
  have := span_le zs (i + 1)
  omega

theorem letters_at (d : Nat) (h : d < 27) (h' : d < ({ data := #[95, 97, 98, 99, 100, 101, 102, 103, 104, 105, 106, 107, 108, 109, 110, 111, 112, 113, 114, 115, 116, 117, 118, 119, 120, 121, 122] } : ByteArray).size) :
    (((({ data := #[95, 97, 98, 99, 100, 101, 102, 103, 104, 105, 106, 107, 108, 109, 110, 111, 112, 113, 114, 115, 116, 117, 118, 119, 120, 121, 122] } : ByteArray)[d]'h').toNat : Nat) : Int) = letter d := by
  have key : ∀ x : Fin 27, (((#[95, 97, 98, 99, 100, 101, 102, 103, 104, 105, 106, 107, 108, 109, 110, 111, 112, 113, 114, 115, 116, 117, 118, 119, 120, 121, 122] : Array UInt8)[x.val]'(x.isLt)).toNat : Int) = letter x.val := by decide
  exact key ⟨d, h⟩

theorem digit_cell {s j m d i : Nat} (hm : m + 1 ≤ s) (hd : d = j / 27 ^ (s - (m + 1))) {x : Int} (hx : x = letter (d % 27)) :
    (if i = m then Value.int IntKind.u8 x else Value.int IntKind.u8 (if i < m + 1 then 0 else (name s j).getD i 0)) = Value.int IntKind.u8 (if i < m then 0 else (name s j).getD i 0) := by
  by_cases e : i = m
  · subst e
    rw [if_pos rfl, if_neg (by omega), name_getD s j i (by omega), hx, hd, show s - (i + 1) = s - 1 - i by omega]
  · rw [if_neg e]
    by_cases e2 : i < m
    · rw [if_pos e2, if_pos (by omega)]
    · rw [if_neg e2, if_neg (by omega)]

theorem digit_step {s j m d : Nat} (hm : m + 1 ≤ s) (hd : d = j / 27 ^ (s - (m + 1))) : d / 27 = j / 27 ^ (s - m) := by
  rw [hd, Nat.div_div_eq_div_mul, ← Nat.pow_succ, show (s - (m + 1)).succ = s - m by omega]

theorem pow27 {s C : Nat} (h : C = 27 ^ s) (h4 : s ≤ 4) (hc : C ≤ 65536) : s ≤ 3 ∧ C ≤ 19683 := by
  match s, h4 with
  | 0, _ => exact ⟨by omega, by rw [h]; decide⟩
  | 1, _ => exact ⟨by omega, by rw [h]; decide⟩
  | 2, _ => exact ⟨by omega, by rw [h]; decide⟩
  | 3, _ => exact ⟨by omega, by rw [h]; decide⟩
  | 4, _ => rw [h] at hc; exact absurd hc (by decide)

set_option maxHeartbeats 2000000 in
set_option maxRecDepth 100000 in
theorem standIn_any (g n : Nat) (zs : List Int) (w : World) (hn : zs.length = n) (hn2 : n ≤ 65536) (hb : ∀ c ∈ zs, 0 ≤ c ∧ c ≤ 255) (hg : g < w.heap.size) (ht : Txt w g n zs) :
    Calls Try.prog 16 #[.slice (some ⟨g, 0, none⟩) n n] w fun e w' => ∃ s j, e = .returned (.string (strOfNums (name s j))) ∧ Good zs s j ∧ Below w.heap.size w w' := by
  have HL : Hid (zs.length = n) := hn
  have HB : Hid (∀ c ∈ zs, 0 ≤ c ∧ c ≤ 255) := hb
  clear hn hb
  have hmm := @run_makeMap Try.prog
  obtain ⟨i0, hi, hz0, hz1, hz2⟩ := info_parts Try.info22
  go_enter Try.func16, Try.ntmps16
  go_wp2
  go_loopw [3, 18] (fun v i wr => ∃ k : Nat, k ≤ n ∧ i = .int .i64 k ∧ wr.ownsRow w.heap.size 22 1 v (runsTo zs k).length ((runsTo zs k).map (sv g n)) ∧ Below w.heap.size w wr)
    (fun _ i _ => n - (intOf i).toNat)
  case atStart => exact ⟨0, Nat.zero_le _, rfl, World.ownsRow_nil _ _ _ _, Below.refl _ _⟩
  case round =>
    obtain ⟨k, hk, rfl, hown, hnx⟩ := hrel
    by_cases hlt : k < n
    · have hc : wr.cell? ⟨g, k, none⟩ = some (.int .u8 (zs.getD k 0)) := (hnx.cell (p := ⟨g, k, none⟩) hg).trans (World.rowIs.cell ht hlt)
      obtain ⟨x, hx⟩ : ∃ x, x = zs.getD k 0 := ⟨_, rfl⟩
      rw [← hx] at hc
      have HX : Hid (x = zs.getD k 0) := hx
      clear hx
      by_cases ha : x = 38 ∨ x = 42
      · have HA : Hid (ampB (zs.getD k 0) = true) := by show ampB _ = true; rw [← HX.out]; simp [ampB, ha]
        have hsl := span_le zs (k + 1)
        rw [HL.out] at hsl
        rcases ha with rfl | rfl
        all_goals
          go_wp2
          go_loop [6] (fun q => ∃ m : Nat, m ≤ span zs (k + 1) ∧ q = .int .i64 ((k + 1 + m : Nat) : Int)) (fun q => k + 1 + span zs (k + 1) - (intOf q).toNat)
          case atStart => exact ⟨0, Nat.zero_le _, rfl⟩
          case round =>
            obtain ⟨m, hm, rfl⟩ := hrel
            have hst := span_step zs (k + 1) m hm
            rw [HL.out] at hst
            by_cases hms : m < span zs (k + 1)
            · obtain ⟨hkm, han⟩ := hst.1 hms
              clear hst
              have hc2 : wr.cell? ⟨g, k + 1 + m, none⟩ = some (.int .u8 (zs.getD (k + 1 + m) 0)) := (hnx.cell (p := ⟨g, k + 1 + m, none⟩) hg).trans (World.rowIs.cell ht hkm)
              obtain ⟨y, hy⟩ : ∃ y, y = zs.getD (k + 1 + m) 0 := ⟨_, rfl⟩
              rw [← hy] at hc2 han
              clear hy
              go_wp2_with (go_at_call 18; refine (anch_same _ _).mono ?_; rintro e w' ⟨rfl, rfl⟩)
              go_round
              case rel => exact ⟨m + 1, by omega, by go_num⟩
              case measure => simp [intOf]; omega
            · have HM : Hid (m = span zs (k + 1)) := by show m = span zs (k + 1); omega
              have hrl := runsTo_length zs k
              by_cases hcap : k + 1 < n
              · by_cases hkm : k + 1 + m < n
                · have hanf : anchB (zs.getD (k + 1 + m) 0) = false := by
                    cases hq : anchB (zs.getD (k + 1 + m) 0)
                    · rfl
                    · exact absurd (hst.2 ⟨hkm, hq⟩) hms
                  clear hst hms
                  have hc2 : wr.cell? ⟨g, k + 1 + m, none⟩ = some (.int .u8 (zs.getD (k + 1 + m) 0)) := (hnx.cell (p := ⟨g, k + 1 + m, none⟩) hg).trans (World.rowIs.cell ht hkm)
                  obtain ⟨y, hy⟩ : ∃ y, y = zs.getD (k + 1 + m) 0 := ⟨_, rfl⟩
                  rw [← hy] at hc2 hanf
                  clear hy
                  go_wp2_with (first | (go_at_call 18; refine (anch_same _ _).mono ?_; rintro e w' ⟨rfl, rfl⟩) | (at_builtin; go_must (refine wpList_append_own _ rfl _ _ 31 rfl w.heap.size 22 i0 (.slice none 0 0) 1 24 Try.underlying31 hi hz0 hz1 hz2 rfl (by decide) _ _ _ rfl (hown.alloc _) ⟨wr.heap.size, 0, none⟩ 1 1 [_] rfl rfl (cell_one_new _ _ _) (by intro u hu; simp at hu; subst hu; rfl) (by unfold maxLen; omega) (by omega) (by have := hnx.size; simp; omega) ?_); intro v' w1 hown' hgrow hnil2))
                  go_roundw
                  case rel =>
                    refine ⟨k + 1, by omega, by go_num, ?_, (hnx.alloc hnx.size _).grown hgrow (by have := hnx.size; simp; omega) (fun j hj => (hown.lt j hj).1)⟩
                    rw [runsTo_hit zs k HA.out, ← HM.out]
                    exact row_hit (by simpa [sv, show ¬ n = k + 1 by omega] using hown')
                  case measure => simp [intOf]; omega
                · clear hst hms
                  go_wp2_with (first | (go_at_call 18; refine (anch_same _ _).mono ?_; rintro e w' ⟨rfl, rfl⟩) | (at_builtin; go_must (refine wpList_append_own _ rfl _ _ 31 rfl w.heap.size 22 i0 (.slice none 0 0) 1 24 Try.underlying31 hi hz0 hz1 hz2 rfl (by decide) _ _ _ rfl (hown.alloc _) ⟨wr.heap.size, 0, none⟩ 1 1 [_] rfl rfl (cell_one_new _ _ _) (by intro u hu; simp at hu; subst hu; rfl) (by unfold maxLen; omega) (by omega) (by have := hnx.size; simp; omega) ?_); intro v' w1 hown' hgrow hnil2))
                  go_roundw
                  case rel =>
                    refine ⟨k + 1, by omega, by go_num, ?_, (hnx.alloc hnx.size _).grown hgrow (by have := hnx.size; simp; omega) (fun j hj => (hown.lt j hj).1)⟩
                    rw [runsTo_hit zs k HA.out, ← HM.out]
                    exact row_hit (by simpa [sv, show ¬ n = k + 1 by omega] using hown')
                  case measure => simp [intOf]; omega
              · have hge : n ≤ k + 1 := by omega
                obtain rfl : m = 0 := by omega
                clear hst hms hcap
                go_wp2_with (first | (go_at_call 18; refine (anch_same _ _).mono ?_; rintro e w' ⟨rfl, rfl⟩) | (at_builtin; go_must (refine wpList_append_own _ rfl _ _ 31 rfl w.heap.size 22 i0 (.slice none 0 0) 1 24 Try.underlying31 hi hz0 hz1 hz2 rfl (by decide) _ _ _ rfl (hown.alloc _) ⟨wr.heap.size, 0, none⟩ 1 1 [_] rfl rfl (cell_one_new _ _ _) (by intro u hu; simp at hu; subst hu; rfl) (by unfold maxLen; omega) (by omega) (by have := hnx.size; simp; omega) ?_); intro v' w1 hown' hgrow hnil2))
                go_roundw
                case rel =>
                  refine ⟨k + 1, by omega, by go_num, ?_, (hnx.alloc hnx.size _).grown hgrow (by have := hnx.size; simp; omega) (fun j hj => (hown.lt j hj).1)⟩
                  rw [runsTo_hit zs k HA.out, ← HM.out]
                  rw [← sv_end g n (k + 1) 0 (by omega)] at hown'
                  exact row_hit hown'
                case measure => simp [intOf]; omega
      · have e1 : (x == 38) = false := by simp; omega
        have e2 : (x == 42) = false := by simp; omega
        have HA : Hid (ampB (zs.getD k 0) = false) := by show ampB _ = false; rw [← HX.out]; simp [ampB]; omega
        go_wp2
        go_roundw
        case rel => exact ⟨k + 1, by omega, by go_num, by rw [runsTo_miss zs k HA.out]; exact hown, hnx⟩
        case measure => simp [intOf]; omega
    · obtain rfl : n = k := by omega
      clear hk hlt
      obtain ⟨ao, cap, hv, hrr⟩ := row_form hown
      clear hown
      obtain ⟨w1, rfl⟩ : ∃ w1 : World, w1 = wr := ⟨_, rfl⟩
      have hrl := runsTo_length zs n
      have hgw : g < w1.heap.size := Nat.lt_of_lt_of_le hg hnx.size
      subst hv
      generalize hR : runsTo zs n = R at *
      have HRR : Hid (R = runsTo zs n) := hR.symm
      clear hR
      have HR : Hid (∀ i (hi : i < R.length), ∃ gr, ao = some ⟨gr, 0, none⟩ ∧ w.heap.size ≤ gr ∧ gr < w1.heap.size ∧ w1.cell? ⟨gr, i, none⟩ = some (sv g n R[i])) := hrr
      clear hrr
      go_wp2
      go_loopw [7, 8] (fun sz ct wr => ∃ s C : Nat, 1 ≤ s ∧ s ≤ 4 ∧ C ≤ 531441 ∧ sz = .int .i64 s ∧ ct = .int .i64 C ∧ C = 27 ^ s ∧ (1 < s → ∀ i, i < 27 ^ (s - 1) → Taken zs (s - 1) (name (s - 1) i)) ∧ Below w1.heap.size w1 wr)
        (fun sz _ _ => 5 - (intOf sz).toNat)
      case atStart => exact ⟨1, 27, by omega, by omega, by omega, rfl, rfl, rfl, fun h => by omega, Below.refl _ _⟩
      case round =>
        obtain ⟨s, C, hs1, hs4, hC, rfl, rfl, hCs, hprev, hbw⟩ := hrel
        have HC : Hid (C = 27 ^ s) := hCs
        have HP : Hid (1 < s → ∀ i, i < 27 ^ (s - 1) → Taken zs (s - 1) (name (s - 1) i)) := hprev
        clear hCs hprev
        obtain ⟨w2, rfl⟩ : ∃ w2 : World, w2 = wr := ⟨_, rfl⟩
        go_wp2
        go_loopw [60] (fun i wr => ∃ k : Nat, k ≤ R.length ∧ i = .int .i64 k ∧ wr.ownsMap Try.prog 9 (plainElem Try.prog 4) w2.heap.size k (Sn zs s (R.take k)) ∧ Below w2.heap.size w2 wr)
          (fun i _ => R.length - (intOf i).toNat)
        case atStart => exact ⟨0, Nat.zero_le _, rfl, World.ownsMap_made _ _ _ _, (Below.refl _ _).alloc (Nat.le_refl _) _⟩
        case round =>
          obtain ⟨k, hk, rfl, hmap, hbx⟩ := hrel
          by_cases hlt : k < R.length
          · obtain ⟨gr, rfl, hgr1, hgr2, hcr⟩ := HR.out k hlt
            have hbs := hbw.size
            have hall : Below w1.heap.size w1 wr := hbw.trans (hbx.mono hbs)
            have hcell : wr.cell? ⟨gr, k, none⟩ = some (sv g n R[k]) := (hall.cell (p := ⟨gr, k, none⟩) hgr2).trans hcr
            obtain ⟨st, ln, hr⟩ : ∃ st ln, R[k] = (st, ln) := ⟨_, _, rfl⟩
            have hrf := run_facts HL.out HRR.out hlt hr
            rw [hr] at hcell
            have HK : Hid (R[k] = (st, ln)) := hr
            clear hr hcr
            by_cases hsl : s ≤ ln
            · have hmap' : Hid (Sn zs s (R.take (k + 1)) = (Sn zs s (R.take k)).put (key (bit zs st s)) (.lit (.bool true))) := by
                have h := Sn_hit zs s R k hlt (by rw [HK.out]; exact hsl)
                rw [HK.out] at h
                exact h
              rw [sv_some g n st ln (by omega)] at hcell
              have hconv := fun c' => run_convert_bytes_arg (P := Try.prog) wr 22 5 Try.underlying22 Try.underlying5 g st s c' (bit zs st s) (bit_length (by rw [HL.out]; omega)) (fun i hi => by
                rw [bit_getD hi]
                exact (hall.cell (p := ⟨g, st + i, none⟩) hgw).trans (hnx.cell (p := ⟨g, st + i, none⟩) hg |>.trans (World.rowIs.cell ht (by omega)))) 9 Try.underlying9
              have hkey := key_of (bit zs st s) (by rw [bit_length (by rw [HL.out]; omega)]; omega)
              go_wp2_with (at_mapUpdate; go_must (refine wpList_mapUpdate_own _ rfl _ _ _ 32 rfl 9 4 law9 Try.underlying32 (plainElem (H := Unit) Try.prog 4) w2.heap.size k _ rfl hmap (by unfold maxLen; omega) _ _ _ rfl rfl hkey _ [] (plainElem_bool Try.underlying4 true) ?_); intro w3 hmap3 hgrow3)
              go_roundw
              case rel => exact ⟨k + 1, by omega, by go_num, by rw [hmap'.out]; exact hmap3, hbx.grown hgrow3 hbx.size (fun j hj => by cases hj; exact Nat.le_refl _)⟩
              case measure => simp [intOf]; omega
            · have hmap' : Hid (Sn zs s (R.take (k + 1)) = Sn zs s (R.take k)) := by
                exact Sn_miss zs s R k hlt (by rw [HK.out]; exact hsl)
              obtain ⟨o, ho⟩ : ∃ o, o = (if n = st then 0 else st) := ⟨_, rfl⟩
              have hcell2 : wr.cell? ⟨gr, k, none⟩ = some (.slice (some ⟨g, o, none⟩) ln (n - st)) := by rw [hcell, ho]; rfl
              clear ho hcell
              go_wp2
              go_roundw
              case rel => exact ⟨k + 1, by omega, by go_num, by rw [hmap'.out]; exact hmap.mono (Nat.le_succ _), hbx⟩
              case measure => simp [intOf]; omega
          · obtain rfl : R.length = k := by omega
            rw [List.take_length] at hmap
            go_wp2
            go_loopw [12] (fun q wr => ∃ j : Nat, j ≤ C ∧ q = .int .i64 j ∧ (∀ i, i < j → Taken zs s (name s i)) ∧ wr.ownsMap Try.prog 9 (plainElem Try.prog 4) w2.heap.size R.length (Sn zs s R) ∧ Below w2.heap.size w2 wr)
              (fun q _ => C - (intOf q).toNat)
            case atStart => exact ⟨0, Nat.zero_le _, rfl, fun i hi => by omega, hmap, hbx⟩
            case round =>
              clear hmap hbx
              obtain ⟨j, hj, rfl, hbefore, hmap, hbx⟩ := hrel
              have HBf : Hid (∀ i, i < j → Taken zs s (name s i)) := hbefore
              clear hbefore
              obtain ⟨w4, rfl⟩ : ∃ w4 : World, w4 = wr := ⟨_, rfl⟩
              have hsz : j ≤ Maps.size (Sn zs s R) := by
                have h := size_names HB.out s j (by rw [← HC.out]; exact hj) HBf.out
                rw [HL.out, ← HRR.out] at h
                exact h
              have hszle := hmap.size_le
              have hlen := fun ty => hmap.len Try.underlying32 ty
              have hjC' : j ≤ 65536 := by omega
              by_cases hjC : j < C
              · have hmk := run_make_row' (P := Try.prog) 22 5 (.int .u8 0) 1 Try.underlying22 Try.info5 rfl .i64 .i64 s (by omega) (by omega)
                generalize hD : Maps.size (Sn zs s R) = D at *
                clear hD
                go_wp2
                go_loopw [14, 15] (fun kk nn wr => ∃ m d : Nat, m ≤ s ∧ kk = .int .i64 ((m : Int) - 1) ∧ nn = .int .i64 d ∧ d ≤ 65536 ∧ d = j / 27 ^ (s - m) ∧ wr.rowIs w4.heap.size 5 s (fun i => .int .u8 (if i < m then 0 else (name s j).getD i 0)) ∧ Below w4.heap.size w4 wr)
                  (fun kk _ _ => (intOf kk + 1).toNat)
                case atStart => exact ⟨s, j, Nat.le_refl _, rfl, rfl, hjC', by simp, (World.rowIs_made _ _ _ _).congr (fun i hi => by rw [if_pos hi]), (Below.refl _ _).alloc (Nat.le_refl _) _⟩
                case round =>
                  obtain ⟨m, d, hm, rfl, rfl, hd, hdj, hrow, hby⟩ := hrel
                  have HD : Hid (d = j / 27 ^ (s - m)) := hdj
                  clear hdj
                  cases m with
                  | zero =>
                    have hsize4 := hbx.size
                    have hconv := fun c' => run_convert_bytes_arg (P := Try.prog) wr 22 5 Try.underlying22 Try.underlying5 w4.heap.size 0 s c' (name s j) (name_length s j) (fun i hi => by
                      rw [Nat.zero_add, hrow.cell hi, if_neg (Nat.not_lt_zero _)]) 9 Try.underlying9
                    have hkey := key_of (name s j) (by rw [name_length]; omega)
                    have hmapr : wr.ownsMap Try.prog 9 (plainElem Try.prog 4) w2.heap.size R.length (Sn zs s R) := by
                      obtain ⟨es, clock, h1, h2⟩ := hmap
                      exact ⟨es, clock, (hby.block _ (by have := World.ownsMap.lt ⟨es, clock, h1, h2⟩; exact this)).trans h1, h2⟩
                    have hbz : Below w2.heap.size w2 wr := hbx.trans (hby.mono hsize4)
                    rw [show (((0 : Nat) : Int) - 1) = -1 from rfl]
                    by_cases htk : Taken zs s (name s j)
                    · have hat : Hid ((Sn zs s R).atKey (key (name s j)) (.lit (.bool false)) = .lit (.bool true)) := by
                        have h := at_taken HB.out s (name s j) (name_bytes s j) htk
                        rw [HL.out, ← HRR.out] at h
                        exact h
                      have HT : Hid (Taken zs s (name s j)) := htk
                      clear htk hrow hmap
                      go_wp2_with (at_lookup; go_must (refine wpList_lookup_own_bool _ rfl _ _ 32 rfl 9 4 law9 Try.underlying32 Try.underlying4 (zero4 _) w2.heap.size R.length _ rfl hmapr _ _ rfl hkey true hat.out ?_))
                      go_roundw
                      case rel => exact ⟨j + 1, by omega, by go_num, fun i hi => by
                        by_cases e : i = j
                        · subst e; exact HT.out
                        · exact HBf.out i (by omega), hmapr, hbz⟩
                      case measure => simp [intOf]; omega
                    · have hat : Hid ((Sn zs s R).atKey (key (name s j)) (.lit (.bool false)) = .lit (.bool false)) := by
                        have h := at_free HB.out s (name s j) (name_bytes s j) htk
                        rw [HL.out, ← HRR.out] at h
                        exact h
                      have HT : Hid (¬ Taken zs s (name s j)) := htk
                      clear htk hrow hmap
                      go_wp2_with (at_lookup; go_must (refine wpList_lookup_own_bool _ rfl _ _ 32 rfl 9 4 law9 Try.underlying32 Try.underlying4 (zero4 _) w2.heap.size R.length _ rfl hmapr _ _ rfl hkey false hat.out ?_))
                      go_ret
                      exact ⟨s, j, rfl, ⟨hs1, hs4, by rw [← HC.out]; exact hjC, HT.out, HBf.out, HP.out⟩, hnx.trans ((hbw.trans (hbz.mono hbw.size)).mono hnx.size)⟩
                  | succ m =>
                    rw [show (((m + 1 : Nat) : Int) - 1) = (m : Int) from by omega]
                    have hcl := hrow.cell (i := m) (by omega)
                    have hfz := hrow.frozen m
                    go_wp2
                    go_roundw
                    case rel =>
                      exact ⟨m, d / 27, by omega, by go_num, by go_num, by omega, digit_step hm HD.out, (hrow.set m _).congr (fun i hi => digit_cell hm HD.out (letters_at _ (by omega) _)), hby.setCell (Nat.le_refl _) _⟩
                    case measure => simp [intOf]
              · obtain rfl : C = j := by omega
                obtain ⟨hs3, hC3⟩ := pow27 HC.out hs4 hjC'
                go_wp2
                go_roundw
                case rel => exact ⟨s + 1, C * 27, by omega, by omega, by omega, by go_num, by go_num, by rw [HC.out, Nat.pow_succ], fun _ i hi => HBf.out i (by rw [HC.out]; exact hi), hbw.trans (hbx.mono hbw.size)⟩
                case measure => simp [intOf]; omega

end Go.Proofs.Qxb6000711a
