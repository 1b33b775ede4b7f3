/-
  Seat b6000711a: isAnchorByte (18), cloneBytes (7).
-/
import Derived.Test.Qxb6000711aBase
import Derived.Deep.OwnRows
namespace Go.Proofs.Qxb6000711a
open Go.RowKit

theorem Try.info5 : (Try.prog.info? 5).map (fun i => (i.zero, i.size, i.bytes)) = some (some (.int .u8 0), 1, 1) := by kernel_rfl

set_option maxHeartbeats 1000000 in
theorem anch_any (c : Int) (w : World) :
    Calls Try.prog 18 #[.int .u8 c] w fun e w' => e = .returned (.bool (anchB c)) ∧ w' = w := by
  by_cases h1 : 97 ≤ c ∧ c ≤ 122
  · obtain ⟨h1, h2⟩ := h1
    go_enter Try.func18, Try.ntmps18
    go_wp2
    go_ret
    exact ⟨ret_bool (by simp [anchB]; omega), rfl⟩
  by_cases h2 : 65 ≤ c ∧ c ≤ 90
  · obtain ⟨h2, h3⟩ := h2
    go_enter Try.func18, Try.ntmps18
    go_wp2
    all_goals (go_ret; exact ⟨ret_bool (by simp [anchB]; omega), rfl⟩)
  by_cases h3 : 48 ≤ c ∧ c ≤ 57
  · obtain ⟨h3, h4⟩ := h3
    go_enter Try.func18, Try.ntmps18
    go_wp2
    all_goals (go_ret; exact ⟨ret_bool (by simp [anchB]; omega), rfl⟩)
  by_cases h4 : c = 95
  · subst h4
    go_enter Try.func18, Try.ntmps18
    go_wp2
    all_goals (go_ret; exact ⟨ret_bool (by simp [anchB]), rfl⟩)
  by_cases h5 : c = 45
  · subst h5
    go_enter Try.func18, Try.ntmps18
    go_wp2
    all_goals (go_ret; exact ⟨ret_bool (by simp [anchB]), rfl⟩)
  have e4 : (c == 95) = false := by simpa using h4
  have e5 : (c == 45) = false := by simpa using h5
  go_enter Try.func18, Try.ntmps18
  go_wp2
  all_goals (go_ret; exact ⟨ret_bool (by rw [Bool.eq_iff_iff]; simp [anchB]; omega), rfl⟩)

/-- block g is a row of the call's own that holds the bytes zs. -/
def Txt (w : World) (g : Nat) (n : Nat) (zs : List Int) : Prop := w.rowIs g 5 n (fun j => .int .u8 (zs.getD j 0))

theorem Txt.mono {w w' : World} {g n : Nat} {zs : List Int} (h : Txt w g n zs) {B : Nat} (hb : Below B w w') (hg : g < B) : Txt w' g n zs :=
  World.rowIs.of_block h (hb.block g hg)

theorem clone_nil (w : World) : Calls Try.prog 7 #[.slice none 0 0] w fun e w' => e = .returned (.slice none 0 0) ∧ w' = w := by
  have hnil := fun wx a l c => Lib.run_eql_slice_nil (P := Try.prog) wx 22 5 a l c 0 0 Try.underlying22
  go_enter Try.func7, Try.ntmps7
  go_wp2
  go_ret
  exact ⟨rfl, rfl⟩

theorem clone_empty (x : Addr) (cap : Nat) (w : World) : Calls Try.prog 7 #[.slice (some x) 0 cap] w fun e w' => e = .returned (.slice (some ⟨w.heap.size, 0, none⟩) 0 0) ∧ Txt w' w.heap.size 0 [] ∧ Below w.heap.size w w' := by
  have hnil := fun wx a l c => Lib.run_eql_slice_nil (P := Try.prog) wx 22 5 a l c 0 0 Try.underlying22
  have hmk := run_make_row' (P := Try.prog) 22 5 (.int .u8 0) 1 Try.underlying22 Try.info5 rfl .i64 .i64 0 (by omega) (by omega)
  simp only [Int.natCast_zero] at hmk
  go_enter Try.func7, Try.ntmps7
  go_wp2
  refine wp_loop_rounds 1 ?_
  rw [rounds_succ]
  go_wp2
  go_ret
  exact ⟨rfl, (World.rowIs_made _ _ _ _).congr (fun i hi => by omega), (Below.refl _ _).alloc (Nat.le_refl _) _⟩

set_option maxHeartbeats 1000000 in
theorem clone_any (b off n cap : Nat) (zs : List Int) (w : World) (hn : n ≤ 1048576) (hb : b < w.heap.size)
    (hc : ∀ j, j < n → w.cell? ⟨b, off + j, none⟩ = some (.int .u8 (zs.getD j 0))) :
    Calls Try.prog 7 #[.slice (some ⟨b, off, none⟩) n cap] w fun e w' => e = .returned (.slice (some ⟨w.heap.size, 0, none⟩) n n) ∧ Txt w' w.heap.size n zs ∧ Below w.heap.size w w' := by
  have hnil := fun wx a l c => Lib.run_eql_slice_nil (P := Try.prog) wx 22 5 a l c 0 0 Try.underlying22
  have hmk := run_make_row' (P := Try.prog) 22 5 (.int .u8 0) 1 Try.underlying22 Try.info5 rfl .i64 .i64 n (by omega) (by omega)
  go_enter Try.func7, Try.ntmps7
  go_wp2
  go_loopw [4] (fun i wr => ∃ k : Nat, k ≤ n ∧ i = .int .i64 k ∧ wr.rowIs w.heap.size 5 n (fun j => .int .u8 (if j < k then zs.getD j 0 else 0)) ∧ Below w.heap.size w wr)
    (fun i _ => n - (intOf i).toNat)
  case atStart => exact ⟨0, Nat.zero_le _, rfl, (World.rowIs_made _ _ _ _).congr (fun i hi => by simp), (Below.refl _ _).alloc (Nat.le_refl _) _⟩
  case round =>
    obtain ⟨k, hk, rfl, hrow, hbel⟩ := hrel
    by_cases hlt : k < n
    · have hcx : wr.cell? ⟨b, off + k, none⟩ = some (.int .u8 (zs.getD k 0)) := (hbel.cell (p := ⟨b, off + k, none⟩) hb).trans (hc k hlt)
      have hcy := hrow.cell hlt
      have hfz := hrow.frozen k
      go_wp2
      go_roundw
      case rel =>
        refine ⟨k + 1, by omega, by go_num, (hrow.set k _).congr (fun j hj => ?_), hbel.setCell (Nat.le_refl _) _⟩
        by_cases e : j = k
        · subst e; simp
        · rw [if_neg e]
          by_cases e2 : j < k
          · rw [if_pos e2, if_pos (by omega)]
          · rw [if_neg e2, if_neg (by omega)]
      case measure => simp [intOf]; omega
    · have : k = n := by omega
      subst this
      go_wp2
      go_ret
      exact ⟨rfl, hrow.congr (fun j hj => by rw [if_pos hj]), hbel⟩

end Go.Proofs.Qxb6000711a
