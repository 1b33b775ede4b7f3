/-
  Seat b6000849a: THE SMALL CALLEES: zzBytes (8, 13), zzLeadLen (20), zzCopyBytes (10).
-/
import Derived.Test.Qxb6000849aRows
import Derived.Test.Qxb6000849aPlain2
import Derived.WalkKit
import Derived.WalkSpells
import Derived.Below
import Derived.Deep.OwnRows
namespace Go.Proofs.Qxb6000849a
open Go.RowKit

theorem Try.info5 : (Try.prog.info? 5).map (fun i => (i.zero, i.size, i.bytes)) = some (some (.int .u8 0), 1, 1) := by kernel_rfl
theorem ret_bool {a b : Bool} (h : a = b) : Ending.returned (.bool a) = .returned (.bool b) := by rw [h]
theorem ret_int {k : IntKind} {a b : Int} (h : a = b) : Ending.returned (.int k a) = .returned (.int k b) := by rw [h]

theorem bytes3 (ao : Option Addr) (n c : Nat) (w : World) (hn : n ≤ 1048576) :
    Calls Try.prog 8 #[.slice ao n c] w fun e w' => e = .returned (.bool true) ∧ w = w' := by
  go_enter Try.func8, Try.ntmps8
  go_wp2
  go_ret
  exact ⟨rfl, rfl⟩
theorem bytes3_no (ao : Option Addr) (n c : Nat) (w : World) (hn : 1048576 < n) :
    Calls Try.prog 8 #[.slice ao n c] w fun e w' => e = .returned (.bool false) ∧ w = w' := by
  go_enter Try.func8, Try.ntmps8
  go_wp2
  go_ret
  exact ⟨rfl, rfl⟩
theorem bytes4 (ao : Option Addr) (n c : Nat) (w : World) (hn : n ≤ 1048576) :
    Calls Try.prog 13 #[.slice ao n c] w fun e w' => e = .returned (.bool true) ∧ w = w' := by
  go_enter Try.func13, Try.ntmps13
  go_wp2
  go_ret
  exact ⟨rfl, rfl⟩
theorem bytes4_no (ao : Option Addr) (n c : Nat) (w : World) (hn : 1048576 < n) :
    Calls Try.prog 13 #[.slice ao n c] w fun e w' => e = .returned (.bool false) ∧ w = w' := by
  go_enter Try.func13, Try.ntmps13
  go_wp2
  go_ret
  exact ⟨rfl, rfl⟩

/-! ### bits of a byte -/
theorem and_dec (m t : Nat) (hm : m < 256) (p : Nat → Bool) (h : ∀ n : Fin 256, ((n.val &&& m) == t) = p n.val) (b : Int) (h0 : 0 ≤ b) (h1 : b ≤ 255) : (bits .and .u8 b (m : Int) == (t : Int)) = p b.toNat := by
  obtain ⟨n, rfl⟩ := Int.eq_ofNat_of_zero_le h0
  rw [u8_and_nat n m (by omega) hm]
  have := h ⟨n, by omega⟩
  simp only [Int.toNat_natCast] at this ⊢
  rw [← this, Bool.eq_iff_iff]
  simp
  omega

theorem and224 (b : Int) (h0 : 0 ≤ b) (h1 : b ≤ 255) : (bits .and .u8 b 224 == 192) = decide (192 ≤ b ∧ b ≤ 223) := by
  have := and_dec 224 192 (by omega) (fun n => decide (192 ≤ n ∧ n ≤ 223)) (by decide +kernel) b h0 h1
  rw [show ((224 : Nat) : Int) = 224 from rfl, show ((192 : Nat) : Int) = 192 from rfl] at this
  rw [this]
  simp only [decide_eq_decide]
  omega
theorem and240 (b : Int) (h0 : 0 ≤ b) (h1 : b ≤ 255) : (bits .and .u8 b 240 == 224) = decide (224 ≤ b ∧ b ≤ 239) := by
  have := and_dec 240 224 (by omega) (fun n => decide (224 ≤ n ∧ n ≤ 239)) (by decide +kernel) b h0 h1
  rw [show ((240 : Nat) : Int) = 240 from rfl, show ((224 : Nat) : Int) = 224 from rfl] at this
  rw [this]
  simp only [decide_eq_decide]
  omega
theorem and248 (b : Int) (h0 : 0 ≤ b) (h1 : b ≤ 255) : (bits .and .u8 b 248 == 240) = decide (240 ≤ b ∧ b ≤ 247) := by
  have := and_dec 248 240 (by omega) (fun n => decide (240 ≤ n ∧ n ≤ 247)) (by decide +kernel) b h0 h1
  rw [show ((248 : Nat) : Int) = 248 from rfl, show ((240 : Nat) : Int) = 240 from rfl] at this
  rw [this]
  simp only [decide_eq_decide]
  omega
theorem and192 (b : Int) (h0 : 0 ≤ b) (h1 : b ≤ 255) : (bits .and .u8 b 192 != 128) = !cont b := by
  have := and_dec 192 128 (by omega) (fun n => decide (128 ≤ n ∧ n ≤ 191)) (by decide +kernel) b h0 h1
  rw [show ((192 : Nat) : Int) = 192 from rfl, show ((128 : Nat) : Int) = 128 from rfl] at this
  rw [bne, this]
  unfold cont
  congr 1
  simp only [decide_eq_decide]
  omega

theorem lead_any (b : Int) (w : World) (h0 : 0 ≤ b) (h1 : b ≤ 255) :
    Calls Try.prog 20 #[.int .u8 b] w fun e w' => e = .returned (.int .i64 (LL b)) ∧ w = w' := by
  have a1 := and224 b h0 h1
  have a2 := and240 b h0 h1
  have a3 := and248 b h0 h1
  rcases (show b < 192 ∨ (192 ≤ b ∧ b ≤ 223) ∨ (224 ≤ b ∧ b ≤ 239) ∨ (240 ≤ b ∧ b ≤ 247) ∨ 247 < b by omega) with h2 | ⟨h2, h3⟩ | ⟨h2, h3⟩ | ⟨h2, h3⟩ | h2
  · rw [decide_eq_false (by omega)] at a1 a2 a3
    go_enter Try.func20, Try.ntmps20
    go_wp2
    go_ret
    exact ⟨ret_int (by rw [ll0 (Or.inl h2)]; rfl), rfl⟩
  · rw [decide_eq_true (by omega)] at a1
    go_enter Try.func20, Try.ntmps20
    go_wp2
    go_ret
    exact ⟨ret_int (by rw [(ll2 h2 h3).1]; rfl), rfl⟩
  · rw [decide_eq_false (by omega)] at a1
    rw [decide_eq_true (by omega)] at a2
    go_enter Try.func20, Try.ntmps20
    go_wp2
    go_ret
    exact ⟨ret_int (by rw [(ll3 h2 h3).1]; rfl), rfl⟩
  · rw [decide_eq_false (by omega)] at a1 a2
    rw [decide_eq_true (by omega)] at a3
    go_enter Try.func20, Try.ntmps20
    go_wp2
    go_ret
    exact ⟨ret_int (by rw [(ll4 h2 h3).1]; rfl), rfl⟩
  · rw [decide_eq_false (by omega)] at a1 a2 a3
    go_enter Try.func20, Try.ntmps20
    go_wp2
    go_ret
    exact ⟨ret_int (by rw [ll0 (Or.inr h2)]; rfl), rfl⟩

/-- the slice's cells hold the bytes zs -/
def At (w : World) (b off : Nat) (zs : List Int) : Prop := ∀ j, j < zs.length → w.cell? ⟨b, off + j, none⟩ = some (.int .u8 (zs.getD j 0))
def Bytes (zs : List Int) : Prop := ∀ c ∈ zs, 0 ≤ c ∧ c ≤ 255

theorem Bytes.getD {zs : List Int} (h : Bytes zs) (j : Nat) : 0 ≤ zs.getD j 0 ∧ zs.getD j 0 ≤ 255 := by
  rw [List.getD_eq_getElem?_getD]
  by_cases hj : j < zs.length
  · rw [List.getElem?_eq_getElem hj]
    exact h _ (List.getElem_mem hj)
  · rw [List.getElem?_eq_none (by omega)]
    simp
theorem Bytes.take {zs : List Int} (h : Bytes zs) (j : Nat) : Bytes (zs.take j) := fun c hc => h c (List.mem_of_mem_take hc)
theorem At.take {w : World} {b off : Nat} {zs : List Int} (h : At w b off zs) (j : Nat) : At w b off (zs.take j) := fun i hi => by
  have hi' : i < zs.length ∧ i < j := by simp at hi; omega
  rw [h i hi'.1]
  simp [hi'.2]

set_option maxHeartbeats 1000000 in
/-- zzCopyBytes of a slice that holds something -/
theorem copy_any (b off cap : Nat) (zs : List Int) (w : World) (hn : zs.length ≤ 1048576) (hp : 0 < zs.length) (hc : At w b off zs) :
    Calls Try.prog 10 #[.slice (some ⟨b, off, none⟩) zs.length cap] w fun e w' => e = .returned (.slice (some ⟨w.heap.size, 0, none⟩) zs.length zs.length) ∧ At w' w.heap.size 0 zs ∧ Below w.heap.size w w' := by
  have hb : b < w.heap.size := World.block_lt_of_cell? w ⟨b, off + 0, none⟩ (hc 0 hp)
  obtain ⟨n, hnn⟩ : ∃ n, n = zs.length := ⟨_, rfl⟩
  have HN : Hid (n = zs.length) := hnn
  have HC : Hid (At w b off zs) := hc
  rw [← hnn] at hn ⊢
  clear hnn hc hp
  have hnil := fun wx a l c => Lib.run_eql_slice_nil (P := Try.prog) wx 22 5 a l c 0 0 Try.underlying22
  have hmk := run_make_row' (P := Try.prog) 22 5 (.int .u8 0) 1 Try.underlying22 Try.info5 rfl .i64 .i64 n (by omega) (by omega)
  go_enter Try.func10, Try.ntmps10
  go_wp2
  go_loopw [4] (fun i wr => ∃ k : Nat, k ≤ n ∧ i = .int .i64 k ∧ wr.rowIs w.heap.size 5 n (fun j => .int .u8 (if j < k then zs.getD j 0 else 0)) ∧ Below w.heap.size w wr)
    (fun i _ => n - (intOf i).toNat)
  case atStart => exact ⟨0, Nat.zero_le _, rfl, (World.rowIs_made _ _ _ _).congr (fun i hi => by simp), (Below.refl _ _).alloc (Nat.le_refl _) _⟩
  case round =>
    obtain ⟨k, hk, rfl, hrow, hbel⟩ := hrel
    by_cases hlt : k < n
    · have hcx : wr.cell? ⟨b, off + k, none⟩ = some (.int .u8 (zs.getD k 0)) := (hbel.cell (p := ⟨b, off + k, none⟩) hb).trans (HC.out k (by rw [← HN.out]; exact hlt))
      have hcy := hrow.cell hlt
      have hfz := hrow.frozen k
      go_wp2
      go_roundw
      case rel =>
        refine ⟨k + 1, by omega, by go_num, (hrow.set k _).congr (fun j hj => ?_), hbel.setCell (Nat.le_refl _) _⟩
        by_cases e : j = k
        · subst e; simp
        · rw [if_neg e]
          by_cases e2 : j < k
          · rw [if_pos e2, if_pos (by omega)]
          · rw [if_neg e2, if_neg (by omega)]
      case measure => simp [intOf]; omega
    · have : k = n := by omega
      subst this
      go_wp2
      go_ret
      refine ⟨rfl, fun j hj => ?_, hbel⟩
      rw [← HN.out] at hj
      rw [Nat.zero_add, hrow.cell hj, if_pos hj]

end Go.Proofs.Qxb6000849a
