/-
  Seat b6000711a: standInPrefix of no bytes; its alias (8); what 'taken' means for anchoredWith; cloneBytes at whatever slice that is not nil.
-/
import Derived.Test.Qxb6000711aStand
import Derived.Test.Qxb6000711aAnch
namespace Go.Proofs.Qxb6000711a
open Go.RowKit Go.Maps

theorem map_empty_look (w : World) (b : Nat) (h : w.heap[b]? = some (.map #[] 0)) : w.ownsMap (H := Unit) Try.prog 9 (plainElem Try.prog 4) b 0 (.map []) :=
  ⟨#[], 0, h, ⟨by simp, MapKept.stamped_empty 0, by simp⟩, Nat.le_refl _, rfl⟩

theorem cell_second (w : World) (o : Obj) (x : Value) (t : TypeId) : ((w.alloc o).alloc (.cells #[x] t)).cell? ⟨w.heap.size + 1, 0, none⟩ = some x := by
  have h := (World.rowIs_alloc (w.alloc o) #[x] t (fun _ => x) (fun i hi => by
    obtain rfl : i = 0 := by simp at hi; omega
    rfl)).cell (i := 0) (by simp)
  rw [World.size_alloc] at h
  exact h

set_option maxHeartbeats 1000000 in
set_option maxRecDepth 100000 in
theorem standIn_empty (ao : Option Addr) (cap : Nat) (w : World) :
    Calls Try.prog 16 #[.slice ao 0 cap] w fun e w' => e = .returned (.string ⟨#[95]⟩) ∧ Below w.heap.size w w' := by
  have hmm := @run_makeMap Try.prog
  have hmk : ∀ w, (Instr.makeSlice 22 (.int .i64 1) (.int .i64 1)).run Try.prog w = .ok (.slice (some ⟨w.heap.size, 0, none⟩) 1 1) (w.alloc (.cells #[.int .u8 0] 5)) := fun _ => by kernel_rfl
  go_enter Try.func16, Try.ntmps16
  go_wp2
  refine wp_loop_rounds 1 ?_
  rw [rounds_succ]
  go_wp2
  refine wp_loop_rounds 1 ?_
  rw [rounds_succ]
  go_wp2
  refine wp_loop_rounds 1 ?_
  rw [rounds_succ]
  go_wp2
  have hl0 : (((({ data := #[95, 97, 98, 99, 100, 101, 102, 103, 104, 105, 106, 107, 108, 109, 110, 111, 112, 113, 114, 115, 116, 117, 118, 119, 120, 121, 122] } : ByteArray)[0]'(by decide)).toNat : Nat) : Int) = 95 := rfl
  have hmap := World.ownsMap_made (H := Unit) w Try.prog 9 (plainElem Try.prog 4)
  have hlen := fun ty => hmap.len Try.underlying32 ty
  rw [show ((Maps.size (DataW.map [] : DataW Unit) : Nat) : Int) = 0 from rfl] at hlen
  refine wp_loop_rounds 1 ?_
  rw [rounds_succ]
  go_wp2
  refine wp_loop_rounds 2 ?_
  rw [rounds_succ]
  go_wp2
  rw [rounds_succ]
  have hmap2 := hmap.alloc (.cells #[.int .u8 95] 5)
  have hconv := fun c' => run_convert_bytes_arg (P := Try.prog) ((w.alloc (.map #[] 0)).alloc (.cells #[.int .u8 95] 5)) 22 5 Try.underlying22 Try.underlying5 (w.heap.size + 1) 0 1 c' [95] rfl (fun i hi => by
    obtain rfl : i = 0 := by omega
    exact cell_second _ _ _ _) 9 Try.underlying9
  have hkey := key_of [95] (by simp)
  go_wp2_with (at_lookup; go_must (refine wpList_lookup_own_bool _ rfl _ _ 32 rfl 9 4 law9 Try.underlying32 Try.underlying4 (zero4 _) w.heap.size 0 _ rfl hmap2 _ _ rfl hkey false rfl ?_))
  go_ret
  exact ⟨rfl, ((Below.refl _ _).alloc (Nat.le_refl _) _).alloc (by simp) _⟩

theorem zz_any (g n : Nat) (zs : List Int) (w : World) (hn : zs.length = n) (hn2 : n ≤ 65536) (hb : ∀ c ∈ zs, 0 ≤ c ∧ c ≤ 255) (hg : g < w.heap.size) (ht : Txt w g n zs) :
    Calls Try.prog 8 #[.slice (some ⟨g, 0, none⟩) n n] w fun e w' => ∃ s j, e = .returned (.string (strOfNums (name s j))) ∧ Good zs s j ∧ Below w.heap.size w w' := by
  go_enter Try.func8, Try.ntmps8
  go_wp2_with fail
  refine (standIn_any g n zs w hn hn2 hb hg ht).mono ?_
  rintro e w' ⟨s, j, rfl, hgood, hbel⟩
  go_wp2_with fail
  go_ret
  exact ⟨s, j, rfl, hgood, hbel⟩

theorem zz_empty (ao : Option Addr) (cap : Nat) (w : World) :
    Calls Try.prog 8 #[.slice ao 0 cap] w fun e w' => e = .returned (.string ⟨#[95]⟩) ∧ Below w.heap.size w w' := by
  go_enter Try.func8, Try.ntmps8
  go_wp2_with fail
  refine (standIn_empty ao cap w).mono ?_
  rintro e w' ⟨rfl, hbel⟩
  go_wp2_with fail
  go_ret
  exact ⟨rfl, hbel⟩

/-! ### taken, and anchored -/
theorem span_ge (zs : List Int) (i s : Nat) (h : ∀ k, k < s → i + k < zs.length ∧ anchB (zs.getD (i + k) 0) = true) : s ≤ span zs i := by
  have : ∀ m, m ≤ s → m ≤ span zs i := by
    intro m
    induction m with
    | zero => intro _; exact Nat.zero_le _
    | succ m ih =>
      intro hm
      have h1 := ih (by omega)
      exact (span_step zs i m h1).2 (h m (by omega))
  exact this s (Nat.le_refl _)

theorem str_at (x : List Int) (hx : ∀ c ∈ x, 0 ≤ c ∧ c ≤ 255) (k : Nat) (h : k < (strOfNums x).size) : ((strOfNums x)[k].toNat : Int) = x.getD k 0 := by
  have hk : k < x.length := by rwa [strOfNums_size] at h
  have e : (strOfNums x)[k] = UInt8.ofNat (x[k]).toNat := by
    show (strOfNums x).data[k]'_ = _
    simp [strOfNums]
  have hb := hx x[k] (List.getElem_mem hk)
  rw [e, List.getD_eq_getElem?_getD, List.getElem?_eq_getElem hk]
  simp only [UInt8.toNat_ofNat', Option.getD_some]
  omega

theorem taken_iff (zs : List Int) (s j : Nat) : Taken zs s (name s j) ↔ Anch zs zs.length (strOfNums (name s j)) := by
  constructor
  · rintro ⟨r, hr, hl, he⟩
    obtain ⟨i, hi, ha, rfl⟩ := (mem_runsTo zs r _).1 hr
    simp only at hl he
    have hsp := span_le zs (i + 1)
    refine ⟨i, hi, by simpa [ampB] using ha, ?_, fun k hk => ?_⟩
    · rw [strOfNums_size, name_length]
      have : 0 < s ∨ s = 0 := by omega
      rcases this with h | h <;> omega
    · rw [str_at _ (name_bytes s j) k hk, ← he]
      have hk' : k < s := by rw [strOfNums_size, name_length] at hk; exact hk
      rw [bit_getD hk']
  · rintro ⟨i, hi, ha, hl, he⟩
    rw [strOfNums_size, name_length] at hl
    have hk : ∀ k, k < s → zs.getD (i + 1 + k) 0 = (name s j).getD k 0 := fun k hk => by
      have hk' : k < (strOfNums (name s j)).size := by rw [strOfNums_size, name_length]; exact hk
      rw [he k hk', str_at _ (name_bytes s j) k hk']
    refine ⟨(i + 1, span zs (i + 1)), (mem_runsTo zs _ _).2 ⟨i, hi, by simpa [ampB] using ha, rfl⟩, ?_, ?_⟩
    · refine span_ge zs (i + 1) s (fun k hks => ⟨by omega, ?_⟩)
      rw [hk k hks]
      have hm : (name s j).getD k 0 ∈ name s j := by
        rw [List.getD_eq_getElem?_getD, List.getElem?_eq_getElem (by rw [name_length]; exact hks)]
        exact List.getElem_mem _
      have := name_mem s j _ hm
      unfold anchB
      exact decide_eq_true (by omega)
    · apply List.ext_getElem?
      intro k
      by_cases hks : k < s
      · have h1 : (bit zs (i + 1) s).getD k 0 = (name s j).getD k 0 := by rw [bit_getD hks, hk k hks]
        have l1 : k < (bit zs (i + 1) s).length := by rw [bit_length (by omega)]; exact hks
        have l2 : k < (name s j).length := by rw [name_length]; exact hks
        rw [List.getD_eq_getElem?_getD, List.getD_eq_getElem?_getD, List.getElem?_eq_getElem l1, List.getElem?_eq_getElem l2] at h1
        rw [List.getElem?_eq_getElem l1, List.getElem?_eq_getElem l2]
        simpa using h1
      · rw [List.getElem?_eq_none (by rw [bit_length (by omega)]; omega), List.getElem?_eq_none (by rw [name_length]; omega)]

/-- cloneBytes, whatever the slice that is not nil -/
theorem clone_some (x : Addr) (len cap : Nat) (zs : List Int) (w : World) (hn : len ≤ 1048576) (hz : len ≤ zs.length)
    (hc : ∀ i, i < zs.length → w.cell? (x.add i) = some (.int .u8 (zs.getD i 0))) :
    Calls Try.prog 7 #[.slice (some x) len cap] w fun e w' => e = .returned (.slice (some ⟨w.heap.size, 0, none⟩) len len) ∧ Txt w' w.heap.size len (zs.take len) ∧ Below w.heap.size w w' := by
  by_cases h0 : len = 0
  · subst h0
    exact (clone_empty x cap w).mono fun _ _ ⟨h1, h2, h3⟩ => ⟨h1, by simpa using h2, h3⟩
  · obtain ⟨b, off, spot⟩ := x
    have hspot : spot = none := by simpa [Addr.add] using World.cell?_spot (hc 0 (by omega))
    subst hspot
    have hc' : ∀ j, j < len → w.cell? ⟨b, off + j, none⟩ = some (.int .u8 ((zs.take len).getD j 0)) := fun j hj => by
      have h := hc j (by omega)
      rw [Addr.add_lit] at h
      rw [h]
      simp [hj]
    have hbl : b < w.heap.size := World.block_lt_of_cell? w ⟨b, off + 0, none⟩ (hc' 0 (by omega))
    exact clone_any b off len cap (zs.take len) w hn hbl hc'

end Go.Proofs.Qxb6000711a
