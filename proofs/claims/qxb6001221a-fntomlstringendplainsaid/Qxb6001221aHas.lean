/-
  Seat b6001221a: strings.HasPrefix (14, 20) at three bytes of one kind.
-/
import Derived.Test.Qxb6001221aBase
namespace Go.Proofs.Qxb6001221a
open Go.RowKit

/-- three bytes q -/
def three (q : UInt8) : ByteArray := ⟨#[q, q, q]⟩
theorem three_size (q : UInt8) : (three q).size = 3 := rfl

/-- the string opens with three bytes q -/
def hasB (s : ByteArray) (q : UInt8) : Bool := decide (3 ≤ s.size ∧ tb s 0 = q.toNat ∧ tb s 1 = q.toNat ∧ tb s 2 = q.toNat)

theorem byte_eq (a b : UInt8) : a = b ↔ a.toNat = b.toNat := ⟨fun h => by rw [h], fun h => UInt8.toNat_inj.1 h⟩

theorem take3 (l : List UInt8) (q : UInt8) (h : 3 ≤ l.length) : (l.take 3 == [q, q, q]) = decide ((l.getD 0 0).toNat = q.toNat ∧ (l.getD 1 0).toNat = q.toNat ∧ (l.getD 2 0).toNat = q.toNat) := by
  match l, h with
  | a :: b :: c :: r, _ =>
    rw [Bool.eq_iff_iff]
    simp [byte_eq]

theorem toList_take3 (s : ByteArray) (q : UInt8) (h : 3 ≤ s.size) : ((s.extract 0 3).toList == (three q).toList) = hasB s q := by
  have e1 : (s.extract 0 3).toList = s.data.toList.take 3 := by
    rw [ByteArray.toList_eq, ByteArray.data_extract]
    simp
  have e2 : (three q).toList = [q, q, q] := by rw [ByteArray.toList_eq]; rfl
  rw [e1, e2, take3 _ q (by simpa using h)]
  unfold hasB tb
  simp [h]

theorem hasB_short {s : ByteArray} (q : UInt8) (h : s.size < 3) : hasB s q = false := decide_eq_false (by omega)

theorem slite_any (s : ByteArray) (q : UInt8) (w : World) (hn : s.size ≤ 1048576) :
    Calls Try.prog 20 #[.string s, .string (three q)] w fun e w' => e = .returned (.bool (hasB s q)) ∧ w = w' := by
  have h3 := three_size q
  by_cases h : 3 ≤ s.size
  · have HE : Hid (((s.extract 0 3).toList == (three q).toList) = hasB s q) := toList_take3 s q h
    generalize three q = t at *
    go_enter Try.func20, Try.ntmps20
    go_wp2
    go_ret
    exact ⟨ret_bool HE.out, rfl⟩
  · have hlt : s.size < 3 := by omega
    have HE : Hid (hasB s q = false) := hasB_short q hlt
    generalize three q = t at *
    clear h
    go_enter Try.func20, Try.ntmps20
    go_wp2
    go_ret
    exact ⟨ret_bool HE.out.symm, rfl⟩

theorem has_any (s : ByteArray) (q : UInt8) (w : World) (hn : s.size ≤ 1048576) :
    Calls Try.prog 14 #[.string s, .string (three q)] w fun e w' => e = .returned (.bool (hasB s q)) ∧ w = w' := by
  go_enter Try.func14, Try.ntmps14
  go_wp2_with fail
  refine (slite_any s q w hn).mono ?_
  rintro e w' ⟨rfl, rfl⟩
  go_wp2_with fail
  go_ret
  exact ⟨rfl, rfl⟩

/-- byte k of a tail -/
theorem tb_tail (T : ByteArray) (i k : Nat) (h : i + k < T.size) : tb (T.extract i T.size) k = tb T (i + k) := by
  unfold tb
  rw [ByteArray.data_extract, Array.toList_extract]
  have hl : T.data.toList.length = T.size := by simp
  simp only [List.getD_eq_getElem?_getD, List.extract_eq_take_drop, List.getElem?_take, List.getElem?_drop]
  rw [if_pos (by omega)]
theorem tail_size (T : ByteArray) (i : Nat) (h : i ≤ T.size) : (T.extract i T.size).size = T.size - i := by
  rw [ByteArray.size_extract]
  omega

theorem has_yes {T : ByteArray} {i : Nat} {q : UInt8} (h : i + 3 ≤ T.size) (h0 : tb T i = q.toNat) (h1 : tb T (i + 1) = q.toNat) (h2 : tb T (i + 2) = q.toNat) : hasB (T.extract i T.size) q = true := by
  unfold hasB
  rw [tail_size T i (by omega), tb_tail T i 0 (by omega), tb_tail T i 1 (by omega), tb_tail T i 2 (by omega)]
  exact decide_eq_true ⟨by omega, h0, h1, h2⟩
theorem has_no0 {T : ByteArray} {i : Nat} {q : UInt8} (h : i < T.size) (h0 : tb T i ≠ q.toNat) : hasB (T.extract i T.size) q = false := by
  unfold hasB
  rw [tb_tail T i 0 (by omega)]
  exact decide_eq_false (fun hh => h0 hh.2.1)
theorem has_no1 {T : ByteArray} {i : Nat} {q : UInt8} (h : i + 1 < T.size) (h1 : tb T (i + 1) ≠ q.toNat) : hasB (T.extract i T.size) q = false := by
  unfold hasB
  rw [tb_tail T i 1 h]
  exact decide_eq_false (fun hh => h1 hh.2.2.1)

end Go.Proofs.Qxb6001221a
