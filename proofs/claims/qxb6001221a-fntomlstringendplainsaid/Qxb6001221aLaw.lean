/-
  Seat b6001221a: FnTomlStringEndPlain (5): THE WALK.
-/
import Derived.Test.Qxb6001221aToml
import Derived.Laws.BytesArg
namespace Go.Proofs.Qxb6001221a
open Go.RowKit

theorem bytes_fit (p b r : ByteArray) (d m : Bool) (w : World) (h : p.size + b.size + r.size ≤ 1048576) :
    Calls Try.prog 10 #[.string p, .string b, .string r, .bool d, .bool m] w fun e w' => e = .returned (.bool true) ∧ w = w' := by
  go_enter Try.func10, Try.ntmps10
  go_wp2
  go_ret
  exact ⟨rfl, rfl⟩

theorem bytes_over (p b r : ByteArray) (d m : Bool) (w : World) (h : 1048576 < p.size + b.size + r.size) (h1 : p.size ≤ 9223372036854775807) (h2 : b.size ≤ 9223372036854775807) (h3 : r.size ≤ 9223372036854775807) :
    Calls Try.prog 10 #[.string p, .string b, .string r, .bool d, .bool m] w fun e w' => e = .returned (.bool false) ∧ w = w' := by
  by_cases c1 : 1048576 < p.size
  · go_enter Try.func10, Try.ntmps10
    go_wp2
    go_ret
    exact ⟨rfl, rfl⟩
  by_cases c2 : 1048576 < b.size
  · go_enter Try.func10, Try.ntmps10
    go_wp2
    go_ret
    exact ⟨rfl, rfl⟩
  by_cases c3 : 1048576 < p.size + b.size
  · go_enter Try.func10, Try.ntmps10
    go_wp2
    go_ret
    exact ⟨rfl, rfl⟩
  by_cases c4 : 1048576 < r.size
  · go_enter Try.func10, Try.ntmps10
    go_wp2
    go_ret
    exact ⟨rfl, rfl⟩
  · go_enter Try.func10, Try.ntmps10
    go_wp2
    go_ret
    exact ⟨rfl, rfl⟩

theorem law_long (p b r : ByteArray) (d m : Bool) (w : World) (h : 262144 < p.size ∨ 262144 < b.size ∨ 262144 < r.size) (h1 : p.size ≤ 9223372036854775807) (h2 : b.size ≤ 9223372036854775807) (h3 : r.size ≤ 9223372036854775807) :
    Calls Try.prog 5 #[.string p, .string b, .string r, .bool d, .bool m] w fun e w' => e = .returned (.bool true) ∧ Below w.heap.size w w' := by
  by_cases hs : p.size + b.size + r.size ≤ 1048576
  · by_cases c1 : 262144 < p.size
    · go_enter Try.func5, Try.ntmps5
      go_wp2_with (go_at_call 10; refine (bytes_fit _ _ _ _ _ _ hs).mono ?_; rintro e w' ⟨rfl, rfl⟩)
      go_ret
      exact ⟨rfl, Below.refl _ _⟩
    by_cases c2 : 262144 < b.size
    · go_enter Try.func5, Try.ntmps5
      go_wp2_with (go_at_call 10; refine (bytes_fit _ _ _ _ _ _ hs).mono ?_; rintro e w' ⟨rfl, rfl⟩)
      go_ret
      exact ⟨rfl, Below.refl _ _⟩
    · have c3 : 262144 < r.size := by omega
      go_enter Try.func5, Try.ntmps5
      go_wp2_with (go_at_call 10; refine (bytes_fit _ _ _ _ _ _ hs).mono ?_; rintro e w' ⟨rfl, rfl⟩)
      go_ret
      exact ⟨rfl, Below.refl _ _⟩
  · go_enter Try.func5, Try.ntmps5
    go_wp2_with (go_at_call 10; refine (bytes_over _ _ _ _ _ _ (by omega) h1 h2 h3).mono ?_; rintro e w' ⟨rfl, rfl⟩)
    go_ret
    exact ⟨rfl, Below.refl _ _⟩

/-! ### bytes of joined strings -/
theorem tb_left (A B : ByteArray) (k : Nat) (h : k < A.size) : tb (A ++ B) k = tb A k := by
  unfold tb
  rw [ByteArray.data_append, Array.toList_append, List.getD_eq_getElem?_getD, List.getElem?_append_left (by simpa using h), ← List.getD_eq_getElem?_getD]
theorem tb_right (A B : ByteArray) (k : Nat) : tb (A ++ B) (A.size + k) = tb B k := by
  unfold tb
  rw [ByteArray.data_append, Array.toList_append, List.getD_eq_getElem?_getD, List.getElem?_append_right (by simp)]
  simp [List.getD_eq_getElem?_getD]

theorem tb3 (Q : ByteArray) (q n : Nat) (h : Q.data.toList = List.replicate n (UInt8.ofNat q)) (hq : q < 256) (k : Nat) (hk : k < n) : tb Q k = q := by
  unfold tb
  rw [h, List.getD_eq_getElem?_getD, List.getElem?_replicate, if_pos hk]
  simp only [Option.getD_some, UInt8.toNat_ofNat']
  omega

/-- the bytes of 'p + q + b + q + r', q of n bytes -/
theorem joined (p b r Q : ByteArray) (q n : Nat) (hq : q < 256) (hQ : Q.data.toList = List.replicate n (UInt8.ofNat q)) :
    (p ++ Q ++ b ++ Q ++ r).size = p.size + n + b.size + n + r.size ∧ (∀ k, k < n → tb (p ++ Q ++ b ++ Q ++ r) (p.size + k) = q) ∧ (∀ k, k < b.size → tb (p ++ Q ++ b ++ Q ++ r) (p.size + n + k) = tb b k) ∧
    (∀ k, k < n → tb (p ++ Q ++ b ++ Q ++ r) (p.size + n + b.size + k) = q) ∧ (∀ k, tb (p ++ Q ++ b ++ Q ++ r) (p.size + n + b.size + n + k) = tb r k) := by
  have hn : Q.size = n := by
    have := congrArg List.length hQ
    simpa using this
  have s1 : (p ++ Q).size = p.size + n := by rw [ByteArray.size_append, hn]
  have s2 : (p ++ Q ++ b).size = p.size + n + b.size := by rw [ByteArray.size_append, s1]
  have s3 : (p ++ Q ++ b ++ Q).size = p.size + n + b.size + n := by rw [ByteArray.size_append, s2, hn]
  refine ⟨by rw [ByteArray.size_append, s3], fun k hk => ?_, fun k hk => ?_, fun k hk => ?_, fun k => ?_⟩
  · rw [tb_left _ _ _ (by omega), tb_left _ _ _ (by omega), tb_left _ _ _ (by omega), tb_right, tb3 Q q n hQ hq k hk]
  · rw [tb_left _ _ _ (by omega), tb_left _ _ _ (by omega), ← s1, tb_right]
  · rw [tb_left _ _ _ (by omega), ← s2, tb_right, tb3 Q q n hQ hq k hk]
  · rw [← s3, tb_right]

theorem cells_new (w : World) (cs : Array Value) (i : Nat) (v : Value) (h : cs[i]? = some v) : (w.alloc (.cells cs 5)).cell? ⟨w.heap.size, 0 + i, none⟩ = some v := by
  have e : (w.alloc (.cells cs 5)).heap[w.heap.size]? = some (.cells cs 5) := by
    show (w.heap.push _)[w.heap.size]? = _
    simp
  simp only [World.cell?]
  rw [e]
  simpa using h

/-- what the call of the alias answers: one line -/
theorem zz_one_34 (p b r Q : ByteArray) (w : World) (h1 : p.size ≤ 262144) (h2 : b.size ≤ 262144) (h3 : r.size ≤ 262144) (hQ : Q.data.toList = List.replicate 1 (UInt8.ofNat 34)) (hp : Plain b 34 false) :
    Calls Try.prog 8 #[.string (p ++ Q ++ b ++ Q ++ r), .int .i64 p.size] w fun e w' => e = .returned (.int .i64 ((p.size + b.size + 2 : Nat) : Int)) ∧ Below w.heap.size w w' := by
  obtain ⟨j1, j2, j3, j4, _⟩ := joined p b r Q 34 1 (by omega) hQ
  have hb := hp.1 rfl
  have hc := toml_one_34 (p ++ Q ++ b ++ Q ++ r) p.size b.size w (by omega) (by omega) (by omega) (j2 0 (by omega)) (fun k hk => by rw [j3 k hk]; exact hp.2 k hk) (j4 0 (by omega))
  generalize p ++ Q ++ b ++ Q ++ r = T at *
  clear j1 j2 j3 j4 hp
  have HC : Hid (Calls Try.prog 12 #[.string T, .int .i64 p.size] w fun e w' => e = .returned (.int .i64 ((p.size + b.size + 2 : Nat) : Int)) ∧ Below w.heap.size w w') := hc
  clear hc
  go_enter Try.func8, Try.ntmps8
  go_wp2_with fail
  refine HC.out.mono ?_
  rintro e w1 ⟨rfl, hbel⟩
  go_wp2_with fail
  go_ret
  exact ⟨ret_int (by omega), hbel⟩

/-- .. and of many -/
theorem zz_multi_34 (p b r Q : ByteArray) (w : World) (h1 : p.size ≤ 262144) (h2 : b.size ≤ 262144) (h3 : r.size ≤ 262144) (hQ : Q.data.toList = List.replicate 3 (UInt8.ofNat 34)) (hp : Plain b 34 true) (hr : 0 < r.size → tb r 0 ≠ 34) :
    Calls Try.prog 8 #[.string (p ++ Q ++ b ++ Q ++ r), .int .i64 p.size] w fun e w' => e = .returned (.int .i64 ((p.size + b.size + 6 : Nat) : Int)) ∧ Below w.heap.size w w' := by
  obtain ⟨j1, j2, j3, j4, j5⟩ := joined p b r Q 34 3 (by omega) hQ
  have hc := toml_multi_34 (p ++ Q ++ b ++ Q ++ r) p.size b.size w (by omega) (by omega) (j2 0 (by omega)) (j2 1 (by omega)) (j2 2 (by omega)) (fun k hk => by rw [j3 k hk]; exact hp.2 k hk)
    (j4 0 (by omega)) (by rw [show p.size + 4 + b.size = p.size + 3 + b.size + 1 by omega]; exact j4 1 (by omega)) (by rw [show p.size + 5 + b.size = p.size + 3 + b.size + 2 by omega]; exact j4 2 (by omega))
    (fun h => by rw [show p.size + 6 + b.size = p.size + 3 + b.size + 3 + 0 by omega, j5 0]; exact hr (by omega))
  generalize p ++ Q ++ b ++ Q ++ r = T at *
  clear j1 j2 j3 j4 j5 hp hr
  have HC : Hid (Calls Try.prog 12 #[.string T, .int .i64 p.size] w fun e w' => e = .returned (.int .i64 ((p.size + b.size + 6 : Nat) : Int)) ∧ Below w.heap.size w w') := hc
  clear hc
  go_enter Try.func8, Try.ntmps8
  go_wp2_with fail
  refine HC.out.mono ?_
  rintro e w1 ⟨rfl, hbel⟩
  go_wp2_with fail
  go_ret
  exact ⟨ret_int (by omega), hbel⟩

set_option maxHeartbeats 2000000 in
set_option maxRecDepth 100000 in
theorem law_short_34 (p b r : ByteArray) (m : Bool) (w : World) (h1 : p.size ≤ 262144) (h2 : b.size ≤ 262144) (h3 : r.size ≤ 262144) :
    Calls Try.prog 5 #[.string p, .string b, .string r, .bool true, .bool m] w fun e w' => e = .returned (.bool true) ∧ Below w.heap.size w w' := by
  have d1 : decide ((262144 : Int) < (p.size : Int)) = false := decide_eq_false (by omega)
  have d2 : decide ((262144 : Int) < (b.size : Int)) = false := decide_eq_false (by omega)
  have d3 : decide ((262144 : Int) < (r.size : Int)) = false := decide_eq_false (by omega)
  go_enter Try.func5, Try.ntmps5
  go_wp2_with fail
  refine (bytes_yes _ _ _ _ _ _ h1 h2 h3).mono ?_
  rintro e w' ⟨rfl, rfl⟩
  go_wp2_with fail
  refine (plain_any b 34 m w (Or.inl rfl) h2).mono ?_
  rintro e w' ⟨rfl, rfl⟩
  cases hpl : plainB b 34 m
  · go_wp2_with fail
    go_ret
    exact ⟨rfl, Below.refl _ _⟩
  have HP : Hid (Plain b 34 m) := (plainB_iff b 34 m).1 hpl
  clear hpl
  cases m
  · obtain ⟨Q, hQ⟩ : ∃ Q, Q = strOfNums [34] := ⟨_, rfl⟩
    have hconv := fun c' => run_convert_bytes_arg (P := Try.prog) (w.alloc (.cells #[.int .u8 34] 5)) 28 5 Try.underlying28 Try.underlying5 w.heap.size 0 1 c' [34] rfl (fun i hi => by
      obtain rfl : i = 0 := by omega
      exact cells_new w #[.int .u8 34] 0 _ rfl) 9 Try.underlying9
    rw [← hQ] at hconv
    have hQs : Q.size = 1 := by rw [hQ]; rfl
    have HQ : Hid (Q.data.toList = List.replicate 1 (UInt8.ofNat 34)) := by rw [hQ]; rfl
    clear hQ
    go_wp2_with fail
    refine (zz_one_34 p b r Q _ h1 h2 h3 HQ.out HP.out).mono ?_
    rintro e w1 ⟨rfl, hbel⟩
    rw [Int.natCast_add, Int.natCast_add]
    go_wp2_with fail
    go_ret
    exact ⟨rfl, ((Below.refl _ _).alloc (Nat.le_refl _) _).trans (hbel.mono (by simp))⟩
  · by_cases hr0 : 0 < r.size
    · have hri : (0 : Int) < (r.size : Int) := by omega
      by_cases hr : r[0].toNat = 34
      · have f0 : ((r[0].toNat : Int) == 34) = true := beq_iff_eq.2 (by omega)
        clear hr
        go_wp2_with fail
        go_ret
        exact ⟨rfl, Below.refl _ _⟩
      · have f0 : ((r[0].toNat : Int) == 34) = false := beq_eq_false_iff_ne.2 (by omega)
        have HR : Hid (0 < r.size → tb r 0 ≠ 34) := fun h => by rw [← tb_at r 0 h]; exact hr
        clear hr
        obtain ⟨Q, hQ⟩ : ∃ Q, Q = strOfNums [34, 34, 34] := ⟨_, rfl⟩
        have hconv := fun c' => run_convert_bytes_arg (P := Try.prog) (w.alloc (.cells #[.int .u8 34, .int .u8 34, .int .u8 34] 5)) 28 5 Try.underlying28 Try.underlying5 w.heap.size 0 3 c' [34, 34, 34] rfl (fun i hi => by
          rcases (show i = 0 ∨ i = 1 ∨ i = 2 by omega) with rfl | rfl | rfl
          · exact cells_new w #[.int .u8 34, .int .u8 34, .int .u8 34] 0 _ rfl
          · exact cells_new w #[.int .u8 34, .int .u8 34, .int .u8 34] 1 _ rfl
          · exact cells_new w #[.int .u8 34, .int .u8 34, .int .u8 34] 2 _ rfl) 9 Try.underlying9
        rw [← hQ] at hconv
        have hQs : Q.size = 3 := by rw [hQ]; rfl
        have HQ : Hid (Q.data.toList = List.replicate 3 (UInt8.ofNat 34)) := by rw [hQ]; rfl
        clear hQ
        go_wp2_with fail
        refine (zz_multi_34 p b r Q _ h1 h2 h3 HQ.out HP.out HR.out).mono ?_
        rintro e w1 ⟨rfl, hbel⟩
        rw [Int.natCast_add, Int.natCast_add]
        go_wp2_with fail
        go_ret
        exact ⟨rfl, ((Below.refl _ _).alloc (Nat.le_refl _) _).trans (hbel.mono (by simp))⟩
    · have d0 : r.size ≤ 0 := by omega
      have HR : Hid (0 < r.size → tb r 0 ≠ 34) := fun h => absurd h hr0
      clear hr0
      obtain ⟨Q, hQ⟩ : ∃ Q, Q = strOfNums [34, 34, 34] := ⟨_, rfl⟩
      have hconv := fun c' => run_convert_bytes_arg (P := Try.prog) (w.alloc (.cells #[.int .u8 34, .int .u8 34, .int .u8 34] 5)) 28 5 Try.underlying28 Try.underlying5 w.heap.size 0 3 c' [34, 34, 34] rfl (fun i hi => by
        rcases (show i = 0 ∨ i = 1 ∨ i = 2 by omega) with rfl | rfl | rfl
        · exact cells_new w #[.int .u8 34, .int .u8 34, .int .u8 34] 0 _ rfl
        · exact cells_new w #[.int .u8 34, .int .u8 34, .int .u8 34] 1 _ rfl
        · exact cells_new w #[.int .u8 34, .int .u8 34, .int .u8 34] 2 _ rfl) 9 Try.underlying9
      rw [← hQ] at hconv
      have hQs : Q.size = 3 := by rw [hQ]; rfl
      have HQ : Hid (Q.data.toList = List.replicate 3 (UInt8.ofNat 34)) := by rw [hQ]; rfl
      clear hQ
      go_wp2_with fail
      refine (zz_multi_34 p b r Q _ h1 h2 h3 HQ.out HP.out HR.out).mono ?_
      rintro e w1 ⟨rfl, hbel⟩
      rw [Int.natCast_add, Int.natCast_add]
      go_wp2_with fail
      go_ret
      exact ⟨rfl, ((Below.refl _ _).alloc (Nat.le_refl _) _).trans (hbel.mono (by simp))⟩

/-- what the call of the alias answers: one line -/
theorem zz_one_39 (p b r Q : ByteArray) (w : World) (h1 : p.size ≤ 262144) (h2 : b.size ≤ 262144) (h3 : r.size ≤ 262144) (hQ : Q.data.toList = List.replicate 1 (UInt8.ofNat 39)) (hp : Plain b 39 false) :
    Calls Try.prog 8 #[.string (p ++ Q ++ b ++ Q ++ r), .int .i64 p.size] w fun e w' => e = .returned (.int .i64 ((p.size + b.size + 2 : Nat) : Int)) ∧ Below w.heap.size w w' := by
  obtain ⟨j1, j2, j3, j4, _⟩ := joined p b r Q 39 1 (by omega) hQ
  have hb := hp.1 rfl
  have hc := toml_one_39 (p ++ Q ++ b ++ Q ++ r) p.size b.size w (by omega) (by omega) (by omega) (j2 0 (by omega)) (fun k hk => by rw [j3 k hk]; exact hp.2 k hk) (j4 0 (by omega))
  generalize p ++ Q ++ b ++ Q ++ r = T at *
  clear j1 j2 j3 j4 hp
  have HC : Hid (Calls Try.prog 12 #[.string T, .int .i64 p.size] w fun e w' => e = .returned (.int .i64 ((p.size + b.size + 2 : Nat) : Int)) ∧ Below w.heap.size w w') := hc
  clear hc
  go_enter Try.func8, Try.ntmps8
  go_wp2_with fail
  refine HC.out.mono ?_
  rintro e w1 ⟨rfl, hbel⟩
  go_wp2_with fail
  go_ret
  exact ⟨ret_int (by omega), hbel⟩

/-- .. and of many -/
theorem zz_multi_39 (p b r Q : ByteArray) (w : World) (h1 : p.size ≤ 262144) (h2 : b.size ≤ 262144) (h3 : r.size ≤ 262144) (hQ : Q.data.toList = List.replicate 3 (UInt8.ofNat 39)) (hp : Plain b 39 true) (hr : 0 < r.size → tb r 0 ≠ 39) :
    Calls Try.prog 8 #[.string (p ++ Q ++ b ++ Q ++ r), .int .i64 p.size] w fun e w' => e = .returned (.int .i64 ((p.size + b.size + 6 : Nat) : Int)) ∧ Below w.heap.size w w' := by
  obtain ⟨j1, j2, j3, j4, j5⟩ := joined p b r Q 39 3 (by omega) hQ
  have hc := toml_multi_39 (p ++ Q ++ b ++ Q ++ r) p.size b.size w (by omega) (by omega) (j2 0 (by omega)) (j2 1 (by omega)) (j2 2 (by omega)) (fun k hk => by rw [j3 k hk]; exact hp.2 k hk)
    (j4 0 (by omega)) (by rw [show p.size + 4 + b.size = p.size + 3 + b.size + 1 by omega]; exact j4 1 (by omega)) (by rw [show p.size + 5 + b.size = p.size + 3 + b.size + 2 by omega]; exact j4 2 (by omega))
    (fun h => by rw [show p.size + 6 + b.size = p.size + 3 + b.size + 3 + 0 by omega, j5 0]; exact hr (by omega))
  generalize p ++ Q ++ b ++ Q ++ r = T at *
  clear j1 j2 j3 j4 j5 hp hr
  have HC : Hid (Calls Try.prog 12 #[.string T, .int .i64 p.size] w fun e w' => e = .returned (.int .i64 ((p.size + b.size + 6 : Nat) : Int)) ∧ Below w.heap.size w w') := hc
  clear hc
  go_enter Try.func8, Try.ntmps8
  go_wp2_with fail
  refine HC.out.mono ?_
  rintro e w1 ⟨rfl, hbel⟩
  go_wp2_with fail
  go_ret
  exact ⟨ret_int (by omega), hbel⟩

set_option maxHeartbeats 2000000 in
set_option maxRecDepth 100000 in
theorem law_short_39 (p b r : ByteArray) (m : Bool) (w : World) (h1 : p.size ≤ 262144) (h2 : b.size ≤ 262144) (h3 : r.size ≤ 262144) :
    Calls Try.prog 5 #[.string p, .string b, .string r, .bool false, .bool m] w fun e w' => e = .returned (.bool true) ∧ Below w.heap.size w w' := by
  have d1 : decide ((262144 : Int) < (p.size : Int)) = false := decide_eq_false (by omega)
  have d2 : decide ((262144 : Int) < (b.size : Int)) = false := decide_eq_false (by omega)
  have d3 : decide ((262144 : Int) < (r.size : Int)) = false := decide_eq_false (by omega)
  go_enter Try.func5, Try.ntmps5
  go_wp2_with fail
  refine (bytes_yes _ _ _ _ _ _ h1 h2 h3).mono ?_
  rintro e w' ⟨rfl, rfl⟩
  go_wp2_with fail
  refine (plain_any b 39 m w (Or.inr rfl) h2).mono ?_
  rintro e w' ⟨rfl, rfl⟩
  cases hpl : plainB b 39 m
  · go_wp2_with fail
    go_ret
    exact ⟨rfl, Below.refl _ _⟩
  have HP : Hid (Plain b 39 m) := (plainB_iff b 39 m).1 hpl
  clear hpl
  cases m
  · obtain ⟨Q, hQ⟩ : ∃ Q, Q = strOfNums [39] := ⟨_, rfl⟩
    have hconv := fun c' => run_convert_bytes_arg (P := Try.prog) (w.alloc (.cells #[.int .u8 39] 5)) 28 5 Try.underlying28 Try.underlying5 w.heap.size 0 1 c' [39] rfl (fun i hi => by
      obtain rfl : i = 0 := by omega
      exact cells_new w #[.int .u8 39] 0 _ rfl) 9 Try.underlying9
    rw [← hQ] at hconv
    have hQs : Q.size = 1 := by rw [hQ]; rfl
    have HQ : Hid (Q.data.toList = List.replicate 1 (UInt8.ofNat 39)) := by rw [hQ]; rfl
    clear hQ
    go_wp2_with fail
    refine (zz_one_39 p b r Q _ h1 h2 h3 HQ.out HP.out).mono ?_
    rintro e w1 ⟨rfl, hbel⟩
    rw [Int.natCast_add, Int.natCast_add]
    go_wp2_with fail
    go_ret
    exact ⟨rfl, ((Below.refl _ _).alloc (Nat.le_refl _) _).trans (hbel.mono (by simp))⟩
  · by_cases hr0 : 0 < r.size
    · have hri : (0 : Int) < (r.size : Int) := by omega
      by_cases hr : r[0].toNat = 39
      · have f0 : ((r[0].toNat : Int) == 39) = true := beq_iff_eq.2 (by omega)
        clear hr
        go_wp2_with fail
        go_ret
        exact ⟨rfl, Below.refl _ _⟩
      · have f0 : ((r[0].toNat : Int) == 39) = false := beq_eq_false_iff_ne.2 (by omega)
        have HR : Hid (0 < r.size → tb r 0 ≠ 39) := fun h => by rw [← tb_at r 0 h]; exact hr
        clear hr
        obtain ⟨Q, hQ⟩ : ∃ Q, Q = strOfNums [39, 39, 39] := ⟨_, rfl⟩
        have hconv := fun c' => run_convert_bytes_arg (P := Try.prog) (w.alloc (.cells #[.int .u8 39, .int .u8 39, .int .u8 39] 5)) 28 5 Try.underlying28 Try.underlying5 w.heap.size 0 3 c' [39, 39, 39] rfl (fun i hi => by
          rcases (show i = 0 ∨ i = 1 ∨ i = 2 by omega) with rfl | rfl | rfl
          · exact cells_new w #[.int .u8 39, .int .u8 39, .int .u8 39] 0 _ rfl
          · exact cells_new w #[.int .u8 39, .int .u8 39, .int .u8 39] 1 _ rfl
          · exact cells_new w #[.int .u8 39, .int .u8 39, .int .u8 39] 2 _ rfl) 9 Try.underlying9
        rw [← hQ] at hconv
        have hQs : Q.size = 3 := by rw [hQ]; rfl
        have HQ : Hid (Q.data.toList = List.replicate 3 (UInt8.ofNat 39)) := by rw [hQ]; rfl
        clear hQ
        go_wp2_with fail
        refine (zz_multi_39 p b r Q _ h1 h2 h3 HQ.out HP.out HR.out).mono ?_
        rintro e w1 ⟨rfl, hbel⟩
        rw [Int.natCast_add, Int.natCast_add]
        go_wp2_with fail
        go_ret
        exact ⟨rfl, ((Below.refl _ _).alloc (Nat.le_refl _) _).trans (hbel.mono (by simp))⟩
    · have d0 : r.size ≤ 0 := by omega
      have HR : Hid (0 < r.size → tb r 0 ≠ 39) := fun h => absurd h hr0
      clear hr0
      obtain ⟨Q, hQ⟩ : ∃ Q, Q = strOfNums [39, 39, 39] := ⟨_, rfl⟩
      have hconv := fun c' => run_convert_bytes_arg (P := Try.prog) (w.alloc (.cells #[.int .u8 39, .int .u8 39, .int .u8 39] 5)) 28 5 Try.underlying28 Try.underlying5 w.heap.size 0 3 c' [39, 39, 39] rfl (fun i hi => by
        rcases (show i = 0 ∨ i = 1 ∨ i = 2 by omega) with rfl | rfl | rfl
        · exact cells_new w #[.int .u8 39, .int .u8 39, .int .u8 39] 0 _ rfl
        · exact cells_new w #[.int .u8 39, .int .u8 39, .int .u8 39] 1 _ rfl
        · exact cells_new w #[.int .u8 39, .int .u8 39, .int .u8 39] 2 _ rfl) 9 Try.underlying9
      rw [← hQ] at hconv
      have hQs : Q.size = 3 := by rw [hQ]; rfl
      have HQ : Hid (Q.data.toList = List.replicate 3 (UInt8.ofNat 39)) := by rw [hQ]; rfl
      clear hQ
      go_wp2_with fail
      refine (zz_multi_39 p b r Q _ h1 h2 h3 HQ.out HP.out HR.out).mono ?_
      rintro e w1 ⟨rfl, hbel⟩
      rw [Int.natCast_add, Int.natCast_add]
      go_wp2_with fail
      go_ret
      exact ⟨rfl, ((Below.refl _ _).alloc (Nat.le_refl _) _).trans (hbel.mono (by simp))⟩

theorem law_any (p b r : ByteArray) (d m : Bool) (h1 : p.size ≤ maxLen) (h2 : b.size ≤ maxLen) (h3 : r.size ≤ maxLen) (w : World) :
    Calls Try.prog 5 #[.string p, .string b, .string r, .bool d, .bool m] w fun e w' => e = .returned (.bool true) ∧ Below w.heap.size w w' := by
  by_cases h : 262144 < p.size ∨ 262144 < b.size ∨ 262144 < r.size
  · exact law_long p b r d m w h h1 h2 h3
  · cases d
    · exact law_short_39 p b r m w (by omega) (by omega) (by omega)
    · exact law_short_34 p b r m w (by omega) (by omega) (by omega)

end Go.Proofs.Qxb6001221a
