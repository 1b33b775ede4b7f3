/-
  Seat b6000711a: THE SET OF THE RUNS' BEGINNINGS, as a map[string]bool of the call's own: what it holds, how many, and the look-up's law for bool elements.
-/
import Derived.Test.Qxb6000711aRuns
import Derived.Maps.OwnSet
import Derived.Maps.AppendAt
import Derived.Laws.BytesArg
namespace Go.Proofs.Qxb6000711a
open Go.RowKit Go.Maps

/-! ### a look-up in a map[K]bool that the call has made -/
theorem plainElem_bool_inv {H : Type} {P : Program} {e : TypeId} (he : P.underlying e = some .bool) {v : Value} {z : DataW H × List MemPlace} (h : plainElem P e v = some z) : ∃ x, v = .bool x ∧ z = (.lit (.bool x), []) := by
  unfold plainElem at h
  rw [he] at h
  cases v <;> simp at h
  subst h
  exact ⟨_, rfl, rfl⟩

theorem wpList_lookup_own_bool {H : Type} {P : Program} (w : World) {ops : Array Oper} {rest : List Oper} {o : Oper} {a : Act} {Q : Exit → Act → World → Prop}
    (hg : o.guard = none) (m x : Operand) (t : TypeId) (hop : o.op = Op.lookup t m x false)
    (k e : TypeId) (K : Keyed P k) (ht : P.underlying t = some (.map k e)) (he : P.underlying e = some .bool) (hz : (zeroValue e).run P w = .ok (.bool false) w) (b n : Nat) (D : DataW H)
    (hm : a.eval m = .map (some b)) (hown : w.ownsMap P k (plainElem P e) b n D) (key : Value) (kl : Lit) (hx : a.eval x = key) (hkey : keyOf P k key = some kl)
    (c : Bool) (hat : D.atKey kl (.lit (.bool false)) = .lit (.bool c))
    (hK : wpList P ops Q rest (a.put o.dst (.bool c)) w) :
    wpList P ops Q (o :: rest) a w := by
  refine wpList_plain hg fun K' hK' => ?_
  obtain ⟨v, ps, hrun, hv⟩ := hown.lookup K ht hz (plainElem_bool he false) hkey
  obtain ⟨y, rfl, hy⟩ := plainElem_bool_inv he hv
  simp only [Prod.mk.injEq] at hy
  rw [hat] at hy
  have hcy : c = y := by have := hy.1; simpa using this
  subst hcy
  unfold Oper.wp
  simp [execOp, hop, hm, hx, hrun, Result.andThen]
  exact hK' _ _ hK

/-! ### what a set holds -/
theorem atKey_fold {H : Type} (u : DataW H) (k : Lit) (z : DataW H) : ∀ (acc : List Lit) (m : DataW H), IsMap m → (∀ x ∈ acc, WideAt.IsKeyLit x) → m.atKey k z = (if Maps.has m k then u else z) →
    (acc.foldl (fun m x => m.put x u) m).atKey k z = if Maps.has (acc.foldl (fun m x => m.put x u) m) k then u else z
  | [], _, _, _, h => h
  | x :: r, m, hm, hk, h => by
    rw [List.foldl_cons]
    refine atKey_fold u k z r (m.put x u) (hm.put x u) (fun y hy => hk y (by simp [hy])) ?_
    by_cases e : k = x
    · subst e
      rw [atKey_put_same hm (hk k (by simp)), has_put_same hm (hk k (by simp))]
      simp
    · rw [atKey_put_other e, has_put_other e]
      exact h

theorem atKey_setOf {H : Type} (u : DataW H) (k : Lit) (z : DataW H) (acc : List Lit) (hk : ∀ x ∈ acc, WideAt.IsKeyLit x) : (setOf u acc).atKey k z = if Maps.has (setOf u acc) k then u else z :=
  atKey_fold u k z acc _ isMap_empty hk rfl

/-! ### the keys -/
def key (x : List Int) : Lit := .string (strOfNums x).data.toList

theorem byte_inj {a b : Int} (ha : 0 ≤ a ∧ a ≤ 255) (hb : 0 ≤ b ∧ b ≤ 255) (h : UInt8.ofNat a.toNat = UInt8.ofNat b.toNat) : a = b := by
  have := congrArg UInt8.toNat h
  simp only [UInt8.toNat_ofNat'] at this
  omega

theorem map_bytes_inj : ∀ (x y : List Int), (∀ c ∈ x, 0 ≤ c ∧ c ≤ 255) → (∀ c ∈ y, 0 ≤ c ∧ c ≤ 255) → x.map (fun n => UInt8.ofNat n.toNat) = y.map (fun n => UInt8.ofNat n.toNat) → x = y
  | [], [], _, _, _ => rfl
  | [], _ :: _, _, _, h => by simp at h
  | _ :: _, [], _, _, h => by simp at h
  | a :: r, b :: t, hx, hy, h => by
    simp only [List.map_cons, List.cons.injEq] at h
    rw [byte_inj (hx a (by simp)) (hy b (by simp)) h.1, map_bytes_inj r t (fun c hc => hx c (by simp [hc])) (fun c hc => hy c (by simp [hc])) h.2]

theorem key_inj {x y : List Int} (hx : ∀ c ∈ x, 0 ≤ c ∧ c ≤ 255) (hy : ∀ c ∈ y, 0 ≤ c ∧ c ≤ 255) (h : key x = key y) : x = y := by
  unfold key at h
  rw [strOfNums_data, strOfNums_data] at h
  exact map_bytes_inj x y hx hy (by simpa using h)

theorem name_bytes (s j : Nat) : ∀ c ∈ name s j, 0 ≤ c ∧ c ≤ 255 := fun c hc => by have := name_mem s j c hc; omega

def keysOf (zs : List Int) (s : Nat) (L : List (Nat × Nat)) : List Lit := (L.filter (fun r => decide (s ≤ r.2))).map (fun r => key (bit zs r.1 s))
def Sn (zs : List Int) (s : Nat) (L : List (Nat × Nat)) : DataW Unit := setOf (.lit (.bool true)) (keysOf zs s L)

theorem keysOf_isKey (zs : List Int) (s : Nat) (L : List (Nat × Nat)) : ∀ x ∈ keysOf zs s L, WideAt.IsKeyLit x := fun x hx => by
  obtain ⟨r, _, rfl⟩ := List.mem_map.1 hx
  trivial

theorem Sn_hit (zs : List Int) (s : Nat) (L : List (Nat × Nat)) (k : Nat) (hk : k < L.length) (h : s ≤ L[k].2) : Sn zs s (L.take (k + 1)) = (Sn zs s (L.take k)).put (key (bit zs L[k].1 s)) (.lit (.bool true)) := by
  unfold Sn
  rw [List.take_succ_eq_append_getElem hk, ← setOf_snoc]
  congr 1
  simp only [keysOf, List.filter_append, List.map_append]
  congr 1
  simp [h]

theorem Sn_miss (zs : List Int) (s : Nat) (L : List (Nat × Nat)) (k : Nat) (hk : k < L.length) (h : ¬ s ≤ L[k].2) : Sn zs s (L.take (k + 1)) = Sn zs s (L.take k) := by
  unfold Sn
  rw [List.take_succ_eq_append_getElem hk]
  congr 1
  simp only [keysOf, List.filter_append, List.map_append]
  have e : ([L[k]] : List (Nat × Nat)).filter (fun r => decide (s ≤ r.2)) = [] := by simp; omega
  rw [e]
  simp

theorem bit_bytes {zs : List Int} (hb : ∀ c ∈ zs, 0 ≤ c ∧ c ≤ 255) (st s : Nat) : ∀ c ∈ bit zs st s, 0 ≤ c ∧ c ≤ 255 :=
  fun c hc => hb c (List.mem_of_mem_drop (List.mem_of_mem_take hc))

/-- THE KEY IS THERE JUST IF THE NAME IS TAKEN. -/
theorem has_Sn {zs : List Int} (hb : ∀ c ∈ zs, 0 ≤ c ∧ c ≤ 255) (s : Nat) (x : List Int) (hx : ∀ c ∈ x, 0 ≤ c ∧ c ≤ 255) : Maps.has (Sn zs s (runsTo zs zs.length)) (key x) = true ↔ Taken zs s x := by
  unfold Sn
  rw [has_setOf _ _ _ (keysOf_isKey zs s _), List.any_eq_true]
  constructor
  · rintro ⟨y, hy, hs⟩
    obtain ⟨r, hr, rfl⟩ := List.mem_map.1 hy
    obtain ⟨hr1, hr2⟩ := List.mem_filter.1 hr
    exact ⟨r, hr1, by simpa using hr2, key_inj (bit_bytes hb _ _) hx (WideAt.sameKey_eq hs)⟩
  · rintro ⟨r, hr, hl, rfl⟩
    exact ⟨_, List.mem_map.2 ⟨r, List.mem_filter.2 ⟨hr, by simpa using hl⟩, rfl⟩, WideAt.sameKey_self trivial⟩

/-- THE LOOK-UP's ANSWER. -/
theorem at_taken {zs : List Int} (hb : ∀ c ∈ zs, 0 ≤ c ∧ c ≤ 255) (s : Nat) (x : List Int) (hx : ∀ c ∈ x, 0 ≤ c ∧ c ≤ 255) (h : Taken zs s x) : (Sn zs s (runsTo zs zs.length)).atKey (key x) (.lit (.bool false)) = .lit (.bool true) := by
  have e := (has_Sn hb s x hx).2 h
  unfold Sn at e ⊢
  rw [atKey_setOf _ _ _ _ (keysOf_isKey zs s _), e]
  rfl
theorem at_free {zs : List Int} (hb : ∀ c ∈ zs, 0 ≤ c ∧ c ≤ 255) (s : Nat) (x : List Int) (hx : ∀ c ∈ x, 0 ≤ c ∧ c ≤ 255) (h : ¬ Taken zs s x) : (Sn zs s (runsTo zs zs.length)).atKey (key x) (.lit (.bool false)) = .lit (.bool false) := by
  have e : Maps.has (Sn zs s (runsTo zs zs.length)) (key x) = false := by
    cases hq : Maps.has (Sn zs s (runsTo zs zs.length)) (key x)
    · rfl
    · exact absurd ((has_Sn hb s x hx).1 hq) h
  unfold Sn at e ⊢
  rw [atKey_setOf _ _ _ _ (keysOf_isKey zs s _), e]
  rfl

theorem pigeons_map (D : DataW Unit) (hD : Tidy D) (L : List Lit) (hn : L.Nodup) (hs : ∀ k ∈ L, Maps.has D k = true) : L.length ≤ Maps.size D := by
  obtain ⟨es, rfl, _⟩ := hD
  have := @pigeons Lit (fun a b => Classical.propDecidable (a = b)) L (es.map Prod.fst) hn (fun k hk => by
    obtain ⟨p, hp, hpk⟩ := List.any_eq_true.1 (hs k hk)
    exact List.mem_map.2 ⟨p, hp, WideAt.sameKey_eq hpk⟩)
  simpa [Maps.size] using this

/-- m names of one length that are all taken: the set has m entries at least. -/
theorem size_names {zs : List Int} (hb : ∀ c ∈ zs, 0 ≤ c ∧ c ≤ 255) (s m : Nat) (hm : m ≤ 27 ^ s) (h : ∀ i, i < m → Taken zs s (name s i)) : m ≤ Maps.size (Sn zs s (runsTo zs zs.length)) := by
  have := pigeons_map (Sn zs s (runsTo zs zs.length)) (tidy_setOf _ _ (keysOf_isKey zs s _)) ((List.range m).map (fun i => key (name s i))) (by
    rw [List.Nodup, List.pairwise_map]
    refine List.Pairwise.imp_of_mem ?_ List.nodup_range
    intro a b ha hb hne e
    simp at ha hb
    exact hne (name_inj s a b (by omega) (by omega) (key_inj (name_bytes _ _) (name_bytes _ _) e))) (fun k hk => by
    obtain ⟨i, hi, rfl⟩ := List.mem_map.1 hk
    exact (has_Sn hb s _ (name_bytes _ _)).2 (h i (by simpa using hi)))
  simpa using this

end Go.Proofs.Qxb6000711a
