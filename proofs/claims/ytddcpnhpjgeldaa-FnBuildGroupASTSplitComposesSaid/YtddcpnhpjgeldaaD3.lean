/- The contract of duplicatedVariables. -/
import Derived.Test.YtddcpnhpjgeldaaD2
namespace Go.Proofs.Ytddcpnhpjgeldaa
open Go.ChangeShapes Go.WideShapes Go.ChangeAt Go.RowKit Go.WideMaps Go.Maps

def vkeys (vs : List ByteArray) : List Lit := vs.map fun s => .string s.data.toList
def vset (vs : List ByteArray) : DataW Unit := setOf (.lit (.bool true)) (vkeys vs)
theorem vset_snoc (vs : List ByteArray) (s : ByteArray) : vset (vs ++ [s]) = (vset vs).put (.string s.data.toList) (.lit (.bool true)) := by
  unfold vset vkeys
  rw [List.map_append, List.map_cons, List.map_nil, setOf_snoc]
theorem keyS {s : ByteArray} (h : s.size ≤ maxLen) : keyOf Try.prog 9 (.string s) = some (.string s.data.toList) := keyOf_string_mk Try.underlying9 h
theorem keyedS : Keyed Try.prog 9 := string_keyed Try.underlying9

set_option maxRecDepth 100000 in
set_option maxHeartbeats 4000000 in
theorem dup_any (w : World) (base : Nat) (v : Value) (vs : List ByteArray) (h : Els w base v vs) (hlen : vs.length ≤ 1048577) (hsz : ∀ s ∈ vs, s.size ≤ maxLen) :
    Calls Try.prog 33 #[v] w (Bl (decide (Maps.size (vset vs) < vs.length)) w) := by
  obtain ⟨ys, hy, hv⟩ := h
  obtain ⟨a, c, rfl, hle, htop, hat⟩ := hy.slice
  unfold maxLen at htop
  obtain ⟨n, hn⟩ : ∃ n, ys.length = n := ⟨_, rfl⟩
  have hnv : vs.length = n := by rw [← hv, List.length_map]; exact hn
  rw [hn] at hle
  rw [hnv] at hlen ⊢
  have HY := Lib.hid hy; clear hy
  have HV := Lib.hid hv; clear hv
  have HAT := Lib.hid hat; clear hat
  have HSZ := Lib.hid hsz; clear hsz
  have HNV := Lib.hid hnv; clear hnv
  rw [hn] at HY ⊢
  have HN := Lib.hid hn; clear hn
  have hmm := @run_makeMap Try.prog
  go_enter Try.func33, Try.ntmps33
  go_wp2_with fail
  go_loopw [9] (fun i wr => ∃ k : Nat, k ≤ n ∧ i = .int .i64 k ∧ wr.ownsMap Try.prog 9 (plainElem (H := Unit) Try.prog 4) w.heap.size k (vset (vs.take k)) ∧ Kept [] w wr) (fun i _ => n - (intOf i).toNat)
  case atStart => exact ⟨0, Nat.zero_le _, rfl, World.ownsMap_made _ _ _ _, (Kept.refl _ _).alloc _⟩
  case round =>
    obtain ⟨k, hk, rfl, hown, hb⟩ := hrel
    have HB := Lib.hid hb; clear hb
    have HO := Lib.hid hown; clear hown
    by_cases hlt : k < n
    · have hkl : k < ys.length := by rw [HN.out]; exact hlt
      obtain ⟨g, rfl, -, -⟩ := HAT.out k hkl
      have hc := (HY.out.kept0 HB.out).cell encI_len k hkl
      obtain ⟨y, hyk⟩ : ∃ y, ys[k] = y := ⟨_, rfl⟩
      rw [hyk] at hc
      have hvk : vs[k]? = some y.var := by rw [← HV.out, List.getElem?_map, List.getElem?_eq_getElem hkl, hyk]; rfl
      obtain ⟨⟨fa, fn, fc⟩, key, var, imp⟩ := y
      have e0 := hc 0 (by omega)
      have e1 := hc 1 (by omega)
      have e2 := hc 2 (by omega)
      have e3 := hc 3 (by omega)
      have e4 := hc 4 (by omega)
      have e5 := hc 5 (by omega)
      have e6 := hc 6 (by omega)
      have e7 := hc 7 (by omega)
      have e8 := hc 8 (by omega)
      have e9 := hc 9 (by omega)
      have e10 := hc 10 (by omega)
      have e11 := hc 11 (by omega)
      have e12 := hc 12 (by omega)
      have e13 := hc 13 (by omega)
      clear hc
      simp only [encI, Trip.val, Nat.add_zero, List.getElem?_cons_succ, List.getElem?_cons_zero] at e0 e1 e2 e3 e4 e5 e6 e7 e8 e9 e10 e11 e12 e13
      dsimp only at hvk
      have hks := keyS (HSZ.out var (List.mem_of_getElem? hvk))
      have htk : vs.take (k + 1) = vs.take k ++ [var] := by rw [List.take_add_one, hvk]; rfl
      have hown : ∀ o, (wr.alloc o).ownsMap Try.prog 9 (plainElem (H := Unit) Try.prog 4) w.heap.size k (vset (vs.take k)) := fun o => HO.out.alloc o
      have HOW := Lib.hid hown; clear hown
      have HKS := Lib.hid hks; clear hks
      have HTK := Lib.hid htk; clear htk hvk hyk
      have hmx : k < maxLen := by unfold maxLen; omega
      have HMX := Lib.hid hmx; clear hmx
      go_wp2_with (first
        | (at_mapUpdate; refine wpList_mapUpdate_own _ rfl _ _ _ 102 rfl 9 4 keyedS Try.underlying102 (plainElem (H := Unit) Try.prog 4) w.heap.size k _ rfl (HOW.out _) HMX.out _ _ _ rfl rfl HKS.out _ [] (plainElem_bool Try.underlying4 true) ?_; intro w1 hown1 hgrow1)
        | fail)
      have hk1 : Kept [] w w1 := (HB.out.alloc _).grown hgrow1 (fun j hj => by cases hj; exact Or.inr (Nat.le_refl _))
      have hn1 : w1.ownsMap Try.prog 9 (plainElem (H := Unit) Try.prog 4) w.heap.size (k + 1) (vset (vs.take (k + 1))) := by
        rw [HTK.out, vset_snoc]; exact hown1
      have HK1 := Lib.hid hk1; clear hk1 hgrow1
      have HN1 := Lib.hid hn1; clear hn1 hown1
      go_wp2_with fail
      exact ⟨⟨k + 1, by omega, by go_num, HN1.out, HK1.out⟩, by simp [intOf]; omega⟩
    · obtain rfl : k = n := by omega
      have htk : vs.take k = vs := by rw [← HNV.out, List.take_length]
      rw [htk] at HO
      go_wp2_with (first
        | (at_len; refine wpList_len_own _ rfl _ 102 rfl 9 4 Try.underlying102 _ w.heap.size k _ rfl HO.out ?_)
        | fail)
      go_ret
      exact ⟨rfl, HB.out⟩

theorem dup_zz (w : World) (base : Nat) (v : Value) (vs : List ByteArray) (h : Els w base v vs) (hlen : vs.length ≤ 1048577) (hsz : ∀ s ∈ vs, s.size ≤ maxLen) :
    Calls Try.prog 16 #[v] w (Bl (decide (Maps.size (vset vs) < vs.length)) w) := by
  have HC := Lib.hid (dup_any w base v vs h hlen hsz)
  obtain ⟨ys, hy, -⟩ := h
  obtain ⟨a, c, rfl, -⟩ := hy.slice
  clear hy
  go_enter Try.func16, Try.ntmps16
  go_wp2_with fail
  refine HC.out.mono ?_
  rintro e w1 ⟨rfl, k1⟩
  have K1 := Lib.hid k1; clear k1
  go_wp2_with fail
  go_ret
  exact ⟨rfl, K1.out⟩

/-! ## How many different variables there are -/
theorem bytes_inj {a b : ByteArray} (h : a.data.toList = b.data.toList) : a = b := by
  obtain ⟨⟨x⟩⟩ := a
  obtain ⟨⟨y⟩⟩ := b
  simp at h
  subst h
  rfl
def memB (L : List ByteArray) (x : ByteArray) : Bool := L.any (fun y => y.data.toList == x.data.toList)
theorem memB_iff (L : List ByteArray) (x : ByteArray) : memB L x = true ↔ x ∈ L := by
  unfold memB
  rw [List.any_eq_true]
  constructor
  · rintro ⟨s, hs, h⟩
    rw [beq_iff_eq] at h
    rw [← bytes_inj h]
    exact hs
  · intro hx
    exact ⟨x, hx, by simp⟩
def addB (L : List ByteArray) (x : ByteArray) : List ByteArray := if memB L x then L else L ++ [x]
theorem any_key (L : List ByteArray) (x : ByteArray) : (vkeys L).any (fun y => y.sameKey (.string x.data.toList)) = memB L x := by
  unfold vkeys memB
  rw [List.any_map]
  rfl
theorem fold_keys (xs : List ByteArray) : ∀ L : List ByteArray, (vkeys xs).foldl addKey (vkeys L) = vkeys (xs.foldl addB L) := by
  induction xs with
  | nil => intro L; rfl
  | cons x xs ih =>
    intro L
    have e : addKey (vkeys L) (.string x.data.toList) = vkeys (addB L x) := by
      unfold addKey addB
      rw [any_key]
      cases memB L x
      · simp [vkeys]
      · rfl
    show (vkeys xs).foldl addKey (addKey (vkeys L) (.string x.data.toList)) = vkeys (xs.foldl addB (addB L x))
    rw [e, ih]
theorem fold_len (xs : List ByteArray) : ∀ L : List ByteArray, (xs.foldl addB L).length ≤ L.length + xs.length ∧ ((xs.foldl addB L).length = L.length + xs.length ↔ (xs.Nodup ∧ ∀ x ∈ xs, x ∉ L)) := by
  induction xs with
  | nil => intro L; simp
  | cons x xs ih =>
    intro L
    simp only [List.foldl_cons, List.length_cons, List.nodup_cons, List.mem_cons]
    obtain ⟨i1, i2⟩ := ih (addB L x)
    by_cases hx : x ∈ L
    · have e : addB L x = L := by unfold addB; rw [(memB_iff L x).2 hx]; rfl
      rw [e] at i1 i2 ⊢
      refine ⟨by omega, ⟨fun h => by omega, fun h => absurd hx (h.2 x (Or.inl rfl))⟩⟩
    · have e : addB L x = L ++ [x] := by
        unfold addB
        rw [if_neg (fun h => hx ((memB_iff L x).1 h))]
      rw [e] at i1 i2 ⊢
      rw [List.length_append, List.length_singleton] at i1 i2
      refine ⟨by omega, ⟨fun h => ?_, fun h => ?_⟩⟩
      · obtain ⟨a, b⟩ := i2.1 (by omega)
        refine ⟨⟨fun hm => b x hm (by simp), a⟩, fun y hy => ?_⟩
        rcases hy with rfl | hy
        · exact hx
        · exact fun hl => b y hy (by simp [hl])
      · obtain ⟨⟨h1, h2⟩, h3⟩ := h
        have := i2.2 ⟨h2, fun y hy hm => by
          rcases List.mem_append.1 hm with hm | hm
          · exact h3 y (Or.inr hy) hm
          · simp at hm; subst hm; exact h1 hy⟩
        omega
/-- The set is smaller than the list exactly if some variable stands twice. -/
theorem vset_lt (vs : List ByteArray) : (Maps.size (vset vs) < vs.length) ↔ ¬ vs.Nodup := by
  unfold vset
  rw [size_setOf _ _ (fun y hy => by obtain ⟨_, _, rfl⟩ := List.mem_map.1 hy; trivial)]
  have e : (vkeys vs).foldl addKey [] = vkeys (vs.foldl addB []) := fold_keys vs []
  rw [e]
  obtain ⟨h1, h2⟩ := fold_len vs []
  simp only [List.length_nil, Nat.zero_add, List.not_mem_nil, not_false_eq_true, implies_true, and_true] at h1 h2
  rw [show (vkeys (vs.foldl addB [])).length = (vs.foldl addB []).length by simp [vkeys]]
  constructor
  · intro h hn
    have := h2.2 hn
    omega
  · intro h
    have : (vs.foldl addB []).length ≠ vs.length := fun e => h (h2.1 e)
    omega
end Go.Proofs.Ytddcpnhpjgeldaa
