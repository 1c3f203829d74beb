/- The contracts of ast.FodderElementCountNewlines, FodderCountNewlines and FodderEnsureCleanNewline. -/
import Derived.Test.YtfacfgecnpeceaaFmtFApP
import Derived.Test.YtfacfgecnpeceaaFmtNode
namespace Go.Proofs.YtfacfgecnpeceaaFmt
open Go.ChangeShapes Go.WideShapes Go.ChangeAt Go.RowKit

/-- The line breaks that one element counts. -/
def elNL (e : FE) : Int := if e.k = 1 then 0 else if e.k = 0 then 1 else wrap64 (e.cl + e.b)
/-- The line breaks that a fodder counts. -/
def sumNL (l : List FE) : Int := l.foldl (fun s e => wrap64 (s + elNL e)) 0
theorem sumNL_take (l : List FE) (k : Nat) (e : FE) (he : l[k]? = some e) : sumNL (l.take (k + 1)) = wrap64 (sumNL (l.take k) + elNL e) := by
  unfold sumNL
  rw [List.take_add_one, he]
  simp [List.foldl_append]
/-- No element is of an unknown kind. -/
def Kinds (l : List FE) : Prop := ∀ e ∈ l, e.k = 0 ∨ e.k = 1 ∨ e.k = 2
theorem Kinds.at {l : List FE} (h : Kinds l) {i : Nat} {e : FE} (he : l[i]? = some e) : e.k = 0 ∨ e.k = 1 ∨ e.k = 2 := h e (List.mem_of_getElem? he)
theorem Kinds.snoc {l : List FE} (h : Kinds l) (e : FE) (he : e.k = 0 ∨ e.k = 1 ∨ e.k = 2) : Kinds (l ++ [e]) := by
  intro x hx
  rcases List.mem_append.1 hx with hx | hx
  · exact h x hx
  · simp at hx; subst hx; exact he

set_option maxRecDepth 100000 in
set_option maxHeartbeats 400000 in
theorem elCount_any (w : World) (e : FE) (hk : e.k = 0 ∨ e.k = 1 ∨ e.k = 2) :
    Calls Tryf.prog 25 #[.agg #[.slice e.ca e.cl e.cc, .int .i64 e.k, .int .i64 e.b, .int .i64 e.i]] w fun en w' => en = .returned (.int .i64 (elNL e)) ∧ Kept [] w w' := by
  obtain ⟨ca, cl, cc, k, b, i⟩ := e
  dsimp only at *
  unfold elNL
  dsimp only
  rcases hk with rfl | rfl | rfl
  · go_enter Tryf.func25, Tryf.ntmps25
    go_wp2_with fail
    go_ret
    exact ⟨rfl, (Kept.refl _ _).alloc _⟩
  · go_enter Tryf.func25, Tryf.ntmps25
    go_wp2_with fail
    go_ret
    exact ⟨rfl, (Kept.refl _ _).alloc _⟩
  · go_enter Tryf.func25, Tryf.ntmps25
    go_wp2_with fail
    go_ret
    exact ⟨rfl, (Kept.refl _ _).alloc _⟩

set_option maxRecDepth 100000 in
set_option maxHeartbeats 1000000 in
theorem count_any (w : World) (base : Nat) (v : Value) (l : List FE) (h : Fod w base v l) (hk : Kinds l) :
    Calls Tryf.prog 21 #[v] w fun en w' => en = .returned (.int .i64 (sumNL l)) ∧ Kept [] w w' := by
  obtain ⟨a, cap, rfl, hlc, hcm, ha⟩ := h.slice
  unfold maxLen at hcm
  obtain ⟨n, hn⟩ : ∃ n, l.length = n := ⟨_, rfl⟩
  have H := Lib.hid h; clear h
  have HA := Lib.hid ha; clear ha
  have HK := Lib.hid hk; clear hk
  rw [hn] at hlc ⊢
  have HN := Lib.hid hn; clear hn
  go_enter Tryf.func21, Tryf.ntmps21
  go_wp2_with fail
  go_loopw [3, 8] (fun c i wr => ∃ k : Nat, k ≤ n ∧ i = .int .i64 k ∧ c = .int .i64 (sumNL (l.take k)) ∧ Kept [] w wr) (fun _ i _ => n - (intOf i).toNat)
  case atStart => exact ⟨0, Nat.zero_le _, rfl, rfl, Kept.refl _ _⟩
  case round =>
    obtain ⟨k, hk, rfl, rfl, hb⟩ := hrel
    have HB := Lib.hid hb; clear hb
    by_cases hlt : k < n
    · obtain ⟨g, rfl, hg1, hg2⟩ := HA.out k (by rw [HN.out]; exact hlt)
      obtain ⟨e, he, c0, c1, c2, c3⟩ := (H.out.kept HB.out (by simp)).cells k (by rw [HN.out]; exact hlt)
      have hke := HK.out.at he
      have hst := sumNL_take l k e he
      obtain ⟨S, hS⟩ : ∃ S, sumNL (l.take k) = S := ⟨_, rfl⟩
      rw [hS] at hst
      rw [hS]
      have HE := Lib.hid hke; clear hke
      have HST := Lib.hid hst; clear hst
      clear he hS
      go_wp2_with fail
      refine (elCount_any _ e HE.out).mono ?_
      rintro en w1 ⟨rfl, hk1⟩
      have HB1 := Lib.hid ((HB.out.alloc _).trans hk1); clear hk1
      go_wp2_with fail
      go_roundw
      case rel => exact ⟨k + 1, by omega, by go_num, by rw [HST.out], HB1.out⟩
      case measure => simp [intOf]; omega
    · obtain rfl : k = n := by omega
      have hst : sumNL (l.take k) = sumNL l := by rw [← HN.out, List.take_length]
      rw [hst]
      go_wp2_with fail
      go_ret
      exact ⟨rfl, HB.out⟩

theorem Appd.before {w0 w w' : World} {base pb po : Nat} {v : Value} {l' : List FE} (h : Appd w base pb po v l' w') (hk : Kept [] w0 w) (hp : pb < w0.heap.size) : Appd w0 base pb po v l' w' := by
  obtain ⟨v', h1, h2, h3, h4, h5, h6⟩ := h
  refine ⟨v', h1, h2, h3, (hk.mono (by simp)).trans h4, fun g hg => ?_, (Rest.of_block (hk.block pb hp (by simp))).trans h6⟩
  obtain ⟨e1, e2⟩ := h5 g hg
  refine ⟨e1, ?_⟩
  rcases e2 with e | e
  · exact Or.inl e
  · exact Or.inr (Nat.le_trans hk.size e)

set_option maxRecDepth 100000 in
set_option maxHeartbeats 1000000 in
theorem ensure_clean (w : World) (base pb po : Nat) (v : Value) (l : List FE) (h : Fod w base v l) (hp : w.cell? ⟨pb, po, none⟩ = some v) (hcl : clean l = true) :
    Calls Tryf.prog 23 #[.pointer (some ⟨pb, po, none⟩)] w fun en w' => en = .returned (.tuple #[]) ∧ w = w' := by
  obtain ⟨va, vn, vc, rfl⟩ := h.isSlice
  have H := Lib.hid h; clear h
  have HC := Lib.hid hcl; clear hcl
  go_enter Tryf.func23, Tryf.ntmps23
  go_wp2_with fail
  refine (hasClean_any _ base _ l H.out).mono ?_
  rintro e w' ⟨rfl, rfl⟩
  rw [HC.out]
  go_wp2_with fail
  go_end0
  exact ⟨rfl, rfl⟩

set_option maxRecDepth 100000 in
set_option maxHeartbeats 1000000 in
theorem ensure_add (w : World) (base pb po : Nat) (v : Value) (l : List FE) (h : Fod w base v l) (hp : w.cell? ⟨pb, po, none⟩ = some v) (hpf : w.frozen? ⟨pb, po, none⟩ = false) (hpv : ∀ g, v.ownBlock = some g → g ≠ pb)
    (hlen : l.length ≤ 1048576) (hb : base ≤ w.heap.size) (hcl : clean l = false) :
    Calls Tryf.prog 23 #[.pointer (some ⟨pb, po, none⟩)] w fun en w' => en = .returned (.tuple #[]) ∧ ∃ ca, Appd w base pb po v (l ++ [⟨ca, 0, 0, 0, 0, 0⟩]) w' := by
  obtain ⟨va, vn, vc, rfl⟩ := h.isSlice
  have H := Lib.hid h; clear h
  have HC := Lib.hid hcl; clear hcl
  have HPV := Lib.hid hpv; clear hpv
  have hpl := World.block_lt_of_cell? w _ hp
  dsimp only at hpl
  go_enter Tryf.func23, Tryf.ntmps23
  go_wp2_with fail
  refine (hasClean_any _ base _ l H.out).mono ?_
  rintro e w' ⟨rfl, rfl⟩
  rw [HC.out]
  go_wp2_with fail
  refine (mkElem_any _ 0 0 0 _ 0 0 (Or.inl ⟨rfl, by omega⟩) (by omega)).mono ?_
  rintro e w1 ⟨rfl, hw1⟩
  have hk : Kept [] w' w1 := hw1 ▸ ((Kept.refl [] w').alloc _).alloc _
  clear hw1
  have HK := Lib.hid hk; clear hk
  go_wp2_with fail
  refine (fapp_plain _ base pb po _ l ⟨some ⟨w'.heap.size, 0, none⟩, 0, 0, 0, 0, 0⟩ (H.out.kept HK.out (by simp)) (HK.out.cell hp (by simp)) ((HK.out.frozen hpl (by simp)).trans hpf) HPV.out hlen (Nat.le_trans hb HK.out.size) (by rw [HC.out]; rfl) (by simp)).mono ?_
  rintro e w2 ⟨rfl, hA⟩
  have HA := Lib.hid (hA.before HK.out hpl); clear hA
  go_wp2_with fail
  go_end0
  exact ⟨rfl, _, HA.out⟩
end Go.Proofs.YtfacfgecnpeceaaFmt
