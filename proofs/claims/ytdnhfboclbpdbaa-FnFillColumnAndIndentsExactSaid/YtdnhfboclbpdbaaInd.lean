/- The contracts of the indent rules align, alignStrong, newIndent, newIndentStrong of FixIndentation, and of their exports. -/
import Derived.Test.YtdnhfboclbpdbaaCom
namespace Go.Proofs.Ytdnhfboclbpdbaa
open Go.ChangeShapes Go.WideShapes Go.ChangeAt Go.RowKit

/-- The fodder starts on the same line: it is empty or opens with an interstitial. -/
def sameL : List FE → Bool
  | [] => true
  | e :: _ => e.k == 1

/-- A choice that the walk does not look into. -/
def selI (b : Bool) (p q : Int) : Int := if b then p else q

/-- Two ints come back, nothing that was there is written. -/
def Two (w : World) (x y : Int) (e : Ending) (w' : World) : Prop := e = .returned (.tuple #[.int .i64 x, .int .i64 y]) ∧ Below w.heap.size w w'
def Pair (w : World) (x y : Int) (e : Ending) (w' : World) : Prop := e = .returned (.agg #[.int .i64 x, .int .i64 y]) ∧ Below w.heap.size w w'

/-- What the first test needs: the length, and the first element's kind. -/
theorem Fod.head {w : World} {base : Nat} {v : Value} {l : List FE} (h : Fod w base v l) :
    (∃ a cap, v = .slice a 0 cap ∧ sameL l = true) ∨
    (∃ g n cap k, v = .slice (some ⟨g, 0, none⟩) n cap ∧ g < w.heap.size ∧ 0 < n ∧ n ≤ maxLen ∧ w.cell? ⟨g, 1, none⟩ = some (.int .i64 k) ∧ sameL l = (k == 1)) := by
  obtain ⟨a, cap, rfl, hlc, hcm, ha⟩ := h.slice
  cases l with
  | nil => exact Or.inl ⟨a, cap, rfl, rfl⟩
  | cons e l =>
    obtain ⟨g, rfl, _, hg⟩ := ha 0 (by simp)
    obtain ⟨e', he, _, c1, _⟩ := h.cells 0 (by simp)
    simp at he
    subst he
    exact Or.inr ⟨g, _, cap, e.k, rfl, hg, by simp, by omega, by simpa using c1, rfl⟩


set_option maxHeartbeats 400000 in
theorem align_any (w : World) (base : Nat) (p : Option Addr) (v : Value) (l : List FE) (x y u : Int) (h : Fod w base v l) :
    Calls Try.prog 45 #[.pointer p, v, .agg #[.int .i64 x, .int .i64 y], .int .i64 u] w (Pair w (selI (sameL l) x x) (selI (sameL l) u y)) := by
  rcases h.head with ⟨a, cap, rfl, hs⟩ | ⟨g, n, cap, k, rfl, hg, hn, hm, hc, hs⟩
  · rw [hs]
    clear hs h
    go_enter Try.func45, Try.ntmps45
    go_wp2
    refine bodyPost_ret (v := .agg #[.int .i64 x, .int .i64 u]) (by simp [results, Try.results45, go_sem]) rfl ⟨rfl, ?_⟩
    exact (((Below.refl _ _).alloc (Nat.le_refl _) _).alloc (by simp) _)
  · rw [hs]
    clear hs h
    unfold maxLen at hm
    have hn' : ((n : Int) == 0) = false := by simp; omega
    cases hk : (k == 1)
    · go_enter Try.func45, Try.ntmps45
      go_wp2
      refine bodyPost_ret (v := .agg #[.int .i64 x, .int .i64 y]) (by simp [results, Try.results45, go_sem]) rfl ⟨rfl, ?_⟩
      exact (((Below.refl _ _).alloc (Nat.le_refl _) _).alloc (by simp) _)
    · go_enter Try.func45, Try.ntmps45
      go_wp2
      refine bodyPost_ret (v := .agg #[.int .i64 x, .int .i64 u]) (by simp [results, Try.results45, go_sem]) rfl ⟨rfl, ?_⟩
      exact (((Below.refl _ _).alloc (Nat.le_refl _) _).alloc (by simp) _)

set_option maxHeartbeats 400000 in
theorem alignStrong_any (w : World) (base : Nat) (p : Option Addr) (v : Value) (l : List FE) (x y u : Int) (h : Fod w base v l) :
    Calls Try.prog 48 #[.pointer p, v, .agg #[.int .i64 x, .int .i64 y], .int .i64 u] w (Pair w (selI (sameL l) u x) (selI (sameL l) u y)) := by
  rcases h.head with ⟨a, cap, rfl, hs⟩ | ⟨g, n, cap, k, rfl, hg, hn, hm, hc, hs⟩
  · rw [hs]
    clear hs h
    go_enter Try.func48, Try.ntmps48
    go_wp2
    refine bodyPost_ret (v := .agg #[.int .i64 u, .int .i64 u]) (by simp [results, Try.results48, go_sem]) rfl ⟨rfl, ?_⟩
    exact (((Below.refl _ _).alloc (Nat.le_refl _) _).alloc (by simp) _)
  · rw [hs]
    clear hs h
    unfold maxLen at hm
    have hn' : ((n : Int) == 0) = false := by simp; omega
    cases hk : (k == 1)
    · go_enter Try.func48, Try.ntmps48
      go_wp2
      refine bodyPost_ret (v := .agg #[.int .i64 x, .int .i64 y]) (by simp [results, Try.results48, go_sem]) rfl ⟨rfl, ?_⟩
      exact (((Below.refl _ _).alloc (Nat.le_refl _) _).alloc (by simp) _)
    · go_enter Try.func48, Try.ntmps48
      go_wp2
      refine bodyPost_ret (v := .agg #[.int .i64 u, .int .i64 u]) (by simp [results, Try.results48, go_sem]) rfl ⟨rfl, ?_⟩
      exact (((Below.refl _ _).alloc (Nat.le_refl _) _).alloc (by simp) _)

set_option maxHeartbeats 400000 in
theorem newIndent_any (w : World) (base : Nat) (bc : Nat) (v : Value) (l : List FE) (x y u o : Int) (h : Fod w base v l) (hbc : bc < w.heap.size) (hcc : w.cell? ⟨bc, 1, none⟩ = some (.int .i64 o)) :
    Calls Try.prog 46 #[.pointer (some ⟨bc, 0, none⟩), v, .agg #[.int .i64 x, .int .i64 y], .int .i64 u] w (Pair w (selI (sameL l) x (wrap64 (x + o))) (selI (sameL l) u (wrap64 (x + o)))) := by
  rcases h.head with ⟨a, cap, rfl, hs⟩ | ⟨g, n, cap, k, rfl, hg, hn, hm, hc, hs⟩
  · rw [hs]
    clear hs h
    go_enter Try.func46, Try.ntmps46
    go_wp2
    refine bodyPost_ret (v := .agg #[.int .i64 x, .int .i64 u]) (by simp [results, Try.results46, go_sem]) rfl ⟨rfl, ?_⟩
    exact (((Below.refl _ _).alloc (Nat.le_refl _) _).alloc (by simp) _)
  · rw [hs]
    clear hs h
    unfold maxLen at hm
    have hn' : ((n : Int) == 0) = false := by simp; omega
    cases hk : (k == 1)
    · go_enter Try.func46, Try.ntmps46
      go_wp2
      go_region
      go_wp2
      refine bodyPost_ret (v := .agg #[.int .i64 (wrap64 (x + o)), .int .i64 (wrap64 (x + o))]) (by simp [results, Try.results46, go_sem]) rfl ⟨rfl, ?_⟩
      exact (((Below.refl _ _).alloc (Nat.le_refl _) _).alloc (by simp) _).drew
    · go_enter Try.func46, Try.ntmps46
      go_wp2
      refine bodyPost_ret (v := .agg #[.int .i64 x, .int .i64 u]) (by simp [results, Try.results46, go_sem]) rfl ⟨rfl, ?_⟩
      exact (((Below.refl _ _).alloc (Nat.le_refl _) _).alloc (by simp) _)

set_option maxHeartbeats 400000 in
theorem newIndentStrong_any (w : World) (base : Nat) (bc : Nat) (v : Value) (l : List FE) (x y u o : Int) (h : Fod w base v l) (hbc : bc < w.heap.size) (hcc : w.cell? ⟨bc, 1, none⟩ = some (.int .i64 o)) :
    Calls Try.prog 49 #[.pointer (some ⟨bc, 0, none⟩), v, .agg #[.int .i64 x, .int .i64 y], .int .i64 u] w (Pair w (selI (sameL l) u (wrap64 (x + o))) (selI (sameL l) u (wrap64 (x + o)))) := by
  rcases h.head with ⟨a, cap, rfl, hs⟩ | ⟨g, n, cap, k, rfl, hg, hn, hm, hc, hs⟩
  · rw [hs]
    clear hs h
    go_enter Try.func49, Try.ntmps49
    go_wp2
    refine bodyPost_ret (v := .agg #[.int .i64 u, .int .i64 u]) (by simp [results, Try.results49, go_sem]) rfl ⟨rfl, ?_⟩
    exact (((Below.refl _ _).alloc (Nat.le_refl _) _).alloc (by simp) _)
  · rw [hs]
    clear hs h
    unfold maxLen at hm
    have hn' : ((n : Int) == 0) = false := by simp; omega
    cases hk : (k == 1)
    · go_enter Try.func49, Try.ntmps49
      go_wp2
      go_region
      go_wp2
      refine bodyPost_ret (v := .agg #[.int .i64 (wrap64 (x + o)), .int .i64 (wrap64 (x + o))]) (by simp [results, Try.results49, go_sem]) rfl ⟨rfl, ?_⟩
      exact (((Below.refl _ _).alloc (Nat.le_refl _) _).alloc (by simp) _).drew
    · go_enter Try.func49, Try.ntmps49
      go_wp2
      refine bodyPost_ret (v := .agg #[.int .i64 u, .int .i64 u]) (by simp [results, Try.results49, go_sem]) rfl ⟨rfl, ?_⟩
      exact (((Below.refl _ _).alloc (Nat.le_refl _) _).alloc (by simp) _)
end Go.Proofs.Ytdnhfboclbpdbaa
