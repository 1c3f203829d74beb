/- Plain laws: what a chain says, told by the codes of its levels. -/
import Derived.Test.YtgdipdbmllkckaaGreatFmtBs3
import Derived.Test.YtgdipdbmllkckaaGreatFmtEn
namespace Go.Proofs.YtgdipdbmllkckaaGreatFmt
open Go.ChangeShapes Go.WideShapes Go.ChangeAt Go.RowKit

/-- The codes of every fodder of the chain. -/
theorem Sn.at {P : Pl} {l : Nat × Nat → List FE} {ss : List SE} (h : Sn P l ss.length ss) (hg : ∀ s ∈ ss, GoodSp s) (hs : ∀ s ∈ ss, SmallE s) (x : Nat × Nat) (hx : P.In ss.length x) : GoodL (codes (l x)) ∧ (l x).length ≤ 1048576 := by
  obtain ⟨i, j⟩ := x
  obtain ⟨h1, h2⟩ := hx
  dsimp only at h1 h2
  have he := List.getElem?_eq_getElem h1
  obtain ⟨e1, e2, e3⟩ := h i _ h1 he
  have hm := List.getElem_mem h1
  obtain ⟨g1, g2⟩ := hg _ hm
  obtain ⟨s1, s2, s3⟩ := hs _ hm
  have len : ∀ {m : List FE} {d : List ZE}, codes m = d → m.length = d.length := fun e => by rw [← e]; simp [codes]
  cases j with
  | zero => exact ⟨by rw [e2]; exact g1, by rw [len e2]; exact s1⟩
  | succ j =>
    rw [e1] at h2
    have hj : j < ss[i].ifs.length := by omega
    have e := e3 j _ (List.getElem?_eq_getElem hj)
    have hmj := List.getElem_mem hj
    exact ⟨by rw [e]; exact g2 _ hmj, by rw [len e]; exact s3 _ hmj⟩

theorem chTo_says {P : Pl} {l : Nat × Nat → List FE} {ss : List SE} (h : Sn P l ss.length ss) (hg : ∀ x, P.In ss.length x → GoodL (codes (l x)) ∧ (l x).length ≤ 1048577) : chTo l P.m ss.length = specsNL ss := by
  have key : ∀ x, P.In ss.length x → (0 < sumNL (l x) ↔ hasNL (codes (l x)) = true) := fun x hx => by
    obtain ⟨a, b⟩ := hg x hx
    rw [← sumNL_pos (l x) a (by omega), decide_eq_true_iff]
  rw [Bool.eq_iff_iff, chTo_iff]
  unfold specsNL spNL
  simp only [List.any_eq_true, Bool.or_eq_true]
  constructor
  · rintro ⟨i, j, hi, hj, hp⟩
    obtain ⟨e1, e2, e3⟩ := h i _ hi (List.getElem?_eq_getElem hi)
    have hp' := (key (i, j) ⟨hi, hj⟩).1 hp
    refine ⟨_, List.getElem_mem hi, ?_⟩
    cases j with
    | zero => rw [e2] at hp'; exact Or.inl hp'
    | succ j =>
      have hjl : j < ss[i].ifs.length := by omega
      rw [e3 j _ (List.getElem?_eq_getElem hjl)] at hp'
      exact Or.inr ⟨_, List.getElem_mem hjl, hp'⟩
  · rintro ⟨s, hs', hp⟩
    obtain ⟨i, hi, rfl⟩ := List.getElem_of_mem hs'
    obtain ⟨e1, e2, e3⟩ := h i _ hi (List.getElem?_eq_getElem hi)
    rcases hp with hp | ⟨d, hd, hp⟩
    · exact ⟨i, 0, hi, Nat.zero_le _, (key (i, 0) ⟨hi, Nat.zero_le _⟩).2 (by rw [e2]; exact hp)⟩
    · obtain ⟨j, hj, rfl⟩ := List.getElem_of_mem hd
      have hjm : j + 1 ≤ P.m i := by omega
      exact ⟨i, j + 1, hi, hjm, (key (i, j + 1) ⟨hi, hjm⟩).2 (by rw [e3 j _ (List.getElem?_eq_getElem hj)]; exact hp)⟩

theorem chTo_specs {P : Pl} {l : Nat × Nat → List FE} {ss : List SE} (h : Sn P l ss.length ss) (hg : ∀ s ∈ ss, GoodSp s) (hs : ∀ s ∈ ss, SmallE s) : chTo l P.m ss.length = specsNL ss :=
  chTo_says h (fun x hx => by obtain ⟨a, b⟩ := h.at hg hs x hx; exact ⟨a, by omega⟩)

theorem Raw.chf {w : World} {base : Nat} {P : Pl} {v : Nat × Nat → Value} {l : Nat × Nat → List FE} {ss : List SE} (h : Raw w base ss.length P v l) (hn : Sn P l ss.length ss) (hg : ∀ s ∈ ss, GoodSp s) (hs : ∀ s ∈ ss, SmallE s) : ChF w base ss.length P v l :=
  ⟨h.fam.c, h.fod, fun x hx => kinds_of_good (hn.at hg hs x hx).1⟩

/-- A level's value, its parts in sight. -/
def lvlOf (va : Option Addr) (vn vc : Nat) (ca : Option Addr) (m cc : Nat) (po : Option Addr) (x : Nat) : Array Value :=
  #[.slice va vn vc, .slice none 0 0, .slice ca m cc, .pointer po, .iface 104 (.pointer (some ⟨x, 0, none⟩)), .string ⟨#[120]⟩, .slice none 0 0]
theorem lvl_of {w : World} {base n : Nat} {P : Pl} {v : Nat × Nat → Value} {l : Nat × Nat → List FE} (h : Raw w base n P v l) (k : Nat) (hk : k < n) : ∃ va vn vc po, v (k, 0) = .slice va vn vc ∧ P.out k = .pointer po ∧ P.lvl (v (k, 0)) k = .agg (lvlOf va vn vc (P.ca k) (P.m k) (P.cc k) po (P.xe k)) := by
  obtain ⟨va, vn, vc, hv⟩ := (h.fod (k, 0) ⟨hk, Nat.zero_le _⟩).isSlice
  obtain ⟨po, hpo⟩ := P.out_ptr k
  exact ⟨va, vn, vc, po, hv, hpo, by unfold Pl.lvl nulI lvlOf; rw [hv, hpo]⟩

end Go.Proofs.YtgdipdbmllkckaaGreatFmt
