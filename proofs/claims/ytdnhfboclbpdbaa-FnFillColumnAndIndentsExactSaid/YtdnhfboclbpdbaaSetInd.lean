/- The contract of FixIndentation.setIndents: every element that is no interstitial gets the first indent, the last such one the second; nothing else changes. -/
import Derived.Test.YtdnhfboclbpdbaaCom
namespace Go.Proofs.Ytdnhfboclbpdbaa
open Go.ChangeShapes Go.WideShapes Go.ChangeAt Go.RowKit

/-- How many elements are no interstitial. -/
def cntNL (l : List FE) : Nat := l.countP (fun e => e.k != 1)
theorem cntNL_take (l : List FE) (m : Nat) (e : FE) (he : l[m]? = some e) : cntNL (l.take (m + 1)) = cntNL (l.take m) + if (e.k != 1) = true then 1 else 0 := by
  unfold cntNL
  rw [List.take_add_one, he]
  simp [List.countP_append, List.countP_cons]
theorem cntNL_le (l : List FE) (m : Nat) : cntNL (l.take m) ≤ cntNL l := by
  unfold cntNL
  exact List.Sublist.countP_le (List.take_sublist m l)
theorem cntNL_len (l : List FE) : cntNL l ≤ l.length := List.countP_le_length

/-- The new indent of element j. -/
def reE (l : List FE) (al la : Int) (j : Nat) (e : FE) : FE :=
  if (e.k != 1) = true then { e with i := if cntNL (l.take j) + 1 < cntNL l then al else la } else e
/-- The fodder when the first m elements have been looked at. -/
def reTo (l : List FE) (al la : Int) (m : Nat) : List FE := l.mapIdx fun j e => if j < m then reE l al la j e else e
/-- The fodder behind setIndents. -/
def reAll (l : List FE) (al la : Int) : List FE := l.mapIdx fun j e => reE l al la j e
theorem reTo_length (l : List FE) (al la : Int) (m : Nat) : (reTo l al la m).length = l.length := by simp [reTo]
theorem reTo_get (l : List FE) (al la : Int) (m : Nat) : (reTo l al la m)[m]? = l[m]? := by
  simp only [reTo, List.getElem?_mapIdx]
  cases l[m]? <;> simp
theorem reTo_zero (l : List FE) (al la : Int) : reTo l al la 0 = l := by
  apply List.ext_getElem?
  intro j
  simp only [reTo, List.getElem?_mapIdx]
  cases l[j]? <;> simp
theorem reTo_full (l : List FE) (al la : Int) (m : Nat) (h : l.length ≤ m) : reTo l al la m = reAll l al la := by
  apply List.ext_getElem?
  intro j
  simp only [reTo, reAll, List.getElem?_mapIdx]
  by_cases hj : j < l.length
  · have : j < m := by omega
    simp [this]
  · rw [List.getElem?_eq_none (by omega)]; rfl
theorem reTo_set (l : List FE) (al la : Int) (m : Nat) (e : FE) (he : l[m]? = some e) : (reTo l al la m).set m (reE l al la m e) = reTo l al la (m + 1) := by
  apply List.ext_getElem?
  intro j
  have hm := (List.getElem?_eq_some_iff.1 he).1
  rw [List.getElem?_set]
  by_cases hj : m = j
  · subst hj
    rw [if_pos rfl, if_pos (by rw [reTo_length]; exact hm)]
    simp [reTo, List.getElem?_mapIdx, he]
  · rw [if_neg hj]
    simp only [reTo, List.getElem?_mapIdx]
    have : (j < m) = (j < m + 1) := by apply propext; omega
    simp only [this]
theorem reTo_skip (l : List FE) (al la : Int) (m : Nat) (e : FE) (he : l[m]? = some e) (hk : (e.k != 1) = false) : reTo l al la (m + 1) = reTo l al la m := by
  rw [← reTo_set l al la m e he]
  have : reE l al la m e = e := by simp [reE, hk]
  rw [this]
  apply List.ext_getElem?
  intro j
  rw [List.getElem?_set]
  by_cases hj : m = j
  · subst hj
    rw [reTo_get, he, if_pos rfl, if_pos (by rw [reTo_length]; exact (List.getElem?_eq_some_iff.1 he).1)]
  · rw [if_neg hj]

/-- What setIndents leaves behind. -/
def SetInd (base : Nat) (v : Value) (l' : List FE) (w w' : World) : Prop := Fod w' base v l' ∧ ∀ S : List Nat, (∀ g, v.ownBlock = some g → g ∈ S) → Kept S w w'

set_option maxHeartbeats 1000000 in
theorem setIndents_any (w : World) (base : Nat) (p : Option Addr) (v : Value) (l : List FE) (al la : Int) (h : Fod w base v l) (hl : l.length ≤ 1048576) :
    Calls Try.prog 53 #[.pointer p, v, .int .i64 al, .int .i64 la] w fun e w' => e = .returned (.tuple #[]) ∧ SetInd base v (reAll l al la) w w' := by
  obtain ⟨a, cap, rfl, hlc, hcm, ha⟩ := h.slice
  unfold maxLen at hcm
  have hcl := cntNL_len l
  have H := Lib.hid h; clear h
  go_enter Try.func53, Try.ntmps53
  go_wp2
  go_loopw [8, 16] (fun c i wr => ∃ k : Nat, k ≤ l.length ∧ i = .int .i64 k ∧ c = .int .i64 (cntNL (l.take k) : Nat) ∧ Below w.heap.size w wr) (fun _ i _ => l.length - (intOf i).toNat)
  case atStart => exact ⟨0, Nat.zero_le _, rfl, rfl, Below.refl _ _⟩
  case round =>
    obtain ⟨k, hk, rfl, rfl, hb⟩ := hrel
    by_cases hlt : k < l.length
    · obtain ⟨g, rfl, hg1, hg2⟩ := ha k hlt
      have h' := H.out.below hb (Nat.le_refl _)
      obtain ⟨e, he, c0, c1, c2, c3⟩ := h'.cells k hlt
      have hcn := cntNL_take l k e he
      have hle := cntNL_le l k
      generalize cntNL (l.take k) = cn at *
      have HE := Lib.hid he; clear he
      have HN := Lib.hid hcn; clear hcn
      clear ha h'
      have hs := hb.size
      go_wp2
      all_goals
        go_roundw
        case rel =>
          rename_i hne
          refine ⟨k + 1, by omega, by go_num, ?_, hb.alloc hs _⟩
          rw [HN.out]
          first | (rw [if_pos hne]; go_num) | (rw [if_neg (by simpa using hne)]; go_num)
        case measure => simp [intOf]; omega
    · obtain rfl : k = l.length := by omega
      rw [List.take_length]
      have hs := hb.size
      obtain ⟨wo, rfl⟩ : ∃ wo : World, wo = wr := ⟨_, rfl⟩
      have hfo : Fod wo base (.slice a l.length cap) (reTo l al la 0) := by rw [reTo_zero]; exact H.out.below hb (Nat.le_refl _)
      have HFO := Lib.hid hfo; clear hfo
      clear hk hlt
      go_wp2
      go_loopw [11, 28] (fun c i wr => ∃ m : Nat, m ≤ l.length ∧ i = .int .i64 m ∧ c = .int .i64 (cntNL (l.take m) : Nat) ∧ Fod wr base (.slice a l.length cap) (reTo l al la m) ∧
        (∀ S : List Nat, (∀ g, (Value.slice a l.length cap).ownBlock = some g → g ∈ S) → Kept S wo wr)) (fun _ i _ => l.length - (intOf i).toNat)
      case atStart => exact ⟨0, Nat.zero_le _, rfl, rfl, HFO.out, fun S _ => Kept.refl S _⟩
      case round =>
        clear HFO
        obtain ⟨m, hm, rfl, rfl, hf, hkp⟩ := hrel
        have HKP := Lib.hid hkp; clear hkp
        by_cases hlt : m < l.length
        · obtain ⟨g, rfl, hg1, hg2⟩ := ha m hlt
          obtain ⟨e, he, c0, c1, c2, c3⟩ := hf.cells m (by rw [reTo_length]; exact hlt)
          rw [reTo_get] at he
          have hfz := hf.frozen (m * 4 + 3)
          have hcn := cntNL_take l m e he
          have hle := cntNL_le l m
          have hle' := cntNL_le l (m + 1)
          by_cases hk : (e.k != 1) = true
          · rw [if_pos hk] at hcn
            by_cases hc : cntNL (l.take m) + 1 < cntNL l
            · have hset := hf.set m e { e with i := al } (by rw [reTo_get]; exact he) 3 (by omega) (.int .i64 al) (FE.set_i e al)
              have hre : reE l al la m e = { e with i := al } := by simp [reE, hk, hc]
              rw [← hre, reTo_set l al la m e he] at hset
              generalize cntNL (l.take m) = cn at *
              generalize cntNL l = ct at *
              have HE := Lib.hid he; clear he
              have HN := Lib.hid hcn; clear hcn
              have HS := Lib.hid hset; clear hset hf hre ha c0 c2
              go_wp2
              go_roundw
              case rel => exact ⟨m + 1, by omega, by go_num, by rw [HN.out]; go_num, HS.out, fun S hS => (HKP.out S hS).setCell (Or.inl (hS g rfl)) _⟩
              case measure => simp [intOf]; omega
            · have hset := hf.set m e { e with i := la } (by rw [reTo_get]; exact he) 3 (by omega) (.int .i64 la) (FE.set_i e la)
              have hre : reE l al la m e = { e with i := la } := by simp [reE, hk, hc]
              rw [← hre, reTo_set l al la m e he] at hset
              have hcc : ((cntNL (l.take m) : Int) != (cntNL l : Int) - 1) = false := by simp; omega
              generalize cntNL (l.take m) = cn at *
              generalize cntNL l = ct at *
              have HE := Lib.hid he; clear he
              have HN := Lib.hid hcn; clear hcn
              have HS := Lib.hid hset; clear hset hf hre ha c0 c2
              go_wp2
              go_roundw
              case rel => exact ⟨m + 1, by omega, by go_num, by rw [HN.out]; go_num, HS.out, fun S hS => (HKP.out S hS).setCell (Or.inl (hS g rfl)) _⟩
              case measure => simp [intOf]; omega
          · have hk' : (e.k != 1) = false := by simpa using hk
            rw [if_neg hk] at hcn
            have hsk := reTo_skip l al la m e he hk'
            rw [← hsk] at hf
            generalize cntNL (l.take m) = cn at *
            generalize cntNL l = ct at *
            have HE := Lib.hid he; clear he
            have HN := Lib.hid hcn; clear hcn
            have HS := Lib.hid hf; clear hf ha c0 c2 hsk hk
            go_wp2
            go_roundw
            case rel => exact ⟨m + 1, by omega, by go_num, by rw [HN.out]; go_num, HS.out, fun S hS => HKP.out S hS⟩
            case measure => simp [intOf]; omega
        · have hf' : Fod wr base (.slice a l.length cap) (reAll l al la) := by rw [← reTo_full l al la m (by omega)]; exact hf
          have HF := Lib.hid hf'; clear hf hf'
          go_wp2
          go_end0
          exact ⟨rfl, HF.out, fun S hS => (Kept.of_below hb (Nat.le_refl _) S).trans (HKP.out S hS)⟩
end Go.Proofs.Ytdnhfboclbpdbaa
