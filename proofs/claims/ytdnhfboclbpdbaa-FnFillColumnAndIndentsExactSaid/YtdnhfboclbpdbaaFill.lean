/- The contract of FixIndentation.fill over a built fodder: the column, and the indents that it leaves. -/
import Derived.Test.YtdnhfboclbpdbaaIndZ
import Derived.Test.YtdnhfboclbpdbaaBuild
import Derived.Test.YtdnhfboclbpdbaaSetInd
import Derived.StillTailTactics
namespace Go.Proofs.Ytdnhfboclbpdbaa
open Go.ChangeShapes Go.WideShapes Go.ChangeAt Go.RowKit

theorem IsFix.put {w : World} {bc : Nat} {c o : Int} (h : IsFix w bc c o) (x : Int) : IsFix (w.setCell ⟨bc, 0, none⟩ (.int .i64 x)) bc x o := by
  obtain ⟨h1, h2, h3, h4⟩ := h
  refine ⟨by simpa [World.setCell] using h1, ?_, ?_, ?_⟩
  · exact World.cell?_setCell_same _ _ _ h2
  · rw [World.cell?_setCell_other _ _ _ _ (by simp)]; exact h3
  · rw [World.frozen?_setCell]; exact h4
theorem IsFix.grown {w : World} {bc : Nat} {c o : Int} (h : IsFix w bc c o) (ob : Obj) : IsFix (w.alloc ob) bc c o := h.kept ((Kept.refl [] _).alloc ob) (by simp)
theorem IsFix.drew {w : World} {bc : Nat} {c o : Int} (h : IsFix w bc c o) : IsFix w.drew bc c o := h.kept (Kept.refl [] _).drew (by simp)

/-- Column and crowdedness after the first m elements. -/
def fillTo (z : List Int) (tx : Nat → ByteArray) (ind c0 : Int) (cr : Bool) : Nat → Int × Bool
  | 0 => (c0, cr)
  | m + 1 => if z.getD m 0 = 1 then (wrap64 ((if (fillTo z tx ind c0 cr m).2 then wrap64 ((fillTo z tx ind c0 cr m).1 + 1) else (fillTo z tx ind c0 cr m).1) + ((tx m).size : Nat)), true) else (ind, false)
/-- The column behind fill. -/
def fillEnd (p : Int × Bool) (sep : Bool) : Int := if (sep && p.2) = true then wrap64 (p.1 + 1) else p.1

/-- The elements of a built fodder, none of whose comments lies in block bc. -/
def Els (w : World) (B bc len : Nat) (z : List Int) (iv : Nat → Int) (tx : Nat → ByteArray) (l : List FE) : Prop :=
  ∀ j, j < len → ∃ e, l[j]? = some e ∧ IsEl w B (z.getD j 0) (iv j) (tx j) e ∧ ∀ g, e.ca = some ⟨g, 0, none⟩ → g ≠ bc

/-- The elements behind setIndents. -/
def Els2 (w : World) (B bc len : Nat) (z : List Int) (iv : Nat → Int) (tx : Nat → ByteArray) (ind : Int) (l : List FE) : Prop :=
  Els w B bc len z (fun j => if z.getD j 0 = 1 then iv j else ind) tx l

theorem Els.kept {w w' : World} {B bc len : Nat} {z : List Int} {iv : Nat → Int} {tx : Nat → ByteArray} {l : List FE} {S : List Nat} (h : Els w B bc len z iv tx l) (hk : Kept S w w')
    (hS : ∀ x ∈ S, x ≤ B ∨ w.heap.size ≤ x ∨ x = bc) : Els w' B bc len z iv tx l := by
  intro j hj
  obtain ⟨e, he, ⟨h1, h2, h3, h4, h5⟩, hg⟩ := h j hj
  refine ⟨e, he, ⟨h1, h2, h3, fun hk1 => ?_, h5⟩, hg⟩
  obtain ⟨g, g1, g2, g3, g4, g5, g6⟩ := h4 hk1
  refine ⟨g, g1, g2, g3, g4, Nat.lt_of_lt_of_le g5 hk.size, hk.cell g6 (fun hm => ?_)⟩
  have hne := hg g g1
  rcases hS _ hm with h | h | h <;> simp at h <;> omega

theorem reAll_els {w : World} {B bc len : Nat} {z : List Int} {iv : Nat → Int} {tx : Nat → ByteArray} {l : List FE} (h : Els w B bc len z iv tx l) (ind : Int) : Els2 w B bc len z iv tx ind (reAll l ind ind) := by
  intro j hj
  obtain ⟨e, he, ⟨h1, h2, h3, h4, h5⟩, hg⟩ := h j hj
  have hk : (e.k != 1) = !(z.getD j 0 == 1) := by rw [← kd_one, ← h1]; rfl
  by_cases hz : z.getD j 0 = 1
  · refine ⟨e, ?_, ⟨h1, h2, by simp only [hz, if_true]; exact h3, h4, h5⟩, hg⟩
    simp only [reAll, List.getElem?_mapIdx, he, Option.map_some, reE]
    have : (e.k != 1) = false := by rw [hk, hz]; rfl
    simp [this]
  · refine ⟨{ e with i := ind }, ?_, ⟨h1, h2, by simp only [hz, if_false], h4, h5⟩, hg⟩
    simp only [reAll, List.getElem?_mapIdx, he, Option.map_some, reE]
    have : (e.k != 1) = true := by rw [hk]; simpa using hz
    simp [this]

/-- What fill leaves behind. -/
def Filled (B bc len : Nat) (v : Value) (z : List Int) (iv : Nat → Int) (tx : Nat → ByteArray) (ind opt c1 : Int) (w w' : World) : Prop :=
  IsFix w' bc c1 opt ∧ (∃ l, l.length = len ∧ Fod w' B v l ∧ Els2 w' B bc len z iv tx ind l) ∧ Kept [B, bc] w w'

set_option maxRecDepth 100000 in
set_option maxHeartbeats 2000000 in
theorem fillLast_any (w : World) (B bc len cap : Nat) (z : List Int) (iv : Nat → Int) (tx : Nat → ByteArray) (ind opt c0 : Int) (cr sep : Bool) (l : List FE) (hl : l.length = len) (hlen : len ≤ 1048576)
    (hf : Fod w B (.slice (some ⟨B, 0, none⟩) len cap) l) (hel : Els w B bc len z iv tx l) (hfx : IsFix w bc c0 opt) (hne : bc ≠ B) (hts : ∀ j, j < len → (tx j).size ≤ 9223372036854775807) :
    Calls Try.prog 52 #[.pointer (some ⟨bc, 0, none⟩), .slice (some ⟨B, 0, none⟩) len cap, .bool cr, .bool sep, .int .i64 ind, .int .i64 ind] w fun e w' =>
      e = .returned (.tuple #[]) ∧ Filled B bc len (.slice (some ⟨B, 0, none⟩) len cap) z iv tx ind opt (fillEnd (fillTo z tx ind c0 cr len) sep) w w' := by
  have HF := Lib.hid hf; clear hf
  have HE := Lib.hid hel; clear hel
  have HX := Lib.hid hfx; clear hfx
  have HT := Lib.hid hts; clear hts
  go_enter Try.func52, Try.ntmps52
  go_wp2_with fail
  refine (setIndents_any _ B _ _ l ind ind HF.out (by omega)).mono ?_
  rintro e w1 ⟨rfl, hf1, hk1⟩
  have hk1 : Kept [B] w w1 := hk1 [B] (by simp [Value.ownBlock])
  have HE1 := Lib.hid (reAll_els (HE.out.kept hk1 (by simp)) ind); clear HE
  have HX1 := Lib.hid (HX.out.kept hk1 (by simpa using hne)); clear HX HF
  have hll : (reAll l ind ind).length = len := by rw [← hl]; simp [reAll]
  have HK1 := Lib.hid hk1; clear hk1
  generalize hlr : reAll l ind ind = lr at *
  clear hlr hl
  have HF1 := Lib.hid hf1; clear hf1
  have HLL := Lib.hid hll; clear hll
  go_wp2_with fail
  go_loopw [2, 21] (fun c i wr => ∃ m : Nat, m ≤ len ∧ i = .int .i64 m ∧ c = .bool (fillTo z tx ind c0 cr m).2 ∧ IsFix wr bc (fillTo z tx ind c0 cr m).1 opt ∧ Kept [bc] w1 wr) (fun _ i _ => len - (intOf i).toNat)
  case atStart => exact ⟨0, Nat.zero_le _, rfl, rfl, HX1.out, Kept.refl _ _⟩
  case round =>
    clear HX1
    obtain ⟨m, hm, rfl, rfl, hfx, hk⟩ := hrel
    by_cases hlt : m < len
    · obtain ⟨e, he, ⟨h1, h2, h3, h4, h5⟩, hg⟩ := (HE1.out.kept hk (by simp)) m hlt
      obtain ⟨e', he', c0', c1', c2', c3'⟩ := (HF1.out.kept hk (by simpa [Value.ownBlock] using hne.symm)).cells m (by rw [HLL.out]; exact hlt)
      obtain rfl : e = e' := by rw [he] at he'; simpa using he'
      have HIX := Lib.hid hfx
      obtain ⟨hbl, hcol, hopt, hfz⟩ := hfx
      have htm := HT.out m hlt
      have hstep : fillTo z tx ind c0 cr (m + 1) = if z.getD m 0 = 1 then (wrap64 ((if (fillTo z tx ind c0 cr m).2 then wrap64 ((fillTo z tx ind c0 cr m).1 + 1) else (fillTo z tx ind c0 cr m).1) + ((tx m).size : Nat)), true) else (ind, false) := rfl
      have HST := Lib.hid hstep; clear hstep
      generalize fillTo z tx ind c0 cr m = fm at *
      obtain ⟨cm, rm⟩ := fm
      dsimp only at *
      have HK := Lib.hid hk; clear hk he he'
      have hB : B < wr.heap.size := by have := World.block_lt_of_cell? wr _ c1'; simpa using this
      obtain ⟨eca, ecl, ecc, ek, eb, ei⟩ := e
      dsimp only at *
      by_cases hz : z.getD m 0 = 1
      · obtain ⟨g, rfl, rfl, rfl, g4, g5, g6⟩ := h4 hz
        have hgb := hg g rfl
        clear h4 h5 hg
        rw [if_pos hz] at HST
        obtain rfl : ek = 1 := by rw [h1, hz]; rfl
        clear h1 h3 hz HE1 HF1 HLL HT h2
        generalize hts : tx m = tm at *
        cases rm
        · go_wp2_with fail
          go_region
          go_wp2
          go_roundw
          case rel => exact ⟨m + 1, by omega, by go_num, by rw [HST.out], by rw [HST.out]; exact ((HIX.out.put _).grown _).drew, ((HK.out.setCell (Or.inl (by simp)) _).alloc _).drew⟩
          case measure => simp [intOf]; omega
        · go_wp2_with fail
          go_region
          go_wp2
          go_roundw
          case rel => exact ⟨m + 1, by omega, by go_num, by rw [HST.out], by rw [HST.out]; exact (((HIX.out.put _).put _).grown _).drew, (((HK.out.setCell (Or.inl (by simp)) _).setCell (Or.inl (by simp)) _).alloc _).drew⟩
          case measure => simp [intOf]; omega
      · rw [if_neg hz] at HST
        by_cases hz2 : z.getD m 0 = 2
        · obtain rfl : ek = 2 := by rw [h1, hz2]; rfl
          obtain rfl : ei = ind := by rw [h3, if_neg hz]
          clear h1 h3 hz hz2 HE1 HF1 HLL HT h2 h4 h5 hg htm
          go_wp2_with fail
          go_roundw
          case rel => exact ⟨m + 1, by omega, by go_num, by rw [HST.out], by rw [HST.out]; exact (HIX.out.put _).grown _, (HK.out.setCell (Or.inl (by simp)) _).alloc _⟩
          case measure => simp [intOf]; omega
        · obtain rfl : ek = 0 := by rw [h1]; unfold kd; rw [if_neg hz, if_neg hz2]
          obtain rfl : ei = ind := by rw [h3, if_neg hz]
          clear h1 h3 hz hz2 HE1 HF1 HLL HT h2 h4 h5 hg htm
          go_wp2_with fail
          go_roundw
          case rel => exact ⟨m + 1, by omega, by go_num, by rw [HST.out], by rw [HST.out]; exact (HIX.out.put _).grown _, (HK.out.setCell (Or.inl (by simp)) _).alloc _⟩
          case measure => simp [intOf]; omega
    · obtain rfl : m = len := by omega
      generalize hfm : fillTo z tx ind c0 cr m = fm at *
      obtain ⟨cm, rm⟩ := fm
      have HFM := Lib.hid hfm; clear hfm
      dsimp only at *
      have HIX := Lib.hid hfx
      obtain ⟨hbl, hcol, hopt, hfz⟩ := hfx
      have HFin : Filled B bc m (.slice (some ⟨B, 0, none⟩) m cap) z iv tx ind opt cm w wr := by
        refine ⟨HIX.out, ⟨lr, HLL.out, HF1.out.kept hk (by simpa [Value.ownBlock] using hne.symm), HE1.out.kept hk (by simp)⟩, ?_⟩
        exact (HK1.out.mono (by simp)).then hk (by simp)
      have HFin2 : Filled B bc m (.slice (some ⟨B, 0, none⟩) m cap) z iv tx ind opt (wrap64 (cm + 1)) w (wr.setCell ⟨bc, 0, none⟩ (.int .i64 (wrap64 (cm + 1)))) := by
        obtain ⟨_, ⟨l2, q1, q2, q3⟩, q4⟩ := HFin
        have hk2 : Kept [bc] wr (wr.setCell ⟨bc, 0, none⟩ (.int .i64 (wrap64 (cm + 1)))) := (Kept.refl _ _).setCell (Or.inl (by simp)) _
        exact ⟨HIX.out.put _, ⟨l2, q1, q2.kept hk2 (by simpa [Value.ownBlock] using hne.symm), q3.kept hk2 (by simp)⟩, q4.setCell (Or.inl (by simp)) _⟩
      have F1 := Lib.hid HFin; clear HFin
      have F2 := Lib.hid HFin2; clear HFin2
      clear HT hk HF1 HE1 HLL HK1 HIX
      cases sep
      · go_wp2_with fail
        go_end0
        exact ⟨rfl, by rw [HFM.out]; exact F1.out⟩
      · cases rm
        · go_wp2_with fail
          go_end0
          exact ⟨rfl, by rw [HFM.out]; exact F1.out⟩
        · go_wp2_with fail
          go_end0
          exact ⟨rfl, by rw [HFM.out]; exact F2.out⟩
end Go.Proofs.Ytdnhfboclbpdbaa
