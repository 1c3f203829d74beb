/- The contracts of ast.FodderHasCleanEndline, MakeFodderElement, FodderAppend: what is read, and what an append leaves. -/
import Derived.Test.YtfacfgecnpeceaaFmtCom
import Derived.StillTailTactics
import Derived.Deep.AppendLies
import Derived.Deep.RegionLaw
namespace Go.Proofs.YtfacfgecnpeceaaFmt
open Go.ChangeShapes Go.WideShapes Go.ChangeAt Go.RowKit

/-- The fodder ends a line. -/
def clean (l : List FE) : Bool := match l.getLast? with | some e => e.k != 1 | none => false

theorem clean_at {l : List FE} {n : Nat} {e : FE} (hl : l.length = n + 1) (he : l[n]? = some e) : clean l = (e.k != 1) := by
  unfold clean
  rw [List.getLast?_eq_getElem?, hl, Nat.add_sub_cancel, he]

set_option maxHeartbeats 400000 in
theorem hasClean_any (w : World) (base : Nat) (v : Value) (l : List FE) (h : Fod w base v l) :
    Calls Tryf.prog 27 #[v] w fun e w' => e = .returned (.bool (clean l)) ∧ w' = w := by
  obtain ⟨a, cap, rfl, hlc, hcm, ha⟩ := h.slice
  unfold maxLen at hcm
  by_cases h0 : l = []
  · subst h0
    clear ha h
    go_enter Tryf.func27, Tryf.ntmps27
    go_wp2
    go_ret
    exact ⟨rfl, rfl⟩
  · obtain ⟨n, hn⟩ : ∃ n, l.length = n + 1 := ⟨l.length - 1, by have := List.length_pos_iff.2 h0; omega⟩
    obtain ⟨g, rfl, hg1, hg2⟩ := ha n (by omega)
    obtain ⟨e, he, c0, c1, c2, c3⟩ := h.cells n (by omega)
    have hcl := clean_at hn he
    rw [hcl, hn]
    rw [hn] at hlc
    have H := Lib.hid h; clear h
    clear ha hn he hcl c0 c2 c3
    go_enter Tryf.func27, Tryf.ntmps27
    go_wp2
    go_ret
    exact ⟨rfl, rfl⟩

set_option maxHeartbeats 400000 in
theorem mkElem_any (w : World) (k b i : Int) (ca : Option Addr) (cl cc : Nat) (h : (k = 0 ∧ cl ≤ 1) ∨ (k = 2 ∧ 0 < cl)) (hcl : cl ≤ 9223372036854775807) :
    Calls Tryf.prog 29 #[.int .i64 k, .int .i64 b, .int .i64 i, .slice ca cl cc] w fun e w' => e = .returned (.agg #[.slice ca cl cc, .int .i64 k, .int .i64 b, .int .i64 i]) ∧
      w.alloc (.cells #[.slice ca cl cc, .int .i64 k, .int .i64 b, .int .i64 i] 87) = w' := by
  rcases h with ⟨rfl, h⟩ | ⟨rfl, h⟩
  · go_enter Tryf.func29, Tryf.ntmps29
    go_wp2_with fail
    exact bodyPost_ret (v := .agg #[.slice ca cl cc, .int .i64 0, .int .i64 b, .int .i64 i]) (by simp [results, Tryf.results29, go_sem]) rfl ⟨rfl, rfl⟩
  · have h0 : ((cl : Int) == 0) = false := by simp; omega
    go_enter Tryf.func29, Tryf.ntmps29
    go_wp2_with fail
    exact bodyPost_ret (v := .agg #[.slice ca cl cc, .int .i64 2, .int .i64 b, .int .i64 i]) (by simp [results, Tryf.results29, go_sem]) rfl ⟨rfl, rfl⟩

/-- Of block pb no cell but the one at po has changed. -/
def Rest (pb po : Nat) (w w' : World) : Prop := (∀ j, j ≠ po → w'.cell? ⟨pb, j, none⟩ = w.cell? ⟨pb, j, none⟩) ∧ ∀ j, w'.frozen? ⟨pb, j, none⟩ = w.frozen? ⟨pb, j, none⟩
theorem Rest.of_block {pb po : Nat} {w w' : World} (h : w'.heap[pb]? = w.heap[pb]?) : Rest pb po w w' := ⟨fun _ _ => World.cell?_of_block h, fun _ => World.frozen?_of_block h⟩
theorem Rest.trans {pb po : Nat} {a b c : World} (h : Rest pb po a b) (k : Rest pb po b c) : Rest pb po a c := ⟨fun j hj => (k.1 j hj).trans (h.1 j hj), fun j => (k.2 j).trans (h.2 j)⟩
theorem Rest.setCell {pb po : Nat} {a b : World} (h : Rest pb po a b) (u : Value) : Rest pb po a (b.setCell ⟨pb, po, none⟩ u) :=
  ⟨fun j hj => (World.cell?_setCell_other _ _ _ _ (fun e => hj (by injection e with _ e; exact e.symm))).trans (h.1 j hj), fun j => (World.frozen?_setCell _ _ _ _).trans (h.2 j)⟩

/-- What an append through the pointer to block pb leaves: the cell holds a fodder that reads as l'. -/
def Appd (w : World) (base pb po : Nat) (v : Value) (l' : List FE) (w' : World) : Prop :=
  ∃ v', w'.cell? ⟨pb, po, none⟩ = some v' ∧ w'.frozen? ⟨pb, po, none⟩ = false ∧ Fod w' base v' l' ∧ Kept (pb :: v.ownBlock.toList) w w' ∧ (∀ g, v'.ownBlock = some g → g ≠ pb ∧ (v.ownBlock = some g ∨ w.heap.size ≤ g)) ∧ Rest pb po w w'

theorem appd_close {w W w1 : World} {base pb po g n cap : Nat} {v : Value} {l : List FE} {e : FE} (hW : Kept [] w W) (hs : w.heap.size ≤ g ∨ v.ownBlock = some g) (hn : n = l.length)
    (hown : w1.ownsRow base 87 4 (.slice (some ⟨g, 0, none⟩) (n + 1) cap) (n + 1) (flat l ++ flat [e])) (hgrow : W.grownBy w1 v.ownBlock) (hc : ∃ u, w1.cell? ⟨pb, po, none⟩ = some u) (hf : w1.frozen? ⟨pb, po, none⟩ = false)
    (hpv : ∀ g, v.ownBlock = some g → g ≠ pb) (hpl : pb < w.heap.size) : Appd w base pb po v (l ++ [e]) (w1.setCell ⟨pb, po, none⟩ (.slice (some ⟨g, 0, none⟩) (n + 1) cap)) := by
  subst hn
  obtain ⟨u, hu⟩ := hc
  have hgp : g ≠ pb := by rcases hs with h | h; omega; exact hpv g h
  have hfod : Fod w1 base (.slice (some ⟨g, 0, none⟩) (l.length + 1) cap) (l ++ [e]) := by
    unfold Fod
    rw [List.length_append, flat_append]
    exact hown
  have hk1 : Kept v.ownBlock.toList w w1 := by
    refine (hW.mono (by simp)).grown hgrow ?_
    intro k hk
    left
    simp [hk]
  refine ⟨_, World.cell?_setCell_same _ _ _ hu, by rw [World.frozen?_setCell]; exact hf, ?_, ?_, ?_, ?_⟩
  · exact hfod.kept ((Kept.refl [pb] _).setCell (Or.inl (by simp)) _) (by simpa [Value.ownBlock] using hgp)
  · exact (hk1.mono (fun k hk => Or.inl (List.mem_cons_of_mem _ hk))).setCell (Or.inl (by simp)) _
  · intro g' hg'
    simp [Value.ownBlock] at hg'
    subst hg'
    exact ⟨hgp, hs.symm⟩
  · refine Rest.setCell (Rest.of_block ?_) _
    rw [hgrow.block pb (Nat.lt_of_lt_of_le hpl hW.size) (fun h => hpv pb h.symm rfl)]
    exact hW.block pb hpl (by simp)

set_option maxRecDepth 100000 in
set_option maxHeartbeats 1000000 in
/-- The plain append: neither a merge nor a line end put before. -/
theorem fapp_plain (w : World) (base pb po : Nat) (v : Value) (l : List FE) (e : FE) (h : Fod w base v l) (hp : w.cell? ⟨pb, po, none⟩ = some v) (hpf : w.frozen? ⟨pb, po, none⟩ = false) (hpv : ∀ g, v.ownBlock = some g → g ≠ pb)
    (hlen : l.length ≤ 1048576) (hb : base ≤ w.heap.size) (hc1 : (clean l && e.k == 0) = false) (hc2 : (!clean l && e.k == 2) = false) :
    Calls Tryf.prog 28 #[.pointer (some ⟨pb, po, none⟩), .agg #[.slice e.ca e.cl e.cc, .int .i64 e.k, .int .i64 e.b, .int .i64 e.i]] w fun en w' => en = .returned (.tuple #[]) ∧
      Appd w base pb po v (l ++ [e]) w' := by
  obtain ⟨a, cap, rfl, hlc, hcm, ha⟩ := h.slice
  unfold maxLen at hcm
  have hpl := World.block_lt_of_cell? w _ hp
  dsimp only at hpl
  have H1 : ∀ o, Fod (w.alloc o) base (.slice a l.length cap) l := fun o => h.kept ((Kept.refl [] _).alloc o) (by simp)
  have H := Lib.hid h; clear h
  have HH := Lib.hid H1; clear H1
  have hne : some pb ≠ (Value.slice a l.length cap).ownBlock := fun h => hpv pb h.symm rfl
  have HNE := Lib.hid hne; clear hne
  have HPV := Lib.hid hpv; clear hpv
  have HA := Lib.hid ha; clear ha
  obtain ⟨ca, cl, cc, k, b, i⟩ := e
  dsimp only at *
  obtain ⟨i0, hi, hz0, hz1, hz2⟩ := info_parts Tryf.infoFE
  have HI := Lib.hid hi; clear hi
  have HI0 := Lib.hid hz0; clear hz0
  have HI1 := Lib.hid hz1; clear hz1
  have HI2 := Lib.hid hz2; clear hz2
  cases hcl : clean l
  · rw [hcl] at hc1 hc2
    simp only [Bool.not_false, Bool.true_and] at hc2
    clear hc1
    go_enter Tryf.func28, Tryf.ntmps28
    go_wp2_with fail
    refine (hasClean_any _ base _ l (HH.out _)).mono ?_
    rintro e w' ⟨rfl, rfl⟩
    rw [hcl]
    go_wp2_with fail
    refine (hasClean_any _ base _ l (HH.out _)).mono ?_
    rintro e w' ⟨rfl, rfl⟩
    rw [hcl]
    go_wp2_with fail
    have hnews : ∀ (o : Obj) j u, (flat [⟨ca, cl, cc, k, b, i⟩])[j]? = some u → (((w.alloc o).alloc (.cells #[.slice ca cl cc, .int .i64 k, .int .i64 b, .int .i64 i] 87)).drew).cell? ((⟨w.heap.size + 1, 0, none⟩ : Addr).add j) = some u := by
      intro o j u hu
      refine World.news_of_block (cs := #[.slice ca cl cc, .int .i64 k, .int .i64 b, .int .i64 i]) (t := 87) (fr := (0, 0)) ?_ j u (by simpa [flat, FE.cells] using hu)
      have := heap_alloc_new (w.alloc o) (.cells #[.slice ca cl cc, .int .i64 k, .int .i64 b, .int .i64 i] 87)
      rw [show (w.alloc o).heap.size = w.heap.size + 1 by simp] at this
      exact this
    have HNW := Lib.hid hnews; clear hnews
    go_region_law ((refine step_append_lies _ (by rfl) _ _ _ (by rfl) base 87 i0 _ 4 48 Tryf.underlying37 HI.out HI0.out HI1.out HI2.out rfl (by omega) (.slice a l.length cap) l.length (flat l) (by rfl) ((World.ownsRow.alloc (HH.out _) _).drew) ⟨w.heap.size + 1, 0, none⟩ 1 1 (flat [⟨ca, cl, cc, k, b, i⟩]) (by rfl) (by rfl) (HNW.out _) (FE.cells_one _) (by omega) (by unfold maxLen; omega) (by omega) (by simp; omega) (w.heap.size + 2) (by simp) ?_; intro g cap' w1 hown1 hgrow hat hlt; have hcp : w1.cell? ⟨pb, po, none⟩ = some (.slice a l.length cap) := hgrow.cell (by go_simp) HNE.out; have hfp : w1.frozen? ⟨pb, po, none⟩ = false := (World.frozen?_of_block (hgrow.block pb (by simp; omega) HNE.out)).trans (by go_simp)))
    all_goals
      go_wp2_with fail
      go_end0
      refine ⟨rfl, appd_close (((Kept.refl [] _).alloc _).alloc _).drew ?_ rfl hown1 hgrow ⟨_, hcp⟩ hfp HPV.out hpl⟩
      rcases hat with h | h
      · exact Or.inr h
      · exact Or.inl (by omega)
  · rw [hcl] at hc1 hc2
    simp only [Bool.true_and] at hc1
    clear hc2
    go_enter Tryf.func28, Tryf.ntmps28
    go_wp2_with fail
    refine (hasClean_any _ base _ l (HH.out _)).mono ?_
    rintro e w' ⟨rfl, rfl⟩
    rw [hcl]
    go_wp2_with fail
    refine (hasClean_any _ base _ l (HH.out _)).mono ?_
    rintro e w' ⟨rfl, rfl⟩
    rw [hcl]
    go_wp2_with fail
    have hnews : ∀ (o : Obj) j u, (flat [⟨ca, cl, cc, k, b, i⟩])[j]? = some u → (((w.alloc o).alloc (.cells #[.slice ca cl cc, .int .i64 k, .int .i64 b, .int .i64 i] 87)).drew).cell? ((⟨w.heap.size + 1, 0, none⟩ : Addr).add j) = some u := by
      intro o j u hu
      refine World.news_of_block (cs := #[.slice ca cl cc, .int .i64 k, .int .i64 b, .int .i64 i]) (t := 87) (fr := (0, 0)) ?_ j u (by simpa [flat, FE.cells] using hu)
      have := heap_alloc_new (w.alloc o) (.cells #[.slice ca cl cc, .int .i64 k, .int .i64 b, .int .i64 i] 87)
      rw [show (w.alloc o).heap.size = w.heap.size + 1 by simp] at this
      exact this
    have HNW := Lib.hid hnews; clear hnews
    go_region_law ((refine step_append_lies _ (by rfl) _ _ _ (by rfl) base 87 i0 _ 4 48 Tryf.underlying37 HI.out HI0.out HI1.out HI2.out rfl (by omega) (.slice a l.length cap) l.length (flat l) (by rfl) ((World.ownsRow.alloc (HH.out _) _).drew) ⟨w.heap.size + 1, 0, none⟩ 1 1 (flat [⟨ca, cl, cc, k, b, i⟩]) (by rfl) (by rfl) (HNW.out _) (FE.cells_one _) (by omega) (by unfold maxLen; omega) (by omega) (by simp; omega) (w.heap.size + 2) (by simp) ?_; intro g cap' w1 hown1 hgrow hat hlt; have hcp : w1.cell? ⟨pb, po, none⟩ = some (.slice a l.length cap) := hgrow.cell (by go_simp) HNE.out; have hfp : w1.frozen? ⟨pb, po, none⟩ = false := (World.frozen?_of_block (hgrow.block pb (by simp; omega) HNE.out)).trans (by go_simp)))
    all_goals
      go_wp2_with fail
      go_end0
      refine ⟨rfl, appd_close (((Kept.refl [] _).alloc _).alloc _).drew ?_ rfl hown1 hgrow ⟨_, hcp⟩ hfp HPV.out hpl⟩
      rcases hat with h | h
      · exact Or.inr h
      · exact Or.inl (by omega)
end Go.Proofs.YtfacfgecnpeceaaFmt
