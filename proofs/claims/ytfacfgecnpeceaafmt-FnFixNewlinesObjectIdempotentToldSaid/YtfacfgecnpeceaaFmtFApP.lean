/- The contract of ast.FodderAppend where a line end is put before a paragraph that follows no line's end. -/
import Derived.Test.YtfacfgecnpeceaaFmtFApp
import Derived.Deep.RegionHeld3
namespace Go.Proofs.YtfacfgecnpeceaaFmt
open Go.ChangeShapes Go.WideShapes Go.ChangeAt Go.RowKit

theorem mkElem_kept (w : World) (k b i : Int) (ca : Option Addr) (cl cc : Nat) (h : (k = 0 ∧ cl ≤ 1) ∨ (k = 2 ∧ 0 < cl)) (hcl : cl ≤ 9223372036854775807) :
    Calls Tryf.prog 29 #[.int .i64 k, .int .i64 b, .int .i64 i, .slice ca cl cc] w fun e w' => e = .returned (.agg #[.slice ca cl cc, .int .i64 k, .int .i64 b, .int .i64 i]) ∧
      Kept [] w w' := by
  refine (mkElem_any w k b i ca cl cc h hcl).mono ?_
  rintro e w' ⟨rfl, rfl⟩
  exact ⟨rfl, (Kept.refl _ _).alloc _⟩

theorem Appd.trans {w W W' : World} {base pb po : Nat} {v v' : Value} {l' l'' : List FE} (h : Appd w base pb po v l' W) (hv : W.cell? ⟨pb, po, none⟩ = some v') (h2 : Appd W base pb po v' l'' W') : Appd w base pb po v l'' W' := by
  obtain ⟨u, a1, a2, a3, a4, a5, a6⟩ := h
  rw [hv] at a1
  simp only [Option.some.injEq] at a1
  subst a1
  obtain ⟨u', b1, b2, b3, b4, b5, b6⟩ := h2
  refine ⟨u', b1, b2, b3, a4.then b4 ?_, ?_, a6.trans b6⟩
  · intro x hx
    simp only [List.mem_cons, Option.mem_toList] at hx
    rcases hx with rfl | hx
    · exact Or.inl (by simp)
    · rcases (a5 x hx).2 with h | h
      · exact Or.inl (by simp [h])
      · exact Or.inr h
  · intro g hg
    refine ⟨(b5 g hg).1, ?_⟩
    rcases (b5 g hg).2 with h | h
    · exact (a5 g h).2
    · exact Or.inr (Nat.le_trans a4.size h)

set_option maxRecDepth 100000 in
set_option maxHeartbeats 4000000 in
theorem fapp_para (w : World) (base pb po : Nat) (v : Value) (l : List FE) (e : FE) (h : Fod w base v l) (hp : w.cell? ⟨pb, po, none⟩ = some v) (hpf : w.frozen? ⟨pb, po, none⟩ = false) (hpv : ∀ g, v.ownBlock = some g → g ≠ pb)
    (hlen : l.length ≤ 1048576) (hb : base ≤ w.heap.size) (hcl : clean l = false) (hk : e.k = 2) :
    Calls Tryf.prog 28 #[.pointer (some ⟨pb, po, none⟩), .agg #[.slice e.ca e.cl e.cc, .int .i64 e.k, .int .i64 e.b, .int .i64 e.i]] w fun en w' => en = .returned (.tuple #[]) ∧
      ∃ ca, Appd w base pb po v (l ++ [⟨ca, 0, 0, 0, 0, e.i⟩, e]) w' := by
  obtain ⟨a, cap, rfl, hlc, hcm, ha⟩ := h.slice
  unfold maxLen at hcm
  have hpl := World.block_lt_of_cell? w _ hp
  dsimp only at hpl
  obtain ⟨ca, cl, cc, k, b, i⟩ := e
  dsimp only at *
  subst hk
  have H1 : ∀ o, Fod (w.alloc o) base (.slice a l.length cap) l := fun o => h.kept ((Kept.refl [] _).alloc o) (by simp)
  have hne : some pb ≠ (Value.slice a l.length cap).ownBlock := fun h => hpv pb h.symm rfl
  have hnb : ∀ g, (Value.slice a l.length cap).ownBlock = some g → g < w.heap.size := by
    intro g hg
    rcases h.2 with ⟨h1, h2⟩ | ⟨g', cap', cur, h1, h2, h3, _⟩
    · rw [h1] at hg; cases hg
    · rw [h1] at hg; simp [Value.ownBlock] at hg; subst hg; exact (Array.getElem?_eq_some_iff.1 h3).1
  have H := Lib.hid h; clear h
  have HH := Lib.hid H1; clear H1
  have HNE := Lib.hid hne; clear hne
  have HPV := Lib.hid hpv; clear hpv
  have HNB := Lib.hid hnb; clear hnb
  have HA := Lib.hid ha; clear ha
  obtain ⟨i0, hi, hz0, hz1, hz2⟩ := info_parts Tryf.infoFE
  have HI := Lib.hid hi; clear hi
  have HI0 := Lib.hid hz0; clear hz0
  have HI1 := Lib.hid hz1; clear hz1
  have HI2 := Lib.hid hz2; clear hz2
  have HCL := Lib.hid hcl; clear hcl
  go_enter Tryf.func28, Tryf.ntmps28
  go_wp2_with fail
  refine (hasClean_any _ base _ l (HH.out _)).mono ?_
  rintro e w' ⟨rfl, rfl⟩
  rw [HCL.out]
  go_wp2_with fail
  refine (hasClean_any _ base _ l (HH.out _)).mono ?_
  rintro e w' ⟨rfl, rfl⟩
  rw [HCL.out]
  go_wp2_with fail
  obtain ⟨W0, hW0⟩ : ∃ W0, w.alloc (.cells #[.slice ca cl cc, .int .i64 2, .int .i64 b, .int .i64 i] 87) = W0 := ⟨_, rfl⟩
  obtain ⟨b0, hb0⟩ : ∃ b0, w.heap.size = b0 := ⟨_, rfl⟩
  have hk0 : Kept [] w W0 := hW0 ▸ (Kept.refl [] _).alloc _
  have hs0 : W0.heap.size = b0 + 1 := by rw [← hW0, ← hb0]; simp
  have hbox : W0.heap[b0]? = some (.cells #[.slice ca cl cc, .int .i64 2, .int .i64 b, .int .i64 i] 87) := by rw [← hW0, ← hb0]; exact heap_alloc_new _ _
  have hF0 : Fod W0 base (.slice a l.length cap) l := H.out.kept hk0 (by simp)
  have hp0 : W0.cell? ⟨pb, po, none⟩ = some (.slice a l.length cap) := hk0.cell hp (by simp)
  have hpf0 : W0.frozen? ⟨pb, po, none⟩ = false := (hk0.frozen hpl (by simp)).trans hpf
  have hq3 : W0.cell? ⟨b0, 3, none⟩ = some (.int .i64 i) := by simp [World.cell?, hbox]
  rw [hW0, hb0]
  rw [hb0] at hb hpl
  have hpl0 : pb < W0.heap.size := by omega
  have HB0 := Lib.hid hb0; clear hb0
  have HW0 := Lib.hid hW0; clear hW0
  have HK0 := Lib.hid hk0; clear hk0
  have HF0 := Lib.hid hF0; clear hF0
  have HBOX := Lib.hid hbox; clear hbox
  clear hp hpf HH
  have hnews : ∀ (W : World) (ca0 : Option Addr) j u, (flat [⟨ca0, 0, 0, 0, 0, i⟩])[j]? = some u → (W.alloc (.cells #[.slice ca0 0 0, .int .i64 0, .int .i64 0, .int .i64 i] 87)).cell? ((⟨W.heap.size, 0, none⟩ : Addr).add j) = some u := by
    intro W ca0 j u hu
    exact World.news_of_block (cs := #[.slice ca0 0 0, .int .i64 0, .int .i64 0, .int .i64 i]) (t := 87) (fr := (0, 0)) (heap_alloc_new W (.cells #[.slice ca0 0 0, .int .i64 0, .int .i64 0, .int .i64 i] 87)) j u (by simpa [flat, FE.cells] using hu)
  have HNW := Lib.hid hnews; clear hnews
  have hk1 : ∀ o, Kept [] W0 (W0.alloc o).drew := fun o => ((Kept.refl [] _).alloc _).drew
  have HK1 := Lib.hid hk1; clear hk1
  have hka : ∀ (W : World) o, Kept [] W (W.alloc o) := fun W o => (Kept.refl [] _).alloc _
  have HKA := Lib.hid hka; clear hka
  have hks : ∀ (W : World) u, Kept [pb] W (W.setCell ⟨pb, po, none⟩ u) := fun W o => (Kept.refl [pb] _).setCell (Or.inl (by simp)) _
  have HKS := Lib.hid hks; clear hks
  have hnb0 : some b0 ≠ (Value.slice a l.length cap).ownBlock := fun h => by have := HNB.out b0 h.symm; rw [HB0.out] at this; omega
  have HNB0 := Lib.hid hnb0; clear hnb0
  go_region_law (first | (refine step_append_lies _ (by rfl) _ _ _ (by rfl) base 87 i0 _ 4 48 Tryf.underlying37 HI.out HI0.out HI1.out HI2.out rfl (by omega) (.slice a l.length cap) l.length (flat l) (by rfl) (World.ownsRow.alloc (Fod.kept HF0.out HK2.out (by simp)) _) ⟨w2.heap.size, 0, none⟩ 1 1 (flat [⟨some ⟨b0 + 1, 0, none⟩, 0, 0, 0, 0, i⟩]) (by rfl) (by rfl) (HNW.out _ _) (FE.cells_one _) (by omega) (by unfold maxLen; omega) (by omega) (by simp; omega) (w2.heap.size + 1) (by simp) ?_; intro g cap' w1 hown1 hgrow hat hlt; have hcp : w1.cell? ⟨pb, po, none⟩ = some (.slice a l.length cap) := hgrow.cell ((HKA.out _ _).cell hcp2 (by simp)) HNE.out; have hfp : w1.frozen? ⟨pb, po, none⟩ = false := (World.frozen?_of_block (hgrow.block pb (Nat.lt_of_lt_of_le hpl2 (HKA.out _ _).size) HNE.out)).trans (((HKA.out _ _).frozen hpl2 (by simp)).trans ((HK2.out.frozen hpl0 (by simp)).trans hpf0)); have hcq : w1.cell? ⟨b0, 3, none⟩ = some (.int .i64 i) := hgrow.cell ((HKA.out _ _).cell hcq2 (by simp)) HNB0.out) | (go_simp; go_at_call 29; refine (mkElem_kept _ 0 0 i _ 0 0 (Or.inl ⟨rfl, by omega⟩) (by omega)).mono ?_; rintro e w2 ⟨rfl, hk2⟩; have hk3 : Kept [] W0 w2 := (HK1.out _).trans hk2; clear hk2; have hcp2 := hk3.cell hp0 (by simp); have hcq2 := hk3.cell hq3 (by simp); have hs2 : b0 + 1 ≤ w2.heap.size := hs0 ▸ hk3.size; have hpl2 : pb < w2.heap.size := (by omega); have hbl2 : b0 < w2.heap.size := (by omega); have HK2 := Lib.hid hk3; clear hk3))
  all_goals
    go_wp2_with fail
    have hg : w.heap.size ≤ g ∨ (Value.slice a l.length cap).ownBlock = some g := by
      rcases hat with h | h
      · exact Or.inr h
      · exact Or.inl (by rw [HB0.out]; omega)
    have hkw : Kept [] w (w2.alloc (.cells #[.slice (some ⟨b0 + 1, 0, none⟩) 0 0, .int .i64 0, .int .i64 0, .int .i64 i] 87)) := (HK0.out.trans HK2.out).alloc _
    have hA := appd_close (pb := pb) (po := po) hkw hg rfl hown1 hgrow ⟨_, hcp⟩ hfp HPV.out (by rw [HB0.out]; exact hpl)
    have hbg : b0 ≠ g := by
      rcases hat with h | h
      · intro e; subst e; have := HNB.out b0 h; rw [HB0.out] at this; omega
      · omega
    obtain ⟨W, hW⟩ : ∃ W, w1.setCell ⟨pb, po, none⟩ (.slice (some ⟨g, 0, none⟩) (l.length + 1) cap') = W := ⟨_, rfl⟩
    have hbx : W.heap[b0]? = some (.cells #[.slice ca cl cc, .int .i64 2, .int .i64 b, .int .i64 i] 87) := by
      rw [← hW]
      refine ((HKS.out w1 _).heap ?_ (by simp; omega))
      rw [hgrow.block b0 (Nat.lt_of_lt_of_le hbl2 (HKA.out _ _).size) HNB0.out]
      exact (HKA.out _ _).heap (HK2.out.heap HBOX.out (by simp)) (by simp)
    rw [hW] at hA ⊢
    have hcW : W.cell? ⟨pb, po, none⟩ = some (.slice (some ⟨g, 0, none⟩) (l.length + 1) cap') := by rw [← hW]; exact World.cell?_setCell_same _ _ _ hcp
    have hfW : W.frozen? ⟨pb, po, none⟩ = false := by rw [← hW, World.frozen?_setCell]; exact hfp
    have hFW : Fod W base (.slice (some ⟨g, 0, none⟩) (l.length + 1) cap') (l ++ [⟨some ⟨b0 + 1, 0, none⟩, 0, 0, 0, 0, i⟩]) := by
      obtain ⟨u, a1, _, a3, _⟩ := hA
      rw [hcW] at a1
      simp only [Option.some.injEq] at a1
      rw [← a1] at a3
      exact a3
    have hgp : g ≠ pb := by
      rcases hg with h | h
      · have := HB0.out; omega
      · exact HPV.out g h
    have hbW : base ≤ W.heap.size := by
      obtain ⟨_, _, _, _, a4, _⟩ := hA
      have := a4.size
      have := HB0.out
      omega
    have hpW : pb < W.heap.size := World.block_lt_of_cell? W _ hcW
    have hb0W : b0 < W.heap.size := (Array.getElem?_eq_some_iff.1 hbx).1
    have q0 : W.cell? ⟨b0, 0, none⟩ = some (.slice ca cl cc) := by simp [World.cell?, hbx]
    have q1 : W.cell? ⟨b0, 1, none⟩ = some (.int .i64 2) := by simp [World.cell?, hbx]
    have q2 : W.cell? ⟨b0, 2, none⟩ = some (.int .i64 b) := by simp [World.cell?, hbx]
    have q3 : W.cell? ⟨b0, 3, none⟩ = some (.int .i64 i) := by simp [World.cell?, hbx]
    have HAP := Lib.hid hA; clear hA
    have HFW := Lib.hid hFW; clear hFW
    have HCW := Lib.hid hcW
    have hneW : some pb ≠ (Value.slice (some ⟨g, 0, none⟩) (l.length + 1) cap').ownBlock := by simp [Value.ownBlock]; omega
    have HNEW := Lib.hid hneW; clear hneW
    have hpvW : ∀ g', (Value.slice (some ⟨g, 0, none⟩) (l.length + 1) cap').ownBlock = some g' → g' ≠ pb := by simp [Value.ownBlock]; exact hgp
    have HPVW := Lib.hid hpvW; clear hpvW
    clear hW hbx hkw hg hat hgrow hown1 hcp hfp hcq hlt hcp2 hcq2 hs2 hpl2 hbl2 HK2 hp0 hpf0 hq3
    have hnews : ∀ j u, (flat [⟨ca, cl, cc, 2, b, i⟩])[j]? = some u → ((W.alloc (.cells #[.slice ca cl cc, .int .i64 2, .int .i64 b, .int .i64 i] 87)).drew).cell? ((⟨W.heap.size, 0, none⟩ : Addr).add j) = some u := by
      intro j u hu
      exact World.news_of_block (cs := #[.slice ca cl cc, .int .i64 2, .int .i64 b, .int .i64 i]) (t := 87) (fr := (0, 0)) (heap_alloc_new W _) j u (by simpa [flat, FE.cells] using hu)
    have HNW2 := Lib.hid hnews; clear hnews
    have hl1 : (l ++ [(⟨some ⟨b0 + 1, 0, none⟩, 0, 0, 0, 0, i⟩ : FE)]).length = l.length + 1 := by simp
    have HL1 := Lib.hid hl1; clear hl1
    go_region_law ((refine step_append_lies _ (by rfl) _ _ _ (by rfl) base 87 i0 _ 4 48 Tryf.underlying37 HI.out HI0.out HI1.out HI2.out rfl (by omega) (.slice (some ⟨g, 0, none⟩) (l.length + 1) cap') (l.length + 1) (flat (l ++ [⟨some ⟨b0 + 1, 0, none⟩, 0, 0, 0, 0, i⟩])) (by rfl) (World.ownsRow.drew (World.ownsRow.alloc (HL1.out ▸ HFW.out) _)) ⟨W.heap.size, 0, none⟩ 1 1 (flat [⟨ca, cl, cc, 2, b, i⟩]) (by rfl) (by rfl) (HNW2.out) (FE.cells_one _) (by omega) (by unfold maxLen; omega) (by omega) (by simp; omega) (W.heap.size + 1) (by simp) ?_; intro g2 cap2 w3 hown3 hgrow3 hat3 hlt3; have hcp3 : w3.cell? ⟨pb, po, none⟩ = some (.slice (some ⟨g, 0, none⟩) (l.length + 1) cap') := hgrow3.cell (by go_simp) HNEW.out; have hfp3 : w3.frozen? ⟨pb, po, none⟩ = false := (World.frozen?_of_block (hgrow3.block pb (by simp; omega) HNEW.out)).trans (by go_simp)))
    all_goals
      go_wp2_with fail
      go_end0
      refine ⟨rfl, some ⟨b0 + 1, 0, none⟩, HAP.out.trans HCW.out ?_⟩
      have := appd_close (pb := pb) (po := po) ((Kept.refl [] W).alloc _).drew (hat3.symm.imp (fun h => by omega) id) HL1.out.symm hown3 hgrow3 ⟨_, hcp3⟩ hfp3 HPVW.out hpW
      simpa using this
end Go.Proofs.YtfacfgecnpeceaaFmt
