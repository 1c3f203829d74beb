/- The contract of ast.FodderAppend for every element, in codes; a line end with a comment behind a line's end becomes a paragraph. -/
import Derived.Test.YtddcpnhpjgeldaaFmtFApM
import Derived.Test.YtddcpnhpjgeldaaFmtFApP
import Derived.Test.YtddcpnhpjgeldaaFmtF0
namespace Go.Proofs.YtddcpnhpjgeldaaFmt
open Go.ChangeShapes Go.WideShapes Go.ChangeAt Go.RowKit

set_option maxRecDepth 100000 in
set_option maxHeartbeats 4000000 in
theorem fapp_lined (w : World) (base pb po : Nat) (v : Value) (l : List FE) (e : FE) (h : Fod w base v l) (hp : w.cell? ⟨pb, po, none⟩ = some v) (hpf : w.frozen? ⟨pb, po, none⟩ = false) (hpv : ∀ g, v.ownBlock = some g → g ≠ pb)
    (hlen : l.length ≤ 1048576) (hb : base ≤ w.heap.size) (hcl : clean l = true) (hk : e.k = 0) (hcp : 0 < e.cl) (hcq : e.cl ≤ 9223372036854775807) :
    Calls Tryf.prog 27 #[.pointer (some ⟨pb, po, none⟩), .agg #[.slice e.ca e.cl e.cc, .int .i64 e.k, .int .i64 e.b, .int .i64 e.i]] w fun en w' => en = .returned (.tuple #[]) ∧
      Appd w base pb po v (l ++ [⟨e.ca, e.cl, e.cc, 2, e.b, e.i⟩]) w' := by
  obtain ⟨a, cap, rfl, hlc, hcm, ha⟩ := h.slice
  unfold maxLen at hcm
  have hpl := World.block_lt_of_cell? w _ hp
  dsimp only at hpl
  obtain ⟨ca, cl, cc, k, b, i⟩ := e
  dsimp only at *
  subst hk
  have H1 : ∀ o, Fod (w.alloc o) base (.slice a l.length cap) l := fun o => h.kept ((Kept.refl [] _).alloc o) (by simp)
  have hne : some pb ≠ (Value.slice a l.length cap).ownBlock := fun h => hpv pb h.symm rfl
  have hnb : ∀ g, (Value.slice a l.length cap).ownBlock = some g → g < w.heap.size := by
    intro g hg
    rcases h.2 with ⟨h1, h2⟩ | ⟨g', cap', cur, h1, h2, h3, _⟩
    · rw [h1] at hg; cases hg
    · rw [h1] at hg; simp [Value.ownBlock] at hg; subst hg; exact (Array.getElem?_eq_some_iff.1 h3).1
  have H := Lib.hid h; clear h
  have HH := Lib.hid H1; clear H1
  have HNE := Lib.hid hne; clear hne
  have HPV := Lib.hid hpv; clear hpv
  have HNB := Lib.hid hnb; clear hnb
  have HA := Lib.hid ha; clear ha
  obtain ⟨i0, hi, hz0, hz1, hz2⟩ := info_parts Tryf.infoFE
  have HI := Lib.hid hi; clear hi
  have HI0 := Lib.hid hz0; clear hz0
  have HI1 := Lib.hid hz1; clear hz1
  have HI2 := Lib.hid hz2; clear hz2
  have HCL := Lib.hid hcl; clear hcl
  have HCP := Lib.hid hcp
  have hcp' : (0 : Int) < (cl : Int) := by omega
  go_enter Tryf.func27, Tryf.ntmps27
  go_wp2_with fail
  refine (hasClean_any _ base _ l (HH.out _)).mono ?_
  rintro e w' ⟨rfl, rfl⟩
  rw [HCL.out]
  go_wp2_with fail
  obtain ⟨W0, hW0⟩ : ∃ W0, w.alloc (.cells #[.slice ca cl cc, .int .i64 0, .int .i64 b, .int .i64 i] 56) = W0 := ⟨_, rfl⟩
  obtain ⟨b0, hb0⟩ : ∃ b0, w.heap.size = b0 := ⟨_, rfl⟩
  have hk0 : Kept [] w W0 := hW0 ▸ (Kept.refl [] _).alloc _
  have hs0 : W0.heap.size = b0 + 1 := by rw [← hW0, ← hb0]; simp
  have hbox : W0.heap[b0]? = some (.cells #[.slice ca cl cc, .int .i64 0, .int .i64 b, .int .i64 i] 56) := by rw [← hW0, ← hb0]; exact heap_alloc_new _ _
  have hF0 : Fod W0 base (.slice a l.length cap) l := H.out.kept hk0 (by simp)
  have hp0 : W0.cell? ⟨pb, po, none⟩ = some (.slice a l.length cap) := hk0.cell hp (by simp)
  have hpf0 : W0.frozen? ⟨pb, po, none⟩ = false := (hk0.frozen hpl (by simp)).trans hpf
  have hq0 : W0.cell? ⟨b0, 0, none⟩ = some (.slice ca cl cc) := by simp [World.cell?, hbox]
  have hq2 : W0.cell? ⟨b0, 2, none⟩ = some (.int .i64 b) := by simp [World.cell?, hbox]
  have hq3 : W0.cell? ⟨b0, 3, none⟩ = some (.int .i64 i) := by simp [World.cell?, hbox]
  rw [hW0, hb0]
  rw [hb0] at hb hpl
  have hpl0 : pb < W0.heap.size := by omega
  have HB0 := Lib.hid hb0; clear hb0
  have HW0 := Lib.hid hW0; clear hW0
  have HK0 := Lib.hid hk0; clear hk0
  have HF0 := Lib.hid hF0; clear hF0
  have HBOX := Lib.hid hbox; clear hbox
  clear hp hpf HH
  have hnews : ∀ (W : World) j u, (flat [⟨ca, cl, cc, 2, b, i⟩])[j]? = some u → (W.alloc (.cells #[.slice ca cl cc, .int .i64 2, .int .i64 b, .int .i64 i] 56)).cell? ((⟨W.heap.size, 0, none⟩ : Addr).add j) = some u := by
    intro W j u hu
    exact World.news_of_block (cs := #[.slice ca cl cc, .int .i64 2, .int .i64 b, .int .i64 i]) (t := 56) (fr := (0, 0)) (heap_alloc_new W (.cells #[.slice ca cl cc, .int .i64 2, .int .i64 b, .int .i64 i] 56)) j u (by simpa [flat, FE.cells] using hu)
  have HNW := Lib.hid hnews; clear hnews
  have hk1 : Kept [] W0 W0.drew := (Kept.refl [] _).drew
  have HK1 := Lib.hid hk1; clear hk1
  have hka : ∀ (W : World) o, Kept [] W (W.alloc o) := fun W o => (Kept.refl [] _).alloc _
  have HKA := Lib.hid hka; clear hka
  go_region_law (first | (refine step_append_lies _ (by rfl) _ _ _ (by rfl) base 56 i0 _ 4 48 Tryf.underlying33 HI.out HI0.out HI1.out HI2.out rfl (by omega) (.slice a l.length cap) l.length (flat l) (by rfl) (World.ownsRow.alloc (Fod.kept HF0.out HK2.out (by simp)) _) ⟨w2.heap.size, 0, none⟩ 1 1 (flat [⟨ca, cl, cc, 2, b, i⟩]) (by rfl) (by rfl) (HNW.out _) (FE.cells_one _) (by omega) (by unfold maxLen; omega) (by omega) (by simp; omega) (w2.heap.size + 1) (by simp) ?_; intro g cap' w1 hown1 hgrow hat hlt; have hcp : w1.cell? ⟨pb, po, none⟩ = some (.slice a l.length cap) := hgrow.cell ((HKA.out _ _).cell hcp2 (by simp)) HNE.out; have hfp : w1.frozen? ⟨pb, po, none⟩ = false := (World.frozen?_of_block (hgrow.block pb (Nat.lt_of_lt_of_le hpl2 (HKA.out _ _).size) HNE.out)).trans (((HKA.out _ _).frozen hpl2 (by simp)).trans ((HK2.out.frozen hpl0 (by simp)).trans hpf0))) | (go_simp; go_at_call 29; refine (mkElem_kept _ 2 b i ca cl cc (Or.inr ⟨rfl, HCP.out⟩) (by omega)).mono ?_; rintro e w2 ⟨rfl, hk2⟩; have hk3 : Kept [] W0 w2 := HK1.out.trans hk2; clear hk2; have hcp2 := hk3.cell hp0 (by simp); have hs2 : b0 + 1 ≤ w2.heap.size := hs0 ▸ hk3.size; have hpl2 : pb < w2.heap.size := (by omega); have HK2 := Lib.hid hk3; clear hk3))
  all_goals
    go_wp2_with fail
    have hg : w.heap.size ≤ g ∨ (Value.slice a l.length cap).ownBlock = some g := by
      rcases hat with h | h
      · exact Or.inr h
      · exact Or.inl (by rw [HB0.out]; omega)
    have hkw : Kept [] w (w2.alloc (.cells #[.slice ca cl cc, .int .i64 2, .int .i64 b, .int .i64 i] 56)) := (HK0.out.trans HK2.out).alloc _
    have hA := appd_close (pb := pb) (po := po) hkw hg rfl hown1 hgrow ⟨_, hcp⟩ hfp HPV.out (by rw [HB0.out]; exact hpl)
    go_end0
    exact ⟨rfl, hA⟩

/-- Codes that end a line. -/
def cleanC (z : List ZE) : Bool := match z.getLast? with | some e => e.k != 1 | none => false
theorem clean_codes (l : List FE) : clean l = cleanC (codes l) := by
  unfold clean cleanC codes
  rw [List.getLast?_map]
  cases l.getLast? <;> rfl
/-- What one FodderAppend makes of the codes z. -/
def stepC (z : List ZE) (e : ZE) : List ZE :=
  if cleanC z = true ∧ e.k = 0 then (if 0 < e.c then z ++ [⟨2, e.b, e.i, e.c⟩] else z.modify (z.length - 1) fun x => ⟨x.k, wrap64 (x.b + e.b), e.i, x.c⟩)
  else if cleanC z = false ∧ e.k = 2 then z ++ [⟨0, 0, e.i, 0⟩, e] else z ++ [e]
theorem stepC_len (z : List ZE) (e : ZE) : (stepC z e).length ≤ z.length + 2 := by
  unfold stepC
  split
  · split <;> simp
  · split <;> simp

theorem fapp_codes (w : World) (base pb po : Nat) (v : Value) (l : List FE) (e : FE) (h : Fod w base v l) (hp : w.cell? ⟨pb, po, none⟩ = some v) (hpf : w.frozen? ⟨pb, po, none⟩ = false) (hpv : ∀ g, v.ownBlock = some g → g ≠ pb)
    (hlen : l.length ≤ 1048576) (hb : base ≤ w.heap.size) (hcq : e.cl ≤ 9223372036854775807) :
    Calls Tryf.prog 27 #[.pointer (some ⟨pb, po, none⟩), .agg #[.slice e.ca e.cl e.cc, .int .i64 e.k, .int .i64 e.b, .int .i64 e.i]] w fun en w' => en = .returned (.tuple #[]) ∧
      ∃ l', codes l' = stepC (codes l) e.snap ∧ Appd w base pb po v l' w' := by
  cases hcl : clean l
  · have hcc : cleanC (codes l) = false := by rw [← clean_codes]; exact hcl
    by_cases hk : e.k = 2
    · refine (fapp_para w base pb po v l e h hp hpf hpv hlen hb hcl hk).mono ?_
      rintro en w' ⟨rfl, ca, hA⟩
      refine ⟨rfl, _, ?_, hA⟩
      unfold stepC
      rw [if_neg (by rw [hcc]; simp), if_pos ⟨hcc, hk⟩]
      simp [codes, FE.snap]
    · have h2 : (!clean l && e.k == 2) = false := by simp [hcl, hk]
      have h1 : (clean l && e.k == 0) = false := by simp [hcl]
      refine (fapp_plain w base pb po v l e h hp hpf hpv hlen hb h1 h2).mono ?_
      rintro en w' ⟨rfl, hA⟩
      refine ⟨rfl, _, ?_, hA⟩
      unfold stepC
      rw [if_neg (by rw [hcc]; simp), if_neg (by rintro ⟨_, h⟩; exact hk h)]
      simp [codes]
  · have hcc : cleanC (codes l) = true := by rw [← clean_codes]; exact hcl
    by_cases hk : e.k = 0
    · by_cases hc0 : 0 < e.cl
      · refine (fapp_lined w base pb po v l e h hp hpf hpv hlen hb hcl hk hc0 hcq).mono ?_
        rintro en w' ⟨rfl, hA⟩
        refine ⟨rfl, _, ?_, hA⟩
        unfold stepC
        rw [if_pos ⟨hcc, hk⟩, if_pos (by simp [FE.snap]; omega)]
        simp [codes, FE.snap]
      · obtain ⟨n, hn⟩ : ∃ n, l.length = n + 1 := by
          refine ⟨l.length - 1, ?_⟩
          cases l
          · cases hcl
          · simp
        obtain ⟨x, hx⟩ : ∃ x, l[n]? = some x := ⟨_, List.getElem?_eq_getElem (by omega)⟩
        refine (fapp_merge w base pb po v l e x n h hp hpf hpv hn (by omega) hx hcl hk (by omega)).mono ?_
        rintro en w' ⟨rfl, hA⟩
        refine ⟨rfl, _, ?_, hA⟩
        unfold stepC
        rw [if_pos ⟨hcc, hk⟩, if_neg (by simp [FE.snap]; omega)]
        apply List.ext_getElem?
        intro j
        simp only [codes, List.getElem?_map, List.getElem?_modify, List.length_map, hn, Nat.add_sub_cancel]
        by_cases hj : n = j
        · subst hj
          rw [List.getElem?_set_self (by omega), hx]
          simp [FE.snap]
        · rw [List.getElem?_set_ne hj]
          simp [hj]
    · have h2 : (!clean l && e.k == 2) = false := by simp [hcl]
      have h1 : (clean l && e.k == 0) = false := by simp [hk]
      refine (fapp_plain w base pb po v l e h hp hpf hpv hlen hb h1 h2).mono ?_
      rintro en w' ⟨rfl, hA⟩
      refine ⟨rfl, _, ?_, hA⟩
      unfold stepC
      rw [if_neg (by rintro ⟨_, h⟩; exact hk h), if_neg (by rw [hcc]; simp)]
      simp [codes]
end Go.Proofs.YtddcpnhpjgeldaaFmt
