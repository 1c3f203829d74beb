/- The contracts of removeComma and fixComma, and of their exported names. -/
import Derived.Test.YtnfhhmadkiogbaaFmtTwo
namespace Go.Proofs.YtnfhhmadkiogbaaFmt
open Go.ChangeShapes Go.WideShapes Go.ChangeAt Go.RowKit

/-- What removeComma makes of the flag and the two fodders. -/
def RmC (tc : Bool) (ll lc ll' lc' : List FE) : Prop := (tc = true ∧ ll' = [] ∧ Conc ll lc lc') ∨ (tc = false ∧ ll' = ll ∧ lc' = lc)

set_option maxRecDepth 100000 in
set_option maxHeartbeats 1000000 in
theorem removeComma_any (w : World) (base : Nat) (rc : Option Addr) (lb lo tb to cb co : Nat) (tc : Bool) (vl vc : Value) (ll lc : List FE) (h : Two w base ⟨lb, lo, none⟩ ⟨tb, to, none⟩ ⟨cb, co, none⟩ tc vl vc ll lc)
    (hlen : ll.length + lc.length ≤ 1048570) (hbs : base ≤ w.heap.size) (hcl : ∀ x, lc[0]? = some x → x.k = 0 → x.cl = 0) :
    Calls Tryf.prog 91 #[.pointer rc, .pointer (some ⟨lb, lo, none⟩), .pointer (some ⟨tb, to, none⟩), .pointer (some ⟨cb, co, none⟩)] w fun e w' => e = .returned (.tuple #[]) ∧
      ∃ ll' lc', RmC tc ll lc ll' lc' ∧ Left3 w base ⟨lb, lo, none⟩ ⟨tb, to, none⟩ ⟨cb, co, none⟩ vl vc false ll' lc' w' := by
  have ct := h.ct
  have ft := h.ft
  have H := Lib.hid h; clear h
  have HCL := Lib.hid hcl; clear hcl
  cases tc
  · go_enter Tryf.func91, Tryf.ntmps91
    go_wp2_with fail
    go_end0
    exact ⟨rfl, ll, lc, Or.inr ⟨rfl, rfl, rfl⟩, Left3.stay H.out (Kept.refl _ _)⟩
  · go_enter Tryf.func91, Tryf.ntmps91
    go_wp2_with fail
    have h1 := H.out.flag false
    refine (fmove_any _ base cb co lb lo vc vl lc ll h1.c h1.l h1.cq h1.cp h1.fq h1.fp (Ne.symm h1.pq) (fun g hg => ⟨(h1.ac g hg).2.1, (h1.ac g hg).1, fun e => (h1.al g e).2.2.2 hg⟩) (fun g hg => ⟨(h1.al g hg).2.1, (h1.al g hg).1⟩) (by omega) (by simpa using hbs) HCL.out).mono ?_
    rintro e w1 ⟨rfl, hm⟩
    go_wp2_with fail
    go_end0
    obtain ⟨lc', hcon, hL⟩ := Left3.of_moved h1 hm
    refine ⟨rfl, [], lc', Or.inl ⟨rfl, rfl, hcon⟩, ?_⟩
    obtain ⟨vl', vc', hk⟩ := hL
    exact (Left3.flag H.out false).trans_two h1 ⟨vl', vc', hk⟩

/-- What fixComma makes of the flag and the two fodders. -/
def FxC (tc : Bool) (ll lc ll' lc' : List FE) : Prop :=
  ((tc && (!(anyNL lc || anyNL ll) || anyNL ll)) = true ∧ ll' = [] ∧ Conc ll lc lc') ∨ ((tc && (!(anyNL lc || anyNL ll) || anyNL ll)) = false ∧ ll' = ll ∧ lc' = lc)

set_option maxRecDepth 100000 in
set_option maxHeartbeats 4000000 in
theorem fixComma_any (w : World) (base : Nat) (rc : Option Addr) (lb lo tb to cb co : Nat) (tc : Bool) (vl vc : Value) (ll lc : List FE) (h : Two w base ⟨lb, lo, none⟩ ⟨tb, to, none⟩ ⟨cb, co, none⟩ tc vl vc ll lc)
    (hlen : ll.length + lc.length ≤ 1048570) (hbs : base ≤ w.heap.size) (hcl : ∀ x, lc[0]? = some x → x.k = 0 → x.cl = 0) :
    Calls Tryf.prog 14 #[.pointer rc, .pointer (some ⟨lb, lo, none⟩), .pointer (some ⟨tb, to, none⟩), .pointer (some ⟨cb, co, none⟩)] w fun e w' => e = .returned (.tuple #[]) ∧
      ∃ ll' lc', FxC tc ll lc ll' lc' ∧ Left3 w base ⟨lb, lo, none⟩ ⟨tb, to, none⟩ ⟨cb, co, none⟩ vl vc (anyNL lc || anyNL ll) ll' lc' w' := by
  have ct := h.ct
  have cp := h.cp
  have cq := h.cq
  have h0 := h
  have q0 : Kept [] w w := Kept.refl _ _
  have HH := Lib.hid h; clear h
  have HCL := Lib.hid hcl; clear hcl
  cases hc : anyNL lc <;> cases hl : anyNL ll <;> cases tc
  · go_enter Tryf.func14, Tryf.ntmps14
    go_wp2_with fail
    refine (containsNewline_any _ base vc lc h0.c).mono ?_
    rintro e w1 ⟨rfl, hb1⟩
    have k1 := Kept.of_below hb1 (Nat.le_refl _) []
    have h1 := h0.kept0 k1
    have ct1 := h1.ct
    have cp1 := h1.cp
    have cq1 := h1.cq
    have ft1 := h1.ft
    have q1 := q0.trans k1
    rw [hc]
    have H1 := Lib.hid h1; clear h1
    have Q1 := Lib.hid q1; clear q1
    clear k1 hb1
    go_wp2_with fail
    have h1 := H1.out
    have q1 := Q1.out
    refine (containsNewline_any _ base vl ll h1.l).mono ?_
    rintro e w2 ⟨rfl, hb2⟩
    have k2 := Kept.of_below hb2 (Nat.le_refl _) []
    have h2 := h1.kept0 k2
    have ct2 := h2.ct
    have cp2 := h2.cp
    have cq2 := h2.cq
    have ft2 := h2.ft
    have q2 := q1.trans k2
    rw [hl]
    have H2 := Lib.hid h2; clear h2
    have Q2 := Lib.hid q2; clear q2
    clear k2 hb2
    go_wp2_with fail
    go_end0
    exact ⟨rfl, ll, lc, Or.inr ⟨by simp, rfl, rfl⟩, Left3.stay HH.out Q2.out⟩
  · go_enter Tryf.func14, Tryf.ntmps14
    go_wp2_with fail
    refine (containsNewline_any _ base vc lc h0.c).mono ?_
    rintro e w1 ⟨rfl, hb1⟩
    have k1 := Kept.of_below hb1 (Nat.le_refl _) []
    have h1 := h0.kept0 k1
    have ct1 := h1.ct
    have cp1 := h1.cp
    have cq1 := h1.cq
    have ft1 := h1.ft
    have q1 := q0.trans k1
    rw [hc]
    have H1 := Lib.hid h1; clear h1
    have Q1 := Lib.hid q1; clear q1
    clear k1 hb1
    go_wp2_with fail
    have h1 := H1.out
    have q1 := Q1.out
    refine (containsNewline_any _ base vl ll h1.l).mono ?_
    rintro e w2 ⟨rfl, hb2⟩
    have k2 := Kept.of_below hb2 (Nat.le_refl _) []
    have h2 := h1.kept0 k2
    have ct2 := h2.ct
    have cp2 := h2.cp
    have cq2 := h2.cq
    have ft2 := h2.ft
    have q2 := q1.trans k2
    rw [hl]
    have H2 := Lib.hid h2; clear h2
    have Q2 := Lib.hid q2; clear q2
    clear k2 hb2
    go_wp2_with fail
    have hf := H2.out.flag false
    have hbsz : base ≤ (w2.setCell ⟨tb, to, none⟩ (.bool false)).heap.size := by simp; exact Nat.le_trans hbs Q2.out.size
    refine (fmove_any _ base cb co lb lo vc vl lc ll hf.c hf.l hf.cq hf.cp hf.fq hf.fp (Ne.symm hf.pq) (fun g hg => ⟨(hf.ac g hg).2.1, (hf.ac g hg).1, fun e => (hf.al g e).2.2.2 hg⟩) (fun g hg => ⟨(hf.al g hg).2.1, (hf.al g hg).1⟩) (by omega) hbsz HCL.out).mono ?_
    rintro e wm ⟨rfl, hm⟩
    go_wp2_with fail
    go_end0
    obtain ⟨lc', hcon, hL⟩ := Left3.of_moved hf hm
    exact ⟨rfl, [], lc', Or.inl ⟨by simp [hc, hl], rfl, hcon⟩, (Left3.stay HH.out Q2.out).trans_two H2.out ((Left3.flag H2.out false).trans_two hf hL)⟩
  · go_enter Tryf.func14, Tryf.ntmps14
    go_wp2_with fail
    refine (containsNewline_any _ base vc lc h0.c).mono ?_
    rintro e w1 ⟨rfl, hb1⟩
    have k1 := Kept.of_below hb1 (Nat.le_refl _) []
    have h1 := h0.kept0 k1
    have ct1 := h1.ct
    have cp1 := h1.cp
    have cq1 := h1.cq
    have ft1 := h1.ft
    have q1 := q0.trans k1
    rw [hc]
    have H1 := Lib.hid h1; clear h1
    have Q1 := Lib.hid q1; clear q1
    clear k1 hb1
    go_wp2_with fail
    have h1 := H1.out
    have q1 := Q1.out
    refine (containsNewline_any _ base vl ll h1.l).mono ?_
    rintro e w2 ⟨rfl, hb2⟩
    have k2 := Kept.of_below hb2 (Nat.le_refl _) []
    have h2 := h1.kept0 k2
    have ct2 := h2.ct
    have cp2 := h2.cp
    have cq2 := h2.cq
    have ft2 := h2.ft
    have q2 := q1.trans k2
    rw [hl]
    have H2 := Lib.hid h2; clear h2
    have Q2 := Lib.hid q2; clear q2
    clear k2 hb2
    go_wp2_with fail
    go_end0
    exact ⟨rfl, ll, lc, Or.inr ⟨by simp, rfl, rfl⟩, (Left3.stay HH.out Q2.out).trans_two H2.out (Left3.flag H2.out true)⟩
  · go_enter Tryf.func14, Tryf.ntmps14
    go_wp2_with fail
    refine (containsNewline_any _ base vc lc h0.c).mono ?_
    rintro e w1 ⟨rfl, hb1⟩
    have k1 := Kept.of_below hb1 (Nat.le_refl _) []
    have h1 := h0.kept0 k1
    have ct1 := h1.ct
    have cp1 := h1.cp
    have cq1 := h1.cq
    have ft1 := h1.ft
    have q1 := q0.trans k1
    rw [hc]
    have H1 := Lib.hid h1; clear h1
    have Q1 := Lib.hid q1; clear q1
    clear k1 hb1
    go_wp2_with fail
    have h1 := H1.out
    have q1 := Q1.out
    refine (containsNewline_any _ base vl ll h1.l).mono ?_
    rintro e w2 ⟨rfl, hb2⟩
    have k2 := Kept.of_below hb2 (Nat.le_refl _) []
    have h2 := h1.kept0 k2
    have ct2 := h2.ct
    have cp2 := h2.cp
    have cq2 := h2.cq
    have ft2 := h2.ft
    have q2 := q1.trans k2
    rw [hl]
    have H2 := Lib.hid h2; clear h2
    have Q2 := Lib.hid q2; clear q2
    clear k2 hb2
    go_wp2_with fail
    have h2 := H2.out
    have q2 := Q2.out
    refine (containsNewline_any _ base vl ll h2.l).mono ?_
    rintro e w3 ⟨rfl, hb3⟩
    have k3 := Kept.of_below hb3 (Nat.le_refl _) []
    have h3 := h2.kept0 k3
    have ct3 := h3.ct
    have cp3 := h3.cp
    have cq3 := h3.cq
    have ft3 := h3.ft
    have q3 := q2.trans k3
    rw [hl]
    have H3 := Lib.hid h3; clear h3
    have Q3 := Lib.hid q3; clear q3
    clear k3 hb3
    go_wp2_with fail
    have hf := H3.out
    have hbsz : base ≤ w3.heap.size := Nat.le_trans hbs Q3.out.size
    refine (fmove_any _ base cb co lb lo vc vl lc ll hf.c hf.l hf.cq hf.cp hf.fq hf.fp (Ne.symm hf.pq) (fun g hg => ⟨(hf.ac g hg).2.1, (hf.ac g hg).1, fun e => (hf.al g e).2.2.2 hg⟩) (fun g hg => ⟨(hf.al g hg).2.1, (hf.al g hg).1⟩) (by omega) hbsz HCL.out).mono ?_
    rintro e wm ⟨rfl, hm⟩
    go_wp2_with fail
    go_end0
    obtain ⟨lc', hcon, hL⟩ := Left3.of_moved hf hm
    exact ⟨rfl, [], lc', Or.inl ⟨by simp [hc, hl], rfl, hcon⟩, (Left3.stay HH.out Q3.out).trans_two H3.out hL⟩
  · go_enter Tryf.func14, Tryf.ntmps14
    go_wp2_with fail
    refine (containsNewline_any _ base vc lc h0.c).mono ?_
    rintro e w1 ⟨rfl, hb1⟩
    have k1 := Kept.of_below hb1 (Nat.le_refl _) []
    have h1 := h0.kept0 k1
    have ct1 := h1.ct
    have cp1 := h1.cp
    have cq1 := h1.cq
    have ft1 := h1.ft
    have q1 := q0.trans k1
    rw [hc]
    have H1 := Lib.hid h1; clear h1
    have Q1 := Lib.hid q1; clear q1
    clear k1 hb1
    go_wp2_with fail
    go_end0
    exact ⟨rfl, ll, lc, Or.inr ⟨by simp, rfl, rfl⟩, (Left3.stay HH.out Q1.out).trans_two H1.out (Left3.flag H1.out true)⟩
  · go_enter Tryf.func14, Tryf.ntmps14
    go_wp2_with fail
    refine (containsNewline_any _ base vc lc h0.c).mono ?_
    rintro e w1 ⟨rfl, hb1⟩
    have k1 := Kept.of_below hb1 (Nat.le_refl _) []
    have h1 := h0.kept0 k1
    have ct1 := h1.ct
    have cp1 := h1.cp
    have cq1 := h1.cq
    have ft1 := h1.ft
    have q1 := q0.trans k1
    rw [hc]
    have H1 := Lib.hid h1; clear h1
    have Q1 := Lib.hid q1; clear q1
    clear k1 hb1
    go_wp2_with fail
    have h1 := H1.out
    have q1 := Q1.out
    refine (containsNewline_any _ base vl ll h1.l).mono ?_
    rintro e w2 ⟨rfl, hb2⟩
    have k2 := Kept.of_below hb2 (Nat.le_refl _) []
    have h2 := h1.kept0 k2
    have ct2 := h2.ct
    have cp2 := h2.cp
    have cq2 := h2.cq
    have ft2 := h2.ft
    have q2 := q1.trans k2
    rw [hl]
    have H2 := Lib.hid h2; clear h2
    have Q2 := Lib.hid q2; clear q2
    clear k2 hb2
    go_wp2_with fail
    go_end0
    exact ⟨rfl, ll, lc, Or.inr ⟨by simp [hc, hl], rfl, rfl⟩, Left3.stay HH.out Q2.out⟩
  · go_enter Tryf.func14, Tryf.ntmps14
    go_wp2_with fail
    refine (containsNewline_any _ base vc lc h0.c).mono ?_
    rintro e w1 ⟨rfl, hb1⟩
    have k1 := Kept.of_below hb1 (Nat.le_refl _) []
    have h1 := h0.kept0 k1
    have ct1 := h1.ct
    have cp1 := h1.cp
    have cq1 := h1.cq
    have ft1 := h1.ft
    have q1 := q0.trans k1
    rw [hc]
    have H1 := Lib.hid h1; clear h1
    have Q1 := Lib.hid q1; clear q1
    clear k1 hb1
    go_wp2_with fail
    go_end0
    exact ⟨rfl, ll, lc, Or.inr ⟨by simp, rfl, rfl⟩, (Left3.stay HH.out Q1.out).trans_two H1.out (Left3.flag H1.out true)⟩
  · go_enter Tryf.func14, Tryf.ntmps14
    go_wp2_with fail
    refine (containsNewline_any _ base vc lc h0.c).mono ?_
    rintro e w1 ⟨rfl, hb1⟩
    have k1 := Kept.of_below hb1 (Nat.le_refl _) []
    have h1 := h0.kept0 k1
    have ct1 := h1.ct
    have cp1 := h1.cp
    have cq1 := h1.cq
    have ft1 := h1.ft
    have q1 := q0.trans k1
    rw [hc]
    have H1 := Lib.hid h1; clear h1
    have Q1 := Lib.hid q1; clear q1
    clear k1 hb1
    go_wp2_with fail
    have h1 := H1.out
    have q1 := Q1.out
    refine (containsNewline_any _ base vl ll h1.l).mono ?_
    rintro e w2 ⟨rfl, hb2⟩
    have k2 := Kept.of_below hb2 (Nat.le_refl _) []
    have h2 := h1.kept0 k2
    have ct2 := h2.ct
    have cp2 := h2.cp
    have cq2 := h2.cq
    have ft2 := h2.ft
    have q2 := q1.trans k2
    rw [hl]
    have H2 := Lib.hid h2; clear h2
    have Q2 := Lib.hid q2; clear q2
    clear k2 hb2
    go_wp2_with fail
    have hf := H2.out
    have hbsz : base ≤ w2.heap.size := Nat.le_trans hbs Q2.out.size
    refine (fmove_any _ base cb co lb lo vc vl lc ll hf.c hf.l hf.cq hf.cp hf.fq hf.fp (Ne.symm hf.pq) (fun g hg => ⟨(hf.ac g hg).2.1, (hf.ac g hg).1, fun e => (hf.al g e).2.2.2 hg⟩) (fun g hg => ⟨(hf.al g hg).2.1, (hf.al g hg).1⟩) (by omega) hbsz HCL.out).mono ?_
    rintro e wm ⟨rfl, hm⟩
    go_wp2_with fail
    go_end0
    obtain ⟨lc', hcon, hL⟩ := Left3.of_moved hf hm
    exact ⟨rfl, [], lc', Or.inl ⟨by simp [hc, hl], rfl, hcon⟩, (Left3.stay HH.out Q2.out).trans_two H2.out hL⟩

end Go.Proofs.YtnfhhmadkiogbaaFmt
