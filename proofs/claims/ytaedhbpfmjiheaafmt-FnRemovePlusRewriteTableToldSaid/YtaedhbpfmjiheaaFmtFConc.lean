/- The contracts of ast.FodderAppend in one, and of ast.FodderConcat: what the joined fodder holds. -/
import Derived.Test.YtaedhbpfmjiheaaFmtFApM
import Derived.Test.YtaedhbpfmjiheaaFmtFApP
namespace Go.Proofs.YtaedhbpfmjiheaaFmt
open Go.ChangeShapes Go.WideShapes Go.ChangeAt Go.RowKit

/-- What one FodderAppend makes of l. -/
def Step (l : List FE) (e : FE) (l' : List FE) : Prop :=
  (clean l = true ∧ e.k = 0 ∧ ∃ n x, l.length = n + 1 ∧ l[n]? = some x ∧ l' = l.set n { x with b := wrap64 (x.b + e.b), i := e.i }) ∨
  (clean l = false ∧ e.k = 2 ∧ ∃ ca, l' = l ++ [⟨ca, 0, 0, 0, 0, e.i⟩, e]) ∨
  ((clean l && e.k == 0) = false ∧ (!clean l && e.k == 2) = false ∧ l' = l ++ [e])

theorem Step.length {l l' : List FE} {e : FE} (h : Step l e l') : l'.length ≤ l.length + 2 := by
  rcases h with ⟨_, _, n, x, _, _, rfl⟩ | ⟨_, _, ca, rfl⟩ | ⟨_, _, rfl⟩ <;> simp

theorem fapp_any (w : World) (base pb po : Nat) (v : Value) (l : List FE) (e : FE) (h : Fod w base v l) (hp : w.cell? ⟨pb, po, none⟩ = some v) (hpf : w.frozen? ⟨pb, po, none⟩ = false) (hpv : ∀ g, v.ownBlock = some g → g ≠ pb)
    (hlen : l.length ≤ 1048576) (hb : base ≤ w.heap.size) (hc : e.k = 0 → e.cl = 0) :
    Calls Tryf.prog 16 #[.pointer (some ⟨pb, po, none⟩), .agg #[.slice e.ca e.cl e.cc, .int .i64 e.k, .int .i64 e.b, .int .i64 e.i]] w fun en w' => en = .returned (.tuple #[]) ∧
      ∃ l', Step l e l' ∧ Appd w base pb po v l' w' := by
  cases hcl : clean l
  · by_cases hk : e.k = 2
    · refine (fapp_para w base pb po v l e h hp hpf hpv hlen hb hcl hk).mono ?_
      rintro en w' ⟨rfl, ca, hA⟩
      exact ⟨rfl, _, Or.inr (Or.inl ⟨hcl, hk, ca, rfl⟩), hA⟩
    · have h2 : (!clean l && e.k == 2) = false := by simp [hcl, hk]
      have h1 : (clean l && e.k == 0) = false := by simp [hcl]
      refine (fapp_plain w base pb po v l e h hp hpf hpv hlen hb h1 h2).mono ?_
      rintro en w' ⟨rfl, hA⟩
      exact ⟨rfl, _, Or.inr (Or.inr ⟨h1, h2, rfl⟩), hA⟩
  · by_cases hk : e.k = 0
    · obtain ⟨n, hn⟩ : ∃ n, l.length = n + 1 := by
        refine ⟨l.length - 1, ?_⟩
        cases l
        · cases hcl
        · simp
      obtain ⟨x, hx⟩ : ∃ x, l[n]? = some x := ⟨_, List.getElem?_eq_getElem (by omega)⟩
      refine (fapp_merge w base pb po v l e x n h hp hpf hpv hn (by omega) hx hcl hk (hc hk)).mono ?_
      rintro en w' ⟨rfl, hA⟩
      exact ⟨rfl, _, Or.inl ⟨hcl, hk, n, x, hn, hx, rfl⟩, hA⟩
    · have h2 : (!clean l && e.k == 2) = false := by simp [hcl]
      have h1 : (clean l && e.k == 0) = false := by simp [hk]
      refine (fapp_plain w base pb po v l e h hp hpf hpv hlen hb h1 h2).mono ?_
      rintro en w' ⟨rfl, hA⟩
      exact ⟨rfl, _, Or.inr (Or.inr ⟨h1, h2, rfl⟩), hA⟩

/-- What FodderConcat makes of two fodders. -/
def Conc (a b l' : List FE) : Prop :=
  (a = [] ∧ l' = b) ∨ (b = [] ∧ l' = a) ∨ ∃ x t m, a ≠ [] ∧ b = x :: t ∧ Step a x m ∧ l' = m ++ t

set_option maxRecDepth 100000 in
set_option maxHeartbeats 4000000 in
theorem fconc_any (w : World) (base : Nat) (va vb : Value) (la lb : List FE) (ha : Fod w base va la) (hb : Fod w base vb lb) (hne : ∀ g, va.ownBlock = some g → vb.ownBlock ≠ some g)
    (hlen : la.length + lb.length ≤ 1048570) (hbs : base ≤ w.heap.size) (hcl : ∀ x, lb[0]? = some x → x.k = 0 → x.cl = 0) :
    Calls Tryf.prog 15 #[va, vb] w fun e w' => ∃ v' l', e = .returned v' ∧ Conc la lb l' ∧ Fod w' base v' l' ∧ Kept va.ownBlock.toList w w' ∧
      ∀ g, v'.ownBlock = some g → va.ownBlock = some g ∨ vb.ownBlock = some g ∨ w.heap.size ≤ g := by
  obtain ⟨aa, capa, rfl, hlca, hcma, haa⟩ := ha.slice
  obtain ⟨ab, capb, rfl, hlcb, hcmb, hab⟩ := hb.slice
  unfold maxLen at hcma hcmb
  have HA := Lib.hid ha; clear ha
  have HB := Lib.hid hb; clear hb
  have HNE := Lib.hid hne; clear hne
  by_cases h0 : la = []
  · subst h0
    clear haa hab
    go_enter Tryf.func15, Tryf.ntmps15
    go_wp2_with fail
    go_ret
    exact ⟨_, lb, rfl, Or.inl ⟨rfl, rfl⟩, HB.out, Kept.refl _ _, fun g hg => Or.inr (Or.inl hg)⟩
  have hla : 0 < la.length := List.length_pos_iff.2 h0
  by_cases h1 : lb = []
  · subst h1
    clear haa hab
    have hz : ((la.length : Int) == 0) = false := by simp; omega
    go_enter Tryf.func15, Tryf.ntmps15
    go_wp2_with fail
    go_ret
    exact ⟨_, la, rfl, Or.inr (Or.inl ⟨rfl, rfl⟩), HA.out, Kept.refl _ _, fun g hg => Or.inl hg⟩
  obtain ⟨x, t, rfl⟩ := List.exists_cons_of_ne_nil h1
  obtain ⟨ga, rfl, hga1, hga2⟩ := haa 0 hla
  obtain ⟨gb, rfl, hgb1, hgb2⟩ := hab 0 (by simp)
  obtain ⟨nb, hnb⟩ : ∃ nb, (x :: t).length = nb + 1 := ⟨t.length, rfl⟩
  have hnt : t.length = nb := by simpa using hnb
  obtain ⟨na, hna⟩ : ∃ na, la.length = na + 1 := ⟨la.length - 1, by omega⟩
  have hB := HB.out
  rw [hnb] at hB hlen hlcb ⊢
  clear HB
  have HB := Lib.hid hB; clear hB
  have hgab : ga ≠ gb := fun h => HNE.out ga rfl (by rw [h]; rfl)
  have hz : ((la.length : Int) == 0) = false := by simp; omega
  have hz2 : (((nb + 1 : Nat) : Int) == 0) = false := by simp; omega
  obtain ⟨x0, hx0, c0, c1, c2, c3⟩ := HB.out.cells 0 (by simp)
  obtain rfl : x = x0 := by simpa using hx0
  have hxc : x.k = 0 → x.cl = 0 := hcl x hx0
  clear hx0 hcl haa hab
  have HNT := Lib.hid hnt; clear hnt
  have HXC := Lib.hid hxc; clear hxc
  have H0 := Lib.hid h0; clear h0 h1
  have HNA := Lib.hid hna; clear hna
  have HNB := Lib.hid hnb; clear hnb
  obtain ⟨i0, hi, hz0, hz1, hzz2⟩ := info_parts Tryf.infoFE
  have HI := Lib.hid hi; clear hi
  have HI0 := Lib.hid hz0; clear hz0
  have HI1 := Lib.hid hz1; clear hz1
  have HI2 := Lib.hid hzz2; clear hzz2
  rw [Nat.zero_mul] at c0
  rw [Nat.zero_mul, Nat.zero_add] at c1 c2 c3
  go_enter Tryf.func15, Tryf.ntmps15
  go_wp2_with fail
  obtain ⟨r, hr⟩ : ∃ r, w.heap.size = r := ⟨_, rfl⟩
  obtain ⟨W5, hW5⟩ : ∃ W5, w.alloc (.cells #[.slice (some ⟨ga, 0, none⟩) la.length capa] 26) = W5 := ⟨_, rfl⟩
  have hk5 : Kept [] w W5 := hW5 ▸ (Kept.refl [] _).alloc _
  have hr5 : W5.heap[r]? = some (.cells #[.slice (some ⟨ga, 0, none⟩) la.length capa] 26) := by rw [← hW5, ← hr]; exact heap_alloc_new _ _
  have hF5 : Fod W5 base (.slice (some ⟨ga, 0, none⟩) la.length capa) la := HA.out.kept hk5 (by simp)
  have hB5 : Fod W5 base (.slice (some ⟨gb, 0, none⟩) (nb + 1) capb) (x :: t) := HB.out.kept hk5 (by simp)
  have hs5 : W5.heap.size = r + 1 := by rw [← hW5, ← hr]; simp
  have hc5 : W5.cell? ⟨r, 0, none⟩ = some (.slice (some ⟨ga, 0, none⟩) la.length capa) := by simp [World.cell?, hr5]
  have hf5 : W5.frozen? ⟨r, 0, none⟩ = false := by simp [World.frozen?, hr5]
  rw [hW5, hr]
  rw [hr] at hga2 hgb2 hbs
  have HR := Lib.hid hr; clear hr
  have HW5 := Lib.hid hW5; clear hW5
  have HK5 := Lib.hid hk5; clear hk5
  have HF5 := Lib.hid hF5; clear hF5
  have HB5 := Lib.hid hB5; clear hB5
  have hpv : ∀ g, (Value.slice (some ⟨ga, 0, none⟩) la.length capa).ownBlock = some g → g ≠ r := by simp [Value.ownBlock]; omega
  refine (fapp_any W5 base r 0 _ la x HF5.out hc5 hf5 hpv (by omega) (by omega) HXC.out).mono ?_
  rintro en w6 ⟨rfl, m, hst, hA⟩
  have HST := Lib.hid hst; clear hst
  have HAP := Lib.hid hA; clear hA
  have HPV := Lib.hid hpv; clear hpv
  have HC5 := Lib.hid hc5; clear hc5
  clear hr5 hf5 c0 c1 c2 c3
  go_wp2_with fail
  go_loopw [6] (fun i wr => ∃ K : Nat, K ≤ nb + 1 ∧ i = .int .i64 K ∧ ∃ k, K = k + 1 ∧ Appd W5 base r 0 (.slice (some ⟨ga, 0, none⟩) la.length capa) (m ++ t.take k) wr) (fun i _ => nb + 1 - (intOf i).toNat)
  case atStart => exact ⟨1, by omega, rfl, 0, rfl, by simpa using HAP.out⟩
  case round =>
    clear HAP
    obtain ⟨K, hK, rfl, k, hkK, hA⟩ := hrel
    obtain ⟨v', hcr, hfr, hF, hKp, hown, hrest⟩ := id hA
    have HAP := Lib.hid hA; clear hA
    have HKK := Lib.hid hKp; clear hKp
    have HOW := Lib.hid hown; clear hown
    clear hrest
    have hsz := HKK.out.size
    by_cases hlt : K < nb + 1
    · obtain ⟨y, hy, c0, c1, c2, c3⟩ := (HB5.out.kept HKK.out (by simp [Value.ownBlock]; omega)).cells K (by rw [HNB.out]; omega)
      have hyt : t[k]? = some y := by rw [hkK] at hy; simpa using hy
      have hl' : m ++ t.take (k + 1) = (m ++ t.take k) ++ [y] := by rw [List.take_add_one, hyt]; simp
      have hml : (m ++ t.take k).length ≤ 1048576 := by
        have h1 := HST.out.length
        have h2 := HNT.out
        rw [List.length_append, List.length_take]
        omega
      have HL := Lib.hid hl'; clear hl' hyt hy
      generalize m ++ t.take k = l at *
      have HKK1 := Lib.hid hkK; clear hkK
      obtain ⟨ya, yl, yc, yk, yb, yi⟩ := y
      dsimp only at c0 c1 c2 c3
      have hrl : r < wr.heap.size := by omega
      have hnr : some r ≠ v'.ownBlock := fun h => (HOW.out r h.symm).1 rfl
      have HNR := Lib.hid hnr; clear hnr
      have hbr : base ≤ wr.heap.size := by omega
      have HFL := Lib.hid hF; clear hF
      have hnews : ∀ j u, (flat [⟨ya, yl, yc, yk, yb, yi⟩])[j]? = some u → ((wr.alloc (.cells #[.slice ya yl yc, .int .i64 yk, .int .i64 yb, .int .i64 yi] 83)).drew).cell? ((⟨wr.heap.size, 0, none⟩ : Addr).add j) = some u := by
        intro j u hu
        exact World.news_of_block (cs := #[.slice ya yl yc, .int .i64 yk, .int .i64 yb, .int .i64 yi]) (t := 83) (fr := (0, 0)) (heap_alloc_new wr _) j u (by simpa [flat, FE.cells] using hu)
      have HNW := Lib.hid hnews; clear hnews
      have hgbl : gb < wr.heap.size := by omega
      go_wp2_with fail
      go_region_law ((refine step_append_lies _ (by rfl) _ _ _ (by rfl) base 83 i0 _ 4 48 Tryf.underlying26 HI.out HI0.out HI1.out HI2.out rfl (by omega) v' l.length (flat l) (by rfl) (World.ownsRow.drew (World.ownsRow.alloc HFL.out _)) ⟨wr.heap.size, 0, none⟩ 1 1 (flat [⟨ya, yl, yc, yk, yb, yi⟩]) (by rfl) (by rfl) (HNW.out) (FE.cells_one _) (by omega) (by unfold maxLen; omega) (by omega) (by simp; omega) (wr.heap.size + 1) (by simp) ?_; intro g2 cap2 w3 hown3 hgrow3 hat3 hlt3; have hcp3 : w3.cell? ⟨r, 0, none⟩ = some v' := hgrow3.cell (by go_simp) HNR.out; have hfp3 : w3.frozen? ⟨r, 0, none⟩ = false := (World.frozen?_of_block (hgrow3.block r (by simp; omega) HNR.out)).trans (by go_simp)))
      all_goals
        go_wp2_with fail
        refine ⟨⟨K + 1, by omega, by go_num, k + 1, by rw [HKK1.out], ?_⟩, by simp [intOf]; omega⟩
        rw [HL.out]
        exact HAP.out.trans hcr (appd_close ((Kept.refl [] wr).alloc _).drew (hat3.symm.imp (fun h => by omega) id) rfl hown3 hgrow3 ⟨_, hcp3⟩ hfp3 (fun g hg => (HOW.out g hg).1) hrl)
    · obtain rfl : k = nb := by omega
      subst hkK
      rw [List.take_of_length_le (by rw [HNT.out]; exact Nat.le_refl _)] at HAP hF
      have HFL := Lib.hid hF; clear hF
      go_wp2_with fail
      go_ret
      refine ⟨v', m ++ t, rfl, Or.inr (Or.inr ⟨x, t, m, H0.out, rfl, HST.out, rfl⟩), HFL.out, ?_, fun g hg => ?_⟩
      · exact HK5.out.mono (by simp) |>.then HKK.out (by intro y hy; simp [Value.ownBlock] at hy ⊢; rw [HR.out]; omega)
      · rcases (HOW.out g hg).2 with h | h
        · exact Or.inl h
        · exact Or.inr (Or.inr (by rw [HR.out]; omega))
end Go.Proofs.YtaedhbpfmjiheaaFmt
