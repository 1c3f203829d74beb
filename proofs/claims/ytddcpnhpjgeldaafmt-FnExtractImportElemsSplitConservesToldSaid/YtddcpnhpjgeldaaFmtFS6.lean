/- The contract of formatter.extractImportElems. -/
import Derived.Test.YtddcpnhpjgeldaaFmtFS5
namespace Go.Proofs.YtddcpnhpjgeldaaFmt
attribute [local go_sem ↓] Go.wp_at_zero Go.wp_at_succ
open Go.ChangeShapes Go.WideShapes Go.ChangeAt Go.RowKit

/-- The codes of the fodder ahead of the i-th element's name. -/
def vfC (dd : List (List ZE)) (i : Nat) : List ZE := if i = 0 then adjC dd 0 else (splitS (adjC dd i)).2.1
/-- The codes of the fodder behind the i-th element of n. -/
def adC (dd : List (List ZE)) (n : Nat) (z : List ZE) (i : Nat) : List ZE := if i + 1 < n then ens (splitS (adjC dd (i + 1))).1 else ens z
/-- A fodder with these codes lies there. -/
def F0 (w : World) (t : Trip) (cs : List ZE) : Prop := ∃ b l, Fod w b t.val l ∧ codes l = cs
/-- So it does, in another block than av's. -/
def FSh (av : Value) (w : World) (t : Trip) (cs : List ZE) : Prop := ∃ b l, Fod w b t.val l ∧ codes l = cs ∧ ∀ g, t.val.ownBlock = some g → av.ownBlock ≠ some g
theorem FSh.f0 {av : Value} {w : World} {t : Trip} {cs : List ZE} (h : FSh av w t cs) : F0 w t cs := by
  obtain ⟨b, l, h1, h2, -⟩ := h
  exact ⟨b, l, h1, h2⟩
theorem FSh.kept {S : List Nat} {av : Value} {w w' : World} {t : Trip} {cs : List ZE} (h : FSh av w t cs) (k : Kept S w w') (hS : ∀ g ∈ S, av.ownBlock = some g ∨ w.heap.size ≤ g) : FSh av w' t cs := by
  obtain ⟨b, l, h1, h2, h3⟩ := h
  refine ⟨b, l, h1.kept k (fun g hg hm => ?_), h2, h3⟩
  rcases hS g hm with e | e
  · exact h3 g hg e
  · have := (h1.blk hg).2
    omega
theorem FSh.keptT {T' : Nat} {S : List Nat} {av : Value} {w w' : World} {t : Trip} {cs : List ZE} (h : FSh av w t cs) (k : Kept S w w') (hS : ∀ g ∈ S, ∃ cs, w.heap[g]? = some (.cells cs T' (0, 0))) (hne : T' ≠ 56) : FSh av w' t cs := by
  obtain ⟨b, l, h1, h2, h3⟩ := h
  exact ⟨b, l, h1.keptT k hS hne, h2, h3⟩
theorem F0.keptT {T' : Nat} {S : List Nat} {w w' : World} {t : Trip} {cs : List ZE} (h : F0 w t cs) (k : Kept S w w') (hS : ∀ g ∈ S, ∃ cs, w.heap[g]? = some (.cells cs T' (0, 0))) (hne : T' ≠ 56) : F0 w' t cs := by
  obtain ⟨b, l, h1, h2⟩ := h
  exact ⟨b, l, h1.keptT k hS hne, h2⟩
theorem F0.kept0 {w w' : World} {t : Trip} {cs : List ZE} (h : F0 w t cs) (k : Kept [] w w') : F0 w' t cs := by
  obtain ⟨b, l, h1, h2⟩ := h
  exact ⟨b, l, h1.kept k (by simp), h2⟩
/-- These binds lie there, with their files and fodders. -/
def BndAt (w : World) (files : List ByteArray) (dd : List (List ZE)) (ys : List BX) : Prop := ∀ (i : Nat) y, ys[i]? = some y → (∃ s, files[i]? = some s ∧ ImpAt w y.imp s) ∧ F0 w y.vf (adjC dd i)
theorem BndAt.kept0 {w w' : World} {files : List ByteArray} {dd : List (List ZE)} {ys : List BX} (h : BndAt w files dd ys) (k : Kept [] w w') : BndAt w' files dd ys := fun i y hy => by
  obtain ⟨⟨s, h1, h2⟩, h3⟩ := h i y hy
  exact ⟨⟨s, h1, h2.kept0 k⟩, h3.kept0 k⟩
/-- What the elements are that were taken out. -/
def OutAt (P : Trip → List ZE → Prop) (files vars : List ByteArray) (dd : List (List ZE)) (n : Nat) (z : List ZE) (xs : List IX) : Prop :=
  ∀ (i : Nat) x, xs[i]? = some x → files[i]? = some x.key ∧ vars[i]? = some x.var ∧ P x.vf (vfC dd i) ∧ P x.adj (adC dd n z i)
theorem OutAt.imp {P Q : Trip → List ZE → Prop} {files vars : List ByteArray} {dd : List (List ZE)} {n : Nat} {z : List ZE} {xs : List IX} (h : OutAt P files vars dd n z xs) (hq : ∀ t c, P t c → Q t c) : OutAt Q files vars dd n z xs := fun i x hx => by
  obtain ⟨h1, h2, h3, h4⟩ := h i x hx
  exact ⟨h1, h2, hq _ _ h3, hq _ _ h4⟩
theorem OutAt.snoc {P : Trip → List ZE → Prop} {files vars : List ByteArray} {dd : List (List ZE)} {n : Nat} {z : List ZE} {xs : List IX} {x : IX} (h : OutAt P files vars dd n z xs) (h1 : files[xs.length]? = some x.key) (h2 : vars[xs.length]? = some x.var) (h3 : P x.vf (vfC dd xs.length)) (h4 : P x.adj (adC dd n z xs.length)) : OutAt P files vars dd n z (xs ++ [x]) := by
  intro i y hy
  by_cases hi : i < xs.length
  · rw [List.getElem?_append_left hi] at hy
    exact h i y hy
  · rw [List.getElem?_append_right (by omega)] at hy
    have h0 : i - xs.length = 0 := by
      by_cases h0 : i - xs.length = 0
      · exact h0
      · rw [List.getElem?_eq_none (by simp; omega)] at hy; cases hy
    rw [h0] at hy
    obtain rfl : x = y := by simpa using hy
    obtain rfl : i = xs.length := by omega
    exact ⟨h1, h2, h3, h4⟩
/-- Where the loop stands. -/
structure ExtSt (w0 w : World) (av : Value) (n k : Nat) (files vars : List ByteArray) (dd : List (List ZE)) (z : List ZE) (xs : List IX) (bt : Trip) (wr : World) : Prop where
  kw0 : Kept [] w0 wr
  len : xs.length = k
  mid : k < n → OutAt (FSh av wr) files vars dd n z xs ∧ Kept [] w wr ∧ FSh av wr bt (vfC dd k)
  fin : k = n → OutAt (F0 wr) files vars dd n z xs

theorem ExtSt.next {w0 w wo W w6 : World} {av rv : Value} {n k : Nat} {files vars : List ByteArray} {dd : List (List ZE)} {z : List ZE} {xs : List IX} {bt bt' : Trip} {x : IX} {S : List Nat} (h : ExtSt w0 w av n k files vars dd z xs bt wo) (hlt : k < n)
    (hkW : Kept S wo W) (hS : ∀ g ∈ S, av.ownBlock = some g) (hkw0 : Kept [] w0 W) (hk6 : Kept rv.ownBlock.toList W w6) (htyp : ∀ g ∈ rv.ownBlock.toList, ∃ cs, W.heap[g]? = some (.cells cs 52 (0, 0))) (hblk : ∀ g ∈ rv.ownBlock.toList, w0.heap.size ≤ g ∧ w.heap.size ≤ g)
    (h1 : files[k]? = some x.key) (h2 : vars[k]? = some x.var) (h3 : x.vf = bt) (hmid : k + 1 < n → S = [] ∧ FSh av W x.adj (adC dd n z k) ∧ FSh av W bt' (vfC dd (k + 1))) (hfin : k + 1 = n → F0 W x.adj (adC dd n z k)) :
    ExtSt w0 w av n (k + 1) files vars dd z (xs ++ [x]) bt' w6 := by
  have ne : (52 : Nat) ≠ 56 := by decide
  obtain ⟨m1, m2, m3⟩ := h.mid hlt
  have hl := h.len
  refine ⟨hkw0.then hk6 (fun g hg => Or.inr (hblk g hg).1), by rw [List.length_append, hl]; rfl, fun hm => ?_, fun hf => ?_⟩
  · obtain ⟨rfl, a1, a2⟩ := hmid hm
    refine ⟨(m1.imp fun t c ht => (ht.kept hkW (by simp)).keptT hk6 htyp ne).snoc (by rw [hl]; exact h1) (by rw [hl]; exact h2) (by rw [hl, h3]; exact (m3.kept hkW (by simp)).keptT hk6 htyp ne) (by rw [hl]; exact a1.keptT hk6 htyp ne), (m2.trans hkW).then hk6 (fun g hg => Or.inr (hblk g hg).2), a2.keptT hk6 htyp ne⟩
  · exact (m1.imp fun t c ht => ((ht.kept hkW (fun g hg => Or.inl (hS g hg))).keptT hk6 htyp ne).f0).snoc (by rw [hl]; exact h1) (by rw [hl]; exact h2) (by rw [hl, h3]; exact ((m3.kept hkW (fun g hg => Or.inl (hS g hg))).keptT hk6 htyp ne).f0) (by rw [hl]; exact (hfin hf).keptT hk6 htyp ne)

set_option maxRecDepth 100000 in
set_option maxHeartbeats 1200000 in
theorem extract_any (w0 w : World) (ba : Option Addr) (n cap : Nat) (ys : List BX) (files vars : List ByteArray) (dd : List (List ZE)) (aa : Option Addr) (an ac : Nat) (la : List FE) (z : List ZE) (hk0 : Kept [] w0 w) (hb : RdY w0 ba n cap ys) (hbs : BndAt w0 files dd ys) (hvars : ys.map BX.var = vars) (hn0 : 0 < n) (hn : n ≤ 65536) (hrows : ∀ i, (adjC dd i).length ≤ 65536 ∧ ∀ e ∈ adjC dd i, e.c ≤ 4)
    (ha : Fod w w0.heap.size (.slice aa an ac) la) (hz : codes la = z) (hla : la.length ≤ 65536) :
    Calls Tryf.prog 24 #[.slice ba n cap, .slice aa an ac] w fun e w' => ∃ (t : Trip) (xs : List IX), e = .returned t.val ∧ t.2.1 = n ∧ OwnR 52 14 encX w' w.heap.size t.val xs ∧ xs.length = n ∧ OutAt (F0 w') files vars dd n z xs ∧ Kept [] w0 w' := by
  have hle := hb.le
  have htop := hb.top
  have hyl := hb.len
  unfold maxLen at htop
  obtain ⟨b, o, y0, hy0, rfl, hbl, hc0⟩ := (hb.kept0 hk0).row 0 hn0
  have e0 := hc0 0 (by omega)
  obtain ⟨⟨ya, yn, yc⟩, yi, yv⟩ := y0
  simp only [encY, Trip.val, Nat.add_zero, Nat.zero_mul, List.getElem?_cons_zero] at e0
  have hn1 : (0 : Int) < (n : Int) := by omega
  have HF0 := Lib.hid (hbs 0 _ hy0).2
  have HB := Lib.hid hb; clear hb
  have HBS := Lib.hid hbs; clear hbs
  have HA := Lib.hid ha; clear ha
  have HK0 := Lib.hid hk0; clear hk0
  have HRW := Lib.hid hrows; clear hrows
  have HYL := Lib.hid hyl; clear hyl
  have HVR := Lib.hid hvars; clear hvars
  clear hc0 hy0
  obtain ⟨i0, hi, hz0, hz1, hz2⟩ := info_parts Tryf.infoIE
  have HI := Lib.hid hi; clear hi
  have HI0 := Lib.hid hz0; clear hz0
  have HI1 := Lib.hid hz1; clear hz1
  have HI2 := Lib.hid hz2; clear hz2
  go_enter Tryf.func24, Tryf.ntmps24
  go_wp2_with fail
  have HS0 : Hid (∃ xs, OwnR 52 14 encX w w.heap.size (.slice none 0 0) xs ∧ ExtSt w0 w (.slice aa an ac) n 0 files vars dd z xs (ya, yn, yc) w) := Lib.hid ⟨[], ⟨rfl, Or.inl ⟨rfl, rfl⟩⟩, HK0.out, rfl, fun _ => ⟨fun i x hx => by simp at hx, Kept.refl _ _, by
    obtain ⟨b', l', h1, h2⟩ := HF0.out
    refine ⟨b', l', h1.kept HK0.out (by simp), by rw [h2]; rfl, fun g hg hg2 => ?_⟩
    have h3 := (h1.blk hg).2
    have h4 := (HA.out.blk hg2).1
    omega⟩, fun h => absurd h (by omega)⟩
  clear HF0
  go_loopw [5, 6, 21] (fun rv bv i wr => ∃ k : Nat, k ≤ n ∧ i = .int .i64 k ∧ ∃ rt bt : Trip, rv = rt.val ∧ bv = bt.val ∧ rt.2.1 = k ∧ Hid (∃ xs, OwnR 52 14 encX wr w.heap.size rt.val xs ∧ ExtSt w0 w (.slice aa an ac) n k files vars dd z xs bt wr)) (fun _ _ i _ => n - (intOf i).toNat)
  case atStart => exact ⟨0, Nat.zero_le _, rfl, (none, 0, 0), (ya, yn, yc), rfl, rfl, rfl, HS0.out⟩
  case round =>
    clear HS0 e0
    obtain ⟨k', hk, rfl, ⟨ra, k, rc⟩, ⟨ba, bn, bc⟩, rfl, rfl, hrn, HS⟩ := hrel
    dsimp only at hrn
    subst hrn
    obtain ⟨xs, hown, hst⟩ := HS.out
    clear HS
    have HOWN := Lib.hid hown; clear hown
    have HST := Lib.hid hst; clear hst
    obtain ⟨wo, rfl⟩ : ∃ wo : World, wo = wr := ⟨_, rfl⟩
    unfold Trip.val at HOWN ⊢
    dsimp only at HOWN ⊢
    by_cases hlt : k < n
    · obtain ⟨b', o', ⟨⟨ya', yn', yc'⟩, yi', yv'⟩, hy, hx, hbl, hcc⟩ := (HB.out.kept0 HST.out.kw0).row k hlt
      obtain ⟨rfl, rfl⟩ : b = b' ∧ o = o' := by simpa using hx
      clear hx
      have HY := Lib.hid hy; clear hy
      have e0 := hcc 0 (by omega)
      have e1 := hcc 1 (by omega)
      have e2 := hcc 2 (by omega)
      have e3 := hcc 3 (by omega)
      have e4 := hcc 4 (by omega)
      have e5 := hcc 5 (by omega)
      have e6 := hcc 6 (by omega)
      have e7 := hcc 7 (by omega)
      have e8 := hcc 8 (by omega)
      have e9 := hcc 9 (by omega)
      have e10 := hcc 10 (by omega)
      have e11 := hcc 11 (by omega)
      clear hcc
      simp only [encY, Trip.val, Nat.add_zero, List.getElem?_cons_succ, List.getElem?_cons_zero] at e0 e1 e2 e3 e4 e5 e6 e7 e8 e9 e10 e11
      have i1 : (0 : Int) ≤ (k : Int) := by omega
      have i2 : (k : Int) < (n : Int) := by omega
      by_cases hl : k + 1 < n
      · obtain ⟨b', o', ⟨⟨na, nn, nc'⟩, ni, nv⟩, hny, hx, hnbl, hcc⟩ := (HB.out.kept0 HST.out.kw0).row (k + 1) hl
        obtain ⟨rfl, rfl⟩ : b = b' ∧ o = o' := by simpa using hx
        clear hx
        have HNY := Lib.hid hny; clear hny
        have f0 := hcc 0 (by omega)
        clear hcc
        simp only [encY, Trip.val, Nat.add_zero, List.getElem?_cons_zero] at f0
        have hq : ((k : Int) == (n : Int) - 1) = false := by simp; omega
        have i3 : (k : Int) + 1 < (n : Int) := by omega
        go_wp2_with fail
        obtain ⟨b1, hb1⟩ : ∃ b1, wo.heap.size = b1 := ⟨_, rfl⟩
        obtain ⟨W1, hW1⟩ : ∃ W1, (wo.alloc (.cells #[.slice ya' yn' yc', .iface 60 (.pointer (some ⟨yi', 0, none⟩)), .slice none 0 0, .string yv', .slice none 0 0, .pointer none, .pointer none, .string ⟨#[]⟩, .int .i64 0, .int .i64 0, .int .i64 0, .int .i64 0] 44)).alloc (.cells #[.slice none 0 0] 33) = W1 := ⟨_, rfl⟩
        have k1 : Kept [] wo W1 := hW1 ▸ ((Kept.refl [] _).alloc _).alloc _
        have x1 : W1.heap[b1]? = some (.cells #[.slice ya' yn' yc', .iface 60 (.pointer (some ⟨yi', 0, none⟩)), .slice none 0 0, .string yv', .slice none 0 0, .pointer none, .pointer none, .string ⟨#[]⟩, .int .i64 0, .int .i64 0, .int .i64 0, .int .i64 0] 44 (0, 0)) := by
          rw [← hW1, ← hb1]
          exact ((Kept.refl [] _).alloc _).heap (heap_alloc_new wo _) (by simp)
        have y1 : W1.heap[b1 + 1]? = some (.cells #[.slice none 0 0] 33 (0, 0)) := by
          rw [← hW1, ← hb1, show wo.heap.size + 1 = (wo.alloc (.cells #[.slice ya' yn' yc', .iface 60 (.pointer (some ⟨yi', 0, none⟩)), .slice none 0 0, .string yv', .slice none 0 0, .pointer none, .pointer none, .string ⟨#[]⟩, .int .i64 0, .int .i64 0, .int .i64 0, .int .i64 0] 44)).heap.size by simp]
          exact heap_alloc_new _ _
        have s1 : W1.heap.size = b1 + 2 := by rw [← hW1, ← hb1]; simp
        rw [hW1, hb1]
        clear hW1
        obtain ⟨bb, ll, hfn, hcn⟩ := ((HBS.out.kept0 (HST.out.kw0.trans k1)) (k + 1) _ HNY.out).2
        unfold Trip.val at hfn
        dsimp only at hfn
        refine (split_any W1 bb _ ll hfn (by have := (HRW.out (k + 1)).1; rw [← hcn, codes, List.length_map] at this; exact this) (fun e he => by have := (HRW.out (k + 1)).2 e.snap (by rw [← hcn]; exact List.mem_map_of_mem he); simp only [FE.snap] at this; omega)).mono ?_
        rintro e W2 ⟨v1, v2, l1, l2, rfl, h1, h2, q1, q2, hsep, n1, n2, k2⟩
        have hl1 : l1.length ≤ 65536 := by have := (HRW.out (k + 1)).1; rw [← hcn, codes, List.length_map] at this; omega
        rw [hcn] at q1 q2
        clear hfn hcn n1 n2
        obtain ⟨xa, xc, hv, -⟩ := h1.slice
        obtain ⟨xn, hn⟩ : ∃ n, l1.length = n := ⟨_, rfl⟩
        rw [hn] at hv
        subst hv
        clear hn
        obtain ⟨za, zc, hv, -⟩ := h2.slice
        obtain ⟨zn, hn⟩ : ∃ n, l2.length = n := ⟨_, rfl⟩
        rw [hn] at hv
        subst hv
        clear hn
        have y2 := k2.heap y1 (by simp)
        have y2c : W2.cell? ⟨b1 + 1, 0, none⟩ = some (.slice none 0 0) := by simp [World.cell?, y2]
        have y2f : W2.frozen? ⟨b1 + 1, 0, none⟩ = false := by simp [World.frozen?, y2]
        have x2 := k2.heap x1 (by simp)
        have H1 := Lib.hid h1; clear h1
        have H2 := Lib.hid h2; clear h2
        have Q1 := Lib.hid q1; clear q1
        have Q2 := Lib.hid q2; clear q2
        have HSEP := Lib.hid hsep; clear hsep
        have X2 := Lib.hid x2; clear x2 x1
        clear y2 y1
        have K2 := Lib.hid (k1.trans k2); clear k1 k2
        go_wp2_with fail
        obtain ⟨W3, hW3⟩ : ∃ W3, W2.setCell ⟨b1 + 1, 0, none⟩ (.slice xa xn xc) = W3 := ⟨_, rfl⟩
        have k3 : Kept [b1 + 1] W2 W3 := hW3 ▸ (Kept.refl [b1 + 1] _).setCell (p := ⟨b1 + 1, 0, none⟩) (Or.inl (by simp)) _
        have c3 : W3.cell? ⟨b1 + 1, 0, none⟩ = some (.slice xa xn xc) := by rw [← hW3]; exact World.cell?_setCell_same _ _ _ y2c
        have f3 : W3.frozen? ⟨b1 + 1, 0, none⟩ = false := by rw [← hW3, World.frozen?_setCell]; exact y2f
        rw [hW3]
        clear hW3
        have xown : ∀ g, (Value.slice xa xn xc).ownBlock = some g → b1 + 2 ≤ g := fun g hg => by have := (H1.out.blk hg).1; omega
        have zown : ∀ g, (Value.slice za zn zc).ownBlock = some g → b1 + 2 ≤ g := fun g hg => by have := (H2.out.blk hg).1; omega
        refine (ensure_codes W3 W1.heap.size (b1 + 1) 0 _ l1 (H1.out.kept k3 (fun g hg hm => by have := xown g hg; simp at hm; omega)) c3 f3 (fun g hg => by have := xown g hg; omega) (by omega) (by have := K2.out.size; have := k3.size; have := (World.block_lt_of_cell? _ _ y2c); dsimp only at this; omega)).mono ?_
        rintro en W4 ⟨rfl, l1', hl1', v1', c4, f4, h4, k4, own4, -⟩
        clear c3 f3 y2c y2f
        obtain ⟨ua, uc, hv, -⟩ := h4.slice
        obtain ⟨un, hn⟩ : ∃ n, l1'.length = n := ⟨_, rfl⟩
        rw [hn] at hv
        subst hv
        clear hn
        have hmid := HST.out.mid hlt
        have avl : ∀ g, (Value.slice aa an ac).ownBlock = some g → g < b1 := fun g hg => by
          have h1 := (HA.out.blk hg).2
          have h2 := hmid.2.1.size
          omega
        have hx4 : ∀ g ∈ (b1 + 1) :: (Value.slice xa xn xc).ownBlock.toList, b1 + 1 ≤ g := fun g hg => by
          simp only [List.mem_cons, Option.mem_toList] at hg
          rcases hg with rfl | hg
          · exact Nat.le_refl _
          · have := xown g hg; omega
        have k04 : Kept [] wo W4 := (K2.out.then k3 (fun g hg => Or.inr (by simp at hg; omega))).then k4 (fun g hg => Or.inr (by have := hx4 g hg; omega))
        have x4 := k4.heap (k3.heap X2.out (by simp)) (fun hm => by have := hx4 _ hm; omega)
        have HFSN : Hid (FSh (.slice aa an ac) W4 (za, zn, zc) (vfC dd (k + 1))) := Lib.hid ⟨_, l2, (H2.out.kept k3 (fun g hg hm => by have := zown g hg; simp at hm; omega)).kept k4 (fun g hg hm => by
            simp only [List.mem_cons, Option.mem_toList] at hm
            rcases hm with hm | hm
            · have := zown g hg; omega
            · exact HSEP.out g hg hm), by unfold vfC; rw [if_neg (by omega), Q2.out], fun g hg hg2 => by
            have h1 := zown g hg
            have h2 := avl g hg2
            omega⟩
        have HFSA : Hid (FSh (.slice aa an ac) W4 (ua, un, uc) (adC dd n z k)) := Lib.hid ⟨_, l1', h4, by unfold adC; rw [if_pos hl, hl1', Q1.out], fun g hg hg2 => by
            have h2 := avl g hg2
            have h3 := (own4 g hg).2
            rcases h3 with h3 | h3
            · have := xown g h3; omega
            · have := K2.out.size; have := k3.size; omega⟩
        have K04 := Lib.hid k04; clear k04
        have X4 := Lib.hid x4; clear x4
        clear k3 k4 h4 own4 xown zown hx4 H1 H2 Q1 Q2 HSEP X2 K2 hl1' hl1
        obtain ⟨s, hs, himp⟩ := (HBS.out k _ HY.out).1
        obtain ⟨f, d00, d10⟩ := himp.cells
        clear himp
        have d0 := (HST.out.kw0.trans K04.out).cell d00 (by simp)
        have d1 := (HST.out.kw0.trans K04.out).cell d10 (by simp)
        have l0 := World.block_lt_of_cell? _ _ d00
        have l1 := World.block_lt_of_cell? _ _ d10
        dsimp only at l0 l1
        have own0 : ∀ g ∈ (Value.slice ra k rc).ownBlock.toList, w0.heap.size ≤ g ∧ g < b1 := fun g hg => by
          simp only [Option.mem_toList] at hg
          have h1 := HOWN.out.blk hg
          have h2 := HK0.out.size
          omega
        have YNE : Hid (yi' ∉ (Value.slice ra k rc).ownBlock.toList) := Lib.hid (fun hm => by have := (own0 _ hm).1; omega)
        have FNE : Hid (f ∉ (Value.slice ra k rc).ownBlock.toList) := Lib.hid (fun hm => by have := (own0 _ hm).1; omega)
        have ANE : Hid (b1 + 1 ∉ (Value.slice ra k rc).ownBlock.toList) := Lib.hid (fun hm => by have := (own0 _ hm).2; omega)
        have b34 : b1 ≤ W4.heap.size := by have := K04.out.size; omega
        have BNE : Hid (W4.heap.size ∉ (Value.slice ra k rc).ownBlock.toList) := Lib.hid (fun hm => by have := (own0 _ hm).2; omega)
        have OWN0 := Lib.hid own0; clear own0 d00 d10 l0 l1
        have HSF := Lib.hid hs; clear hs
        have g0 := cell_of_block X4.out 0
        have g1 := cell_of_block X4.out 1
        have g2 := cell_of_block X4.out 2
        have g3 := cell_of_block X4.out 3
        have g4 := cell_of_block X4.out 4
        have g5 := cell_of_block X4.out 5
        have g6 := cell_of_block X4.out 6
        have g7 := cell_of_block X4.out 7
        have g8 := cell_of_block X4.out 8
        have g9 := cell_of_block X4.out 9
        have g10 := cell_of_block X4.out 10
        have g11 := cell_of_block X4.out 11
        simp only [List.getElem?_toArray, List.getElem?_cons_succ, List.getElem?_cons_zero] at g0 g1 g2 g3 g4 g5 g6 g7 g8 g9 g10 g11
        clear e0 e1 e2 e3 e4 e5 e6 e7 e8 e9 e10 e11 f0
        have g1a : ∀ o, (W4.alloc o).cell? ⟨b1, 1, none⟩ = some (.iface 60 (.pointer (some ⟨yi', 0, none⟩))) := fun o => ((Kept.refl [] W4).alloc o).cell (g1.trans rfl) (by simp)
        have hta := fun w : World => ta_import (.pointer (some ⟨yi', 0, none⟩)) 35 w
        dsimp only
        go_wp2_with fail
        obtain ⟨b3, hb3⟩ : ∃ b3, W4.heap.size = b3 := ⟨_, rfl⟩
        obtain ⟨W5, hW5⟩ : ∃ W5, W4.alloc (.cells #[.slice ba bn bc, .iface 60 (.pointer (some ⟨yi', 0, none⟩)), .slice none 0 0, .string yv', .slice none 0 0, .pointer none, .pointer none, .string ⟨#[]⟩, .int .i64 0, .int .i64 0, .int .i64 0, .int .i64 0] 44) = W5 := ⟨_, rfl⟩
        have k5 : Kept [] W4 W5 := hW5 ▸ (Kept.refl [] _).alloc _
        have x5 : W5.heap[b3]? = some (.cells #[.slice ba bn bc, .iface 60 (.pointer (some ⟨yi', 0, none⟩)), .slice none 0 0, .string yv', .slice none 0 0, .pointer none, .pointer none, .string ⟨#[]⟩, .int .i64 0, .int .i64 0, .int .i64 0, .int .i64 0] 44 (0, 0)) := by rw [← hW5, ← hb3]; exact heap_alloc_new _ _
        rw [hW5, hb3]
        rw [hb3] at BNE
        clear hW5 g0 g1 g2 g3 g4 g5 g6 g7 g8 g9 g10 g11 g1a
        have D0 := Lib.hid (k5.cell d0 (by simp))
        have D1 := Lib.hid (k5.cell d1 (by simp))
        have D2 := Lib.hid (k5.cell c4 (by simp))
        clear d0 d1 c4 f4
        have N0 : Hid (W5.cell? ⟨b3, 0, none⟩ = some (.slice ba bn bc)) := Lib.hid (cell_of_block x5 0)
        have N1 : Hid (W5.cell? ⟨b3, 1, none⟩ = some (.iface 60 (.pointer (some ⟨yi', 0, none⟩)))) := Lib.hid (cell_of_block x5 1)
        have N2 : Hid (W5.cell? ⟨b3, 2, none⟩ = some (.slice none 0 0)) := Lib.hid (cell_of_block x5 2)
        have N3 : Hid (W5.cell? ⟨b3, 3, none⟩ = some (.string yv')) := Lib.hid (cell_of_block x5 3)
        have N4 : Hid (W5.cell? ⟨b3, 4, none⟩ = some (.slice none 0 0)) := Lib.hid (cell_of_block x5 4)
        have N5 : Hid (W5.cell? ⟨b3, 5, none⟩ = some (.pointer none)) := Lib.hid (cell_of_block x5 5)
        have N6 : Hid (W5.cell? ⟨b3, 6, none⟩ = some (.pointer none)) := Lib.hid (cell_of_block x5 6)
        have N7 : Hid (W5.cell? ⟨b3, 7, none⟩ = some (.string ⟨#[]⟩)) := Lib.hid (cell_of_block x5 7)
        have N8 : Hid (W5.cell? ⟨b3, 8, none⟩ = some (.int .i64 0)) := Lib.hid (cell_of_block x5 8)
        have N9 : Hid (W5.cell? ⟨b3, 9, none⟩ = some (.int .i64 0)) := Lib.hid (cell_of_block x5 9)
        have N10 : Hid (W5.cell? ⟨b3, 10, none⟩ = some (.int .i64 0)) := Lib.hid (cell_of_block x5 10)
        have N11 : Hid (W5.cell? ⟨b3, 11, none⟩ = some (.int .i64 0)) := Lib.hid (cell_of_block x5 11)
        have HFN5 := Lib.hid (HFSN.out.kept k5 (by simp))
        have HFA5 := Lib.hid (HFSA.out.kept k5 (by simp))
        have K05 := Lib.hid (K04.out.trans k5)
        clear x5 HFSN HFSA
        have HO : Hid (∀ o, OwnR 52 14 encX ((W5.alloc o).drew) w.heap.size (.slice ra k rc) xs) := Lib.hid (fun o => HOWN.out.kept0 (K05.out.alloc o).drew)
        have HBX : Hid (∀ cs, ((W5.alloc (.cells cs 52)).drew).heap[W5.heap.size]? = some (.cells cs 52 (0, 0))) := Lib.hid (fun cs => heap_alloc_new W5 _)
        have HBL : Hid (∀ o, w.heap.size ≤ ((W5.alloc o).drew).heap.size) := Lib.hid (fun o => by
          have h1 := (hmid.2.1.trans K05.out).size
          have h2 : ((W5.alloc o).drew).heap.size = W5.heap.size + 1 := by simp
          omega)
        have H3 : Hid (xs.length + 1 ≤ maxLen) := Lib.hid (by rw [HST.out.len]; unfold maxLen; omega)
        have H4 : Hid ((xs.length + 1) * 208 ≤ 140737488355328) := Lib.hid (by rw [HST.out.len]; omega)
        have HMID := Lib.hid hmid; clear hmid k5
        have kr := Kept.refl (Value.slice ra k rc).ownBlock.toList W5
        go_region_held3 (fun w' => w'.cell? ⟨yi', 0, none⟩ = some (.pointer (some ⟨f, 0, none⟩)) ∧ w'.cell? ⟨f, 0, none⟩ = some (.string s) ∧ w'.cell? ⟨b1 + 1, 0, none⟩ = some (.slice ua un uc) ∧ w'.cell? ⟨b3, 0, none⟩ = some (.slice ba bn bc) ∧ w'.cell? ⟨b3, 1, none⟩ = some (.iface 60 (.pointer (some ⟨yi', 0, none⟩))) ∧ w'.cell? ⟨b3, 2, none⟩ = some (.slice none 0 0) ∧ w'.cell? ⟨b3, 3, none⟩ = some (.string yv') ∧ w'.cell? ⟨b3, 4, none⟩ = some (.slice none 0 0) ∧ w'.cell? ⟨b3, 5, none⟩ = some (.pointer none) ∧ w'.cell? ⟨b3, 6, none⟩ = some (.pointer none) ∧ w'.cell? ⟨b3, 7, none⟩ = some (.string ⟨#[]⟩) ∧ w'.cell? ⟨b3, 8, none⟩ = some (.int .i64 0) ∧ w'.cell? ⟨b3, 9, none⟩ = some (.int .i64 0) ∧ w'.cell? ⟨b3, 10, none⟩ = some (.int .i64 0) ∧ w'.cell? ⟨b3, 11, none⟩ = some (.int .i64 0) ∧ Kept (Value.slice ra k rc).ownBlock.toList W5 w')
          ((try go_split_ands; refine (fun h : Kept (Value.slice ra k rc).ownBlock.toList W5 _ => ⟨h.cell D0.out YNE.out, h.cell D1.out FNE.out, h.cell D2.out ANE.out, h.cell N0.out BNE.out, h.cell N1.out BNE.out, h.cell N2.out BNE.out, h.cell N3.out BNE.out, h.cell N4.out BNE.out, h.cell N5.out BNE.out, h.cell N6.out BNE.out, h.cell N7.out BNE.out, h.cell N8.out BNE.out, h.cell N9.out BNE.out, h.cell N10.out BNE.out, h.cell N11.out BNE.out, h⟩) ?_; first | assumption | exact Kept.drew (by assumption) | exact Kept.trans (Kept.drew (Kept.alloc (Kept.refl _ _) _)) hk6 | exact Kept.drew (Kept.alloc (Kept.refl _ _) _) | exact Kept.alloc (by assumption) _))
          (first
          | ((refine step_push (T := 52) (c := 14) (enc := encX) (by rfl) _ _ 47 (by rfl) w.heap.size i0 _ 208 Tryf.underlying47 HI.out HI0.out HI1.out HI2.out rfl (by decide) encX_len encX_one (.slice ra k rc) xs (by rfl) (HO.out _) W5.heap.size ⟨(ua, un, uc), s, (ba, bn, bc), yi', yv'⟩ 1 _ (by rfl) (HBX.out _) rfl H3.out H4.out (HBL.out _) ?_; intro v6 w6 hown6 hk6)))
        all_goals
          clear D0 D1 D2 N0 N1 N2 N3 N4 N5 N6 N7 N8 N9 N10 N11 kr
          obtain ⟨va6, vc6, hv6, -⟩ := hown6.slice
          rw [List.length_append, List.length_singleton, HST.out.len] at hv6
          subst hv6
          have hsv : vars[k]? = some yv' := by rw [← HVR.out, List.getElem?_map, HY.out]; rfl
          have HN6 : Hid (ExtSt w0 w (.slice aa an ac) n (k + 1) files vars dd z (xs ++ [⟨(ua, un, uc), s, (ba, bn, bc), yi', yv'⟩]) (za, zn, zc) w6) := Lib.hid (HST.out.next hlt (K05.out.alloc _).drew (by simp) (HST.out.kw0.trans (K05.out.alloc _).drew) hk6 (HO.out _).typ (fun g hg => ⟨(OWN0.out g hg).1, (HOWN.out.blk (by simpa using hg)).1⟩) HSF.out hsv rfl (fun _ => ⟨rfl, (HFA5.out.kept ((Kept.refl [] W5).alloc _).drew (by simp)), (HFN5.out.kept ((Kept.refl [] W5).alloc _).drew (by simp))⟩) (fun h => absurd hl (by omega)))
          have HO6 := Lib.hid hown6; clear hown6 hk6 HO HBX HBL H3 H4
          go_wp2_with fail
          exact ⟨⟨k + 1, by omega, by go_num, (va6, k + 1, vc6), (za, zn, zc), rfl, rfl, rfl, Lib.hid ⟨_, HO6.out, HN6.out⟩⟩, by simp [intOf]; omega⟩
      · have hq : ((k : Int) == (n : Int) - 1) = true := by simp; omega
        go_wp2_with fail
        obtain ⟨b1, hb1⟩ : ∃ b1, wo.heap.size = b1 := ⟨_, rfl⟩
        obtain ⟨W3, hW3⟩ : ∃ W3, (wo.alloc (.cells #[.slice ya' yn' yc', .iface 60 (.pointer (some ⟨yi', 0, none⟩)), .slice none 0 0, .string yv', .slice none 0 0, .pointer none, .pointer none, .string ⟨#[]⟩, .int .i64 0, .int .i64 0, .int .i64 0, .int .i64 0] 44)).alloc (.cells #[.slice aa an ac] 33) = W3 := ⟨_, rfl⟩
        have k3 : Kept [] wo W3 := hW3 ▸ ((Kept.refl [] _).alloc _).alloc _
        have x3 : W3.heap[b1]? = some (.cells #[.slice ya' yn' yc', .iface 60 (.pointer (some ⟨yi', 0, none⟩)), .slice none 0 0, .string yv', .slice none 0 0, .pointer none, .pointer none, .string ⟨#[]⟩, .int .i64 0, .int .i64 0, .int .i64 0, .int .i64 0] 44 (0, 0)) := by
          rw [← hW3, ← hb1]
          exact ((Kept.refl [] _).alloc _).heap (heap_alloc_new wo _) (by simp)
        have y3 : W3.heap[b1 + 1]? = some (.cells #[.slice aa an ac] 33 (0, 0)) := by
          rw [← hW3, ← hb1, show wo.heap.size + 1 = (wo.alloc (.cells #[.slice ya' yn' yc', .iface 60 (.pointer (some ⟨yi', 0, none⟩)), .slice none 0 0, .string yv', .slice none 0 0, .pointer none, .pointer none, .string ⟨#[]⟩, .int .i64 0, .int .i64 0, .int .i64 0, .int .i64 0] 44)).heap.size by simp]
          exact heap_alloc_new _ _
        rw [hW3, hb1]
        clear hW3
        have c3 : W3.cell? ⟨b1 + 1, 0, none⟩ = some (.slice aa an ac) := by simp [World.cell?, y3]
        have f3 : W3.frozen? ⟨b1 + 1, 0, none⟩ = false := by simp [World.frozen?, y3]
        have hmid := HST.out.mid hlt
        have avl : ∀ g, (Value.slice aa an ac).ownBlock = some g → w0.heap.size ≤ g ∧ g < w.heap.size ∧ g < b1 := fun g hg => by
          have h1 := HA.out.blk hg
          have h2 := hmid.2.1.size
          omega
        refine (ensure_codes W3 w0.heap.size (b1 + 1) 0 _ la (HA.out.kept (hmid.2.1.trans k3) (by simp)) c3 f3 (fun g hg => by have := (avl g hg).2.2; omega) (by omega) (by have := HK0.out.size; have := hmid.2.1.size; have := k3.size; omega)).mono ?_
        rintro en W4 ⟨rfl, l1', hl1', v1', c4, f4, h4, k4, own4, -⟩
        clear c3 f3 y3
        obtain ⟨ua, uc, hv, -⟩ := h4.slice
        obtain ⟨un, hn'⟩ : ∃ n, l1'.length = n := ⟨_, rfl⟩
        rw [hn'] at hv
        subst hv
        clear hn'
        have k04 : Kept (Value.slice aa an ac).ownBlock.toList wo W4 := (k3.mono (by simp)).then k4 (fun g hg => by
          simp only [List.mem_cons] at hg
          rcases hg with rfl | hg
          · exact Or.inr (by omega)
          · exact Or.inl hg)
        have x4 := k4.heap x3 (fun hm => by
          simp only [List.mem_cons, Option.mem_toList] at hm
          rcases hm with hm | hm
          · omega
          · have := (avl _ hm).2.2; omega)
        have KW4 : Hid (Kept [] w0 W4) := Lib.hid (HST.out.kw0.then k04 (fun g hg => Or.inr (avl g (by simpa using hg)).1))
        have HFSA : Hid (F0 W4 (ua, un, uc) (adC dd n z k)) := Lib.hid ⟨_, l1', h4, by unfold adC; rw [if_neg (by omega), hl1', hz]⟩
        have AVL := Lib.hid avl; clear avl
        have K04 := Lib.hid k04; clear k04
        have X4 := Lib.hid x4; clear x4
        clear k3 k4 h4 own4 x3 hl1'
        obtain ⟨s, hs, himp⟩ := (HBS.out k _ HY.out).1
        obtain ⟨f, d00, d10⟩ := himp.cells
        clear himp
        have d0 := KW4.out.cell d00 (by simp)
        have d1 := KW4.out.cell d10 (by simp)
        have l0 := World.block_lt_of_cell? _ _ d00
        have l1 := World.block_lt_of_cell? _ _ d10
        dsimp only at l0 l1
        have own0 : ∀ g ∈ (Value.slice ra k rc).ownBlock.toList, w0.heap.size ≤ g ∧ g < b1 := fun g hg => by
          simp only [Option.mem_toList] at hg
          have h1 := HOWN.out.blk hg
          have h2 := HK0.out.size
          omega
        have YNE : Hid (yi' ∉ (Value.slice ra k rc).ownBlock.toList) := Lib.hid (fun hm => by have := (own0 _ hm).1; omega)
        have FNE : Hid (f ∉ (Value.slice ra k rc).ownBlock.toList) := Lib.hid (fun hm => by have := (own0 _ hm).1; omega)
        have ANE : Hid (b1 + 1 ∉ (Value.slice ra k rc).ownBlock.toList) := Lib.hid (fun hm => by have := (own0 _ hm).2; omega)
        have b34 : b1 ≤ W4.heap.size := by have := K04.out.size; omega
        have BNE : Hid (W4.heap.size ∉ (Value.slice ra k rc).ownBlock.toList) := Lib.hid (fun hm => by have := (own0 _ hm).2; omega)
        have OWN0 := Lib.hid own0; clear own0 d00 d10 l0 l1
        have HSF := Lib.hid hs; clear hs
        have g0 := cell_of_block X4.out 0
        have g1 := cell_of_block X4.out 1
        have g2 := cell_of_block X4.out 2
        have g3 := cell_of_block X4.out 3
        have g4 := cell_of_block X4.out 4
        have g5 := cell_of_block X4.out 5
        have g6 := cell_of_block X4.out 6
        have g7 := cell_of_block X4.out 7
        have g8 := cell_of_block X4.out 8
        have g9 := cell_of_block X4.out 9
        have g10 := cell_of_block X4.out 10
        have g11 := cell_of_block X4.out 11
        simp only [List.getElem?_toArray, List.getElem?_cons_succ, List.getElem?_cons_zero] at g0 g1 g2 g3 g4 g5 g6 g7 g8 g9 g10 g11
        clear e0 e1 e2 e3 e4 e5 e6 e7 e8 e9 e10 e11
        have g1a : ∀ o, (W4.alloc o).cell? ⟨b1, 1, none⟩ = some (.iface 60 (.pointer (some ⟨yi', 0, none⟩))) := fun o => ((Kept.refl [] W4).alloc o).cell (g1.trans rfl) (by simp)
        have hta := fun w : World => ta_import (.pointer (some ⟨yi', 0, none⟩)) 35 w
        dsimp only
        go_wp2_with fail
        obtain ⟨b3, hb3⟩ : ∃ b3, W4.heap.size = b3 := ⟨_, rfl⟩
        obtain ⟨W5, hW5⟩ : ∃ W5, W4.alloc (.cells #[.slice ba bn bc, .iface 60 (.pointer (some ⟨yi', 0, none⟩)), .slice none 0 0, .string yv', .slice none 0 0, .pointer none, .pointer none, .string ⟨#[]⟩, .int .i64 0, .int .i64 0, .int .i64 0, .int .i64 0] 44) = W5 := ⟨_, rfl⟩
        have k5 : Kept [] W4 W5 := hW5 ▸ (Kept.refl [] _).alloc _
        have x5 : W5.heap[b3]? = some (.cells #[.slice ba bn bc, .iface 60 (.pointer (some ⟨yi', 0, none⟩)), .slice none 0 0, .string yv', .slice none 0 0, .pointer none, .pointer none, .string ⟨#[]⟩, .int .i64 0, .int .i64 0, .int .i64 0, .int .i64 0] 44 (0, 0)) := by rw [← hW5, ← hb3]; exact heap_alloc_new _ _
        rw [hW5, hb3]
        rw [hb3] at BNE
        clear hW5 g0 g1 g2 g3 g4 g5 g6 g7 g8 g9 g10 g11 g1a
        have D0 := Lib.hid (k5.cell d0 (by simp))
        have D1 := Lib.hid (k5.cell d1 (by simp))
        have D2 := Lib.hid (k5.cell c4 (by simp))
        clear d0 d1 c4 f4
        have N0 : Hid (W5.cell? ⟨b3, 0, none⟩ = some (.slice ba bn bc)) := Lib.hid (cell_of_block x5 0)
        have N1 : Hid (W5.cell? ⟨b3, 1, none⟩ = some (.iface 60 (.pointer (some ⟨yi', 0, none⟩)))) := Lib.hid (cell_of_block x5 1)
        have N2 : Hid (W5.cell? ⟨b3, 2, none⟩ = some (.slice none 0 0)) := Lib.hid (cell_of_block x5 2)
        have N3 : Hid (W5.cell? ⟨b3, 3, none⟩ = some (.string yv')) := Lib.hid (cell_of_block x5 3)
        have N4 : Hid (W5.cell? ⟨b3, 4, none⟩ = some (.slice none 0 0)) := Lib.hid (cell_of_block x5 4)
        have N5 : Hid (W5.cell? ⟨b3, 5, none⟩ = some (.pointer none)) := Lib.hid (cell_of_block x5 5)
        have N6 : Hid (W5.cell? ⟨b3, 6, none⟩ = some (.pointer none)) := Lib.hid (cell_of_block x5 6)
        have N7 : Hid (W5.cell? ⟨b3, 7, none⟩ = some (.string ⟨#[]⟩)) := Lib.hid (cell_of_block x5 7)
        have N8 : Hid (W5.cell? ⟨b3, 8, none⟩ = some (.int .i64 0)) := Lib.hid (cell_of_block x5 8)
        have N9 : Hid (W5.cell? ⟨b3, 9, none⟩ = some (.int .i64 0)) := Lib.hid (cell_of_block x5 9)
        have N10 : Hid (W5.cell? ⟨b3, 10, none⟩ = some (.int .i64 0)) := Lib.hid (cell_of_block x5 10)
        have N11 : Hid (W5.cell? ⟨b3, 11, none⟩ = some (.int .i64 0)) := Lib.hid (cell_of_block x5 11)
        have HFA5 := Lib.hid (HFSA.out.kept0 k5)
        have K05 := Lib.hid (K04.out.trans (k5.mono (by simp)))
        have KW5 := Lib.hid (KW4.out.trans k5)
        clear x5 HFSA
        have HO : Hid (∀ o, OwnR 52 14 encX ((W5.alloc o).drew) w.heap.size (.slice ra k rc) xs) := Lib.hid (fun o => HOWN.out.kept (K05.out.alloc o).drew (fun g hg hm => by have h1 := (HOWN.out.blk hg).1; have h2 := (AVL.out g (by simpa using hm)).2.1; omega))
        have HBX : Hid (∀ cs, ((W5.alloc (.cells cs 52)).drew).heap[W5.heap.size]? = some (.cells cs 52 (0, 0))) := Lib.hid (fun cs => heap_alloc_new W5 _)
        have HBL : Hid (∀ o, w.heap.size ≤ ((W5.alloc o).drew).heap.size) := Lib.hid (fun o => by
          have h1 := hmid.2.1.size
          have h3 := K05.out.size
          have h2 : ((W5.alloc o).drew).heap.size = W5.heap.size + 1 := by simp
          omega)
        have H3 : Hid (xs.length + 1 ≤ maxLen) := Lib.hid (by rw [HST.out.len]; unfold maxLen; omega)
        have H4 : Hid ((xs.length + 1) * 208 ≤ 140737488355328) := Lib.hid (by rw [HST.out.len]; omega)
        have HMID := Lib.hid hmid; clear hmid k5
        have kr := Kept.refl (Value.slice ra k rc).ownBlock.toList W5
        go_region_held3 (fun w' => w'.cell? ⟨yi', 0, none⟩ = some (.pointer (some ⟨f, 0, none⟩)) ∧ w'.cell? ⟨f, 0, none⟩ = some (.string s) ∧ w'.cell? ⟨b1 + 1, 0, none⟩ = some (.slice ua un uc) ∧ w'.cell? ⟨b3, 0, none⟩ = some (.slice ba bn bc) ∧ w'.cell? ⟨b3, 1, none⟩ = some (.iface 60 (.pointer (some ⟨yi', 0, none⟩))) ∧ w'.cell? ⟨b3, 2, none⟩ = some (.slice none 0 0) ∧ w'.cell? ⟨b3, 3, none⟩ = some (.string yv') ∧ w'.cell? ⟨b3, 4, none⟩ = some (.slice none 0 0) ∧ w'.cell? ⟨b3, 5, none⟩ = some (.pointer none) ∧ w'.cell? ⟨b3, 6, none⟩ = some (.pointer none) ∧ w'.cell? ⟨b3, 7, none⟩ = some (.string ⟨#[]⟩) ∧ w'.cell? ⟨b3, 8, none⟩ = some (.int .i64 0) ∧ w'.cell? ⟨b3, 9, none⟩ = some (.int .i64 0) ∧ w'.cell? ⟨b3, 10, none⟩ = some (.int .i64 0) ∧ w'.cell? ⟨b3, 11, none⟩ = some (.int .i64 0) ∧ Kept (Value.slice ra k rc).ownBlock.toList W5 w')
          ((try go_split_ands; refine (fun h : Kept (Value.slice ra k rc).ownBlock.toList W5 _ => ⟨h.cell D0.out YNE.out, h.cell D1.out FNE.out, h.cell D2.out ANE.out, h.cell N0.out BNE.out, h.cell N1.out BNE.out, h.cell N2.out BNE.out, h.cell N3.out BNE.out, h.cell N4.out BNE.out, h.cell N5.out BNE.out, h.cell N6.out BNE.out, h.cell N7.out BNE.out, h.cell N8.out BNE.out, h.cell N9.out BNE.out, h.cell N10.out BNE.out, h.cell N11.out BNE.out, h⟩) ?_; first | assumption | exact Kept.drew (by assumption) | exact Kept.trans (Kept.drew (Kept.alloc (Kept.refl _ _) _)) hk6 | exact Kept.drew (Kept.alloc (Kept.refl _ _) _) | exact Kept.alloc (by assumption) _))
          (first
          | ((refine step_push (T := 52) (c := 14) (enc := encX) (by rfl) _ _ 47 (by rfl) w.heap.size i0 _ 208 Tryf.underlying47 HI.out HI0.out HI1.out HI2.out rfl (by decide) encX_len encX_one (.slice ra k rc) xs (by rfl) (HO.out _) W5.heap.size ⟨(ua, un, uc), s, (ba, bn, bc), yi', yv'⟩ 1 _ (by rfl) (HBX.out _) rfl H3.out H4.out (HBL.out _) ?_; intro v6 w6 hown6 hk6)))
        all_goals
          clear D0 D1 D2 N0 N1 N2 N3 N4 N5 N6 N7 N8 N9 N10 N11 kr
          obtain ⟨va6, vc6, hv6, -⟩ := hown6.slice
          rw [List.length_append, List.length_singleton, HST.out.len] at hv6
          subst hv6
          have hsv : vars[k]? = some yv' := by rw [← HVR.out, List.getElem?_map, HY.out]; rfl
          have HN6 : Hid (ExtSt w0 w (.slice aa an ac) n (k + 1) files vars dd z (xs ++ [⟨(ua, un, uc), s, (ba, bn, bc), yi', yv'⟩]) (none, 0, 0) w6) := Lib.hid (HST.out.next hlt (K05.out.alloc _).drew (fun g hg => by simpa using hg) (KW5.out.alloc _).drew hk6 (HO.out _).typ (fun g hg => ⟨(OWN0.out g hg).1, (HOWN.out.blk (by simpa using hg)).1⟩) HSF.out hsv rfl (fun h => absurd h hl) (fun _ => HFA5.out.kept0 ((Kept.refl [] W5).alloc _).drew))
          have HO6 := Lib.hid hown6; clear hown6 hk6 HO HBX HBL H3 H4
          go_wp2_with fail
          exact ⟨⟨k + 1, by omega, by go_num, (va6, k + 1, vc6), (none, 0, 0), rfl, rfl, rfl, Lib.hid ⟨_, HO6.out, HN6.out⟩⟩, by simp [intOf]; omega⟩
    · obtain rfl : k = n := by omega
      go_wp2_with fail
      go_ret
      exact ⟨(ra, k, rc), xs, rfl, rfl, HOWN.out, HST.out.len, HST.out.fin rfl, HST.out.kw0⟩
end Go.Proofs.YtddcpnhpjgeldaaFmt
