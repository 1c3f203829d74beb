/- The contracts of n008_102's interstitials, fodderIs, bytesOf. -/
import Derived.Test.YtepipmjcfnncdaaFmtStr
import Derived.Test.YtepipmjcfnncdaaFmtNode
import Derived.WalkSpells
import Derived.Deep.AppendLies
namespace Go.Proofs.YtepipmjcfnncdaaFmt
open Go.ChangeShapes Go.WideShapes Go.ChangeAt Go.RowKit

/-- Element e is a comment within a line, its text t in a block of its own from B on. -/
def NoteE (w : World) (B : Nat) (t : ByteArray) (e : FE) : Prop :=
  e.k = 1 ∧ e.b = 0 ∧ e.i = 0 ∧ e.cl = 1 ∧ ∃ g, e.ca = some ⟨g, 0, none⟩ ∧ B ≤ g ∧ w.heap[g]? = some (.cells #[.string t] 9 (0, 0))
def Notes (w : World) (B : Nat) (l : List FE) (ts : List ByteArray) : Prop := l.length = ts.length ∧ ∀ (j : Nat) e t, l[j]? = some e → ts[j]? = some t → NoteE w B t e

theorem NoteE.kept {w w' : World} {B : Nat} {t : ByteArray} {e : FE} {S : List Nat} (h : NoteE w B t e) (q : Kept S w w') (hS : ∀ g, w.heap[g]? = some (.cells #[.string t] 9 (0, 0)) → B ≤ g → g ∉ S) : NoteE w' B t e := by
  obtain ⟨h1, h2, h3, h4, g, h5, h6, h7⟩ := h
  exact ⟨h1, h2, h3, h4, g, h5, h6, q.heap h7 (hS g h7 h6)⟩
theorem Notes.kept {w w' : World} {B : Nat} {l : List FE} {ts : List ByteArray} {S : List Nat} (h : Notes w B l ts) (q : Kept S w w') (hS : ∀ g t, w.heap[g]? = some (.cells #[.string t] 9 (0, 0)) → B ≤ g → g ∉ S) : Notes w' B l ts :=
  ⟨h.1, fun j e t he ht => (h.2 j e t he ht).kept q (fun g hg => hS g t hg)⟩
theorem Notes.low {w : World} {B B' : Nat} {l : List FE} {ts : List ByteArray} (h : Notes w B l ts) (hb : B' ≤ B) : Notes w B' l ts :=
  ⟨h.1, fun j e t he ht => by
    obtain ⟨h1, h2, h3, h4, g, h5, h6, h7⟩ := h.2 j e t he ht
    exact ⟨h1, h2, h3, h4, g, h5, Nat.le_trans hb h6, h7⟩⟩
theorem Notes.nil (w : World) (B : Nat) : Notes w B [] [] := ⟨rfl, fun j e t he => by simp at he⟩
theorem Notes.snoc {w : World} {B : Nat} {l : List FE} {ts : List ByteArray} (h : Notes w B l ts) {e : FE} {t : ByteArray} (he : NoteE w B t e) : Notes w B (l ++ [e]) (ts ++ [t]) := by
  refine ⟨by simp [h.1], fun j x u hx hu => ?_⟩
  by_cases hj : j < l.length
  · rw [List.getElem?_append_left hj] at hx
    rw [List.getElem?_append_left (by rw [← h.1]; exact hj)] at hu
    exact h.2 j x u hx hu
  · rw [List.getElem?_append_right (by omega)] at hx
    rw [List.getElem?_append_right (by rw [← h.1]; omega), ← h.1] at hu
    have hj0 : j - l.length = 0 := by
      by_cases h0 : j - l.length = 0
      · exact h0
      · rw [List.getElem?_eq_none (by simp; omega)] at hx; cases hx
    rw [hj0] at hx hu
    simp at hx hu
    subst hx hu
    exact he
theorem Notes.append {w : World} {B : Nat} {l m : List FE} {ts us : List ByteArray} (h : Notes w B l ts) (k : Notes w B m us) : Notes w B (l ++ m) (ts ++ us) := by
  refine ⟨by simp [h.1, k.1], fun j x u hx hu => ?_⟩
  by_cases hj : j < l.length
  · rw [List.getElem?_append_left hj] at hx
    rw [List.getElem?_append_left (by rw [← h.1]; exact hj)] at hu
    exact h.2 j x u hx hu
  · rw [List.getElem?_append_right (by omega)] at hx
    rw [List.getElem?_append_right (by rw [← h.1]; omega), ← h.1] at hu
    exact k.2 _ x u hx hu
theorem Notes.kinds {w : World} {B : Nat} {l : List FE} {ts : List ByteArray} (h : Notes w B l ts) : ∀ e ∈ l, e.k = 1 := by
  intro e he
  obtain ⟨j, hj, rfl⟩ := List.getElem_of_mem he
  obtain ⟨t, ht⟩ : ∃ t, ts[j]? = some t := ⟨_, List.getElem?_eq_getElem (by rw [← h.1]; exact hj)⟩
  exact (h.2 j _ t (List.getElem?_eq_getElem hj) ht).1
/-- A fodder's own block is no comment's. -/
theorem Fod.noNote {w : World} {base : Nat} {v : Value} {l : List FE} (h : Fod w base v l) {g : Nat} (hg : v.ownBlock = some g) {t : ByteArray} : w.heap[g]? ≠ some (.cells #[.string t] 9 (0, 0)) := by
  intro e
  obtain ⟨_, h | ⟨g', cap, cur, hv, hb, hh, _⟩⟩ := h
  · obtain ⟨rfl, _⟩ := h
    simp [Value.ownBlock] at hg
  · subst hv
    simp [Value.ownBlock] at hg
    subst hg
    rw [hh] at e
    simp at e

set_option maxRecDepth 100000 in
set_option maxHeartbeats 2000000 in
theorem interstitials_any (w : World) (a : Option Addr) (len cap : Nat) (ss : List ByteArray) (h : IsStrs w a len cap ss) (hlen : len ≤ 1048576) :
    Calls Tryf.prog 42 #[.slice a len cap] w fun e w' => ∃ v l, e = .returned v ∧ Fod w' w.heap.size v l ∧ Notes w' w.heap.size l (ss.take len) ∧ Kept [] w w' := by
  have heq := fun (w : World) (a : Option Addr) (l c : Nat) => Lib.run_eql_slice_nil (P := Tryf.prog) w 117 9 a l c 0 0 Tryf.underlying117
  rcases h with ⟨rfl, rfl, rfl, rfl⟩ | hx
  · go_enter Tryf.func42, Tryf.ntmps42
    go_wp2
    go_ret
    exact ⟨.slice none 0 0, [], rfl, fod_nil _ _, Notes.nil _ _, Kept.refl _ _⟩
  have h : IsStrs w a len cap ss := Or.inr hx
  obtain ⟨x, rfl, _⟩ := hx
  obtain ⟨hlc, hcm, hzl, _, hcell⟩ := h.open
  unfold maxLen at hcm
  clear h
  have HZ := Lib.hid hzl; clear hzl
  have HC := Lib.hid hcell; clear hcell
  obtain ⟨i0, hi, hz0, hz1, hz2⟩ := info_parts Tryf.infoFE
  have HI := Lib.hid hi; clear hi
  have HI0 := Lib.hid hz0; clear hz0
  have HI1 := Lib.hid hz1; clear hz1
  have HI2 := Lib.hid hz2; clear hz2
  go_enter Tryf.func42, Tryf.ntmps42
  go_wp2_with (at_make; refine wpList_make_own _ rfl _ _ 33 rfl w.heap.size 162 i0 _ 4 Tryf.underlying33 HI.out HI0.out HI1.out _ _ _ len rfl rfl rfl ?b2 ?b3 (Nat.le_refl _) ?_)
  case b2 => rw [HI2.out]; omega
  case b3 => unfold maxLen; omega
  intro w1 hown hgrow
  have hf : Fod w1 w.heap.size (.slice (some ⟨w.heap.size, 0, none⟩) 0 len) [] := hown
  have hb : Kept [] w w1 := (Kept.refl _ _).grown hgrow (by simp)
  clear hown hgrow heq
  obtain ⟨B, hB⟩ : ∃ B, w.heap.size = B := ⟨_, rfl⟩
  rw [hB] at hf ⊢
  have HBB := Lib.hid hB; clear hB
  have HF := Lib.hid hf; clear hf
  have HB := Lib.hid hb; clear hb
  go_wp2
  go_loopw [3, 4] (fun v i wr => ∃ m : Nat, m ≤ len ∧ i = .int .i64 m ∧ (∃ l, Fod wr B v l ∧ Notes wr B l (ss.take m)) ∧ Kept [] w wr) (fun _ i _ => len - (intOf i).toNat)
  case atStart => exact ⟨0, Nat.zero_le _, rfl, ⟨[], HF.out, Notes.nil _ _⟩, HB.out⟩
  case round =>
    clear HF HB
    obtain ⟨m, hm, rfl, ⟨l, hf, hl⟩, hb⟩ := hrel
    have HB := Lib.hid hb; clear hb
    have HL := Lib.hid hl; clear hl
    by_cases hlt : m < len
    · obtain ⟨b, o, hx, hbl, hc⟩ := HC.out m hlt
      obtain rfl : x = ⟨b, o, none⟩ := by simpa using hx
      have c0 := HB.out.cell (hc m (by omega)) (by simp)
      clear hx hc
      obtain ⟨t, ht⟩ : ∃ t, ss.getD m ByteArray.empty = t := ⟨_, rfl⟩
      rw [ht] at c0
      have htk : ss.take (m + 1) = ss.take m ++ [t] := by
        rw [List.take_add_one, ← ht, List.getD_eq_getElem?_getD, List.getElem?_eq_getElem (show m < ss.length by rw [HZ.out]; omega)]
        simp
      have HTK := Lib.hid htk; clear htk ht
      have hln : l.length = m := by have := HL.out.1; rw [List.length_take, HZ.out] at this; omega
      obtain ⟨va, vc, hv, -⟩ := hf.slice
      have HF := Lib.hid hf; clear hf
      rw [hln] at hv
      have HLN := Lib.hid hln; clear hln
      subst hv
      have hfa : ∀ o1 o2, ((wr.alloc o1).alloc o2).ownsRow B 162 4 (.slice va m vc) m (flat l) := fun o1 o2 => by
        have := (HF.out.kept ((Kept.refl [] wr).alloc o1) (by simp)).kept ((Kept.refl [] (wr.alloc o1)).alloc o2) (by simp)
        unfold Fod at this
        rwa [HLN.out] at this
      have HFA := Lib.hid hfa; clear hfa
      go_wp2_with (first
        | (at_builtin; refine wpList_append_own _ rfl _ _ 33 rfl B 162 i0 _ 4 48 Tryf.underlying33 HI.out HI0.out HI1.out HI2.out rfl (by decide) (.slice va m vc) m (flat l) rfl (HFA.out _ _) ⟨wr.heap.size + 1, 0, none⟩ 1 1 (flat [⟨some ⟨wr.heap.size, 0, none⟩, 1, 1, 1, 0, 0⟩]) rfl rfl ?c1 ?c2 ?c3 ?c4 ?c5 ?_)
        | fail)
      case c1 =>
        intro j u hu
        refine World.news_of_block (cs := #[.slice (some ⟨wr.heap.size, 0, none⟩) 1 1, .int .i64 1, .int .i64 0, .int .i64 0]) (t := 162) (fr := (0, 0)) ?_ j u (by simpa [flat, FE.cells] using hu)
        have := heap_alloc_new (wr.alloc (.cells #[.string t] 9)) (.cells #[.slice (some ⟨wr.heap.size, 0, none⟩) 1 1, .int .i64 1, .int .i64 0, .int .i64 0] 162)
        rw [show (wr.alloc (.cells #[.string t] 9)).heap.size = wr.heap.size + 1 by simp] at this
        exact this
      case c2 => exact FE.cells_one _
      case c3 => unfold maxLen; omega
      case c4 => omega
      case c5 =>
        have := HB.out.size
        have := HBB.out
        simp only [World.size_alloc]; omega
      · intro v' w2 hown2 hgrow2 _
        have qa : Kept [] wr ((wr.alloc (.cells #[.string t] 9)).alloc (.cells #[.slice (some ⟨wr.heap.size, 0, none⟩) 1 1, .int .i64 1, .int .i64 0, .int .i64 0] 162)) := ((Kept.refl [] wr).alloc _).alloc _
        have hg0 := ((Kept.refl [] (wr.alloc (.cells #[.string t] 9))).alloc (.cells #[.slice (some ⟨wr.heap.size, 0, none⟩) 1 1, .int .i64 1, .int .i64 0, .int .i64 0] 162)).heap (heap_alloc_new wr (.cells #[.string t] 9)) (by simp)
        have qg : Kept (Value.slice va m vc).ownBlock.toList ((wr.alloc (.cells #[.string t] 9)).alloc (.cells #[.slice (some ⟨wr.heap.size, 0, none⟩) 1 1, .int .i64 1, .int .i64 0, .int .i64 0] 162)) w2 := (Kept.refl _ _).grown hgrow2 (fun k hk => Or.inl (by simp [hk]))
        have ownlt : ∀ g, (Value.slice va m vc).ownBlock = some g → B ≤ g ∧ g < wr.heap.size := fun g hg => World.ownsRow.lt HF.out g hg
        have hnn : Notes w2 B (l ++ [⟨some ⟨wr.heap.size, 0, none⟩, 1, 1, 1, 0, 0⟩]) (ss.take (m + 1)) := by
          rw [HTK.out]
          have q0 : Kept (Value.slice va m vc).ownBlock.toList wr w2 := (qa.mono (by simp)).trans qg
          refine Notes.snoc (HL.out.kept q0 (fun g t' hg hb' hm => ?_)) ⟨rfl, rfl, rfl, rfl, wr.heap.size, rfl, ?_, qg.heap hg0 (fun hm => ?_)⟩
          · simp at hm
            exact HF.out.noNote hm hg
          · have := HB.out.size
            have := HBB.out
            omega
          · simp at hm
            have := (ownlt _ hm).2
            omega
        have hfn : Fod w2 B v' (l ++ [⟨some ⟨wr.heap.size, 0, none⟩, 1, 1, 1, 0, 0⟩]) := by
          unfold Fod
          rw [List.length_append, flat_append, HLN.out]
          exact hown2
        have hkn : Kept [] w w2 := (HB.out.trans qa).then qg (fun g hg => by
          simp at hg
          have := (ownlt g hg).1
          exact Or.inr (by rw [HBB.out]; omega))
        have HNN := Lib.hid hnn; clear hnn
        have HFN := Lib.hid hfn; clear hfn
        have HKN := Lib.hid hkn; clear hkn
        clear hown2 hgrow2 qa hg0 qg ownlt HFA
        go_wp2_with fail
        go_roundw
        case rel => exact ⟨m + 1, by omega, by go_num, ⟨_, HFN.out, HNN.out⟩, HKN.out⟩
        case measure => simp [intOf]; omega
    · obtain rfl : m = len := by omega
      go_wp2
      go_ret
      rw [HBB.out]
      exact ⟨_, l, rfl, hf, HL.out, HB.out⟩

set_option maxRecDepth 100000 in
set_option maxHeartbeats 1000000 in
/-- What bytesOf tells of the number of strings. -/
theorem bytesOf_any (w : World) (a : Option Addr) (len cap : Nat) (ss : List ByteArray) (h : IsStrs w a len cap ss) (hs : ∀ (j : Nat) s, j < len → ss[j]? = some s → s.size ≤ 1048576) :
    Calls Tryf.prog 41 #[.slice a len cap] w fun e w' => ∃ n : Int, e = .returned (.int .i64 n) ∧ w = w' ∧ 0 ≤ n ∧ n ≤ 1048577 ∧ (n ≤ 1048576 → len ≤ 65536) := by
  obtain ⟨hlc, hcm, hzl, _, hcell⟩ := h.open
  unfold maxLen at hcm
  clear h
  have HZ := Lib.hid hzl; clear hzl
  have HC := Lib.hid hcell; clear hcell
  have HS := Lib.hid hs; clear hs
  go_enter Tryf.func41, Tryf.ntmps41
  go_wp2
  go_loop [3, 4] (fun c i => ∃ (k : Nat) (n : Int), k ≤ len ∧ i = .int .i64 k ∧ c = .int .i64 n ∧ 16 * (k : Int) ≤ n ∧ n ≤ 1048576) (fun _ i => len - (intOf i).toNat)
  case atStart => exact ⟨0, 0, Nat.zero_le _, rfl, rfl, by omega, by omega⟩
  case round =>
    obtain ⟨k, n, hk, rfl, rfl, h1, h2⟩ := hrel
    by_cases hlt : k < len
    · obtain ⟨b, o, rfl, hbl, hc⟩ := HC.out k hlt
      have c0 := hc k (by omega)
      obtain ⟨t, ht⟩ : ∃ t, ss.getD k ByteArray.empty = t := ⟨_, rfl⟩
      rw [ht] at c0
      have hts : t.size ≤ 1048576 := by
        refine HS.out k t hlt ?_
        rw [← ht, List.getD_eq_getElem?_getD, List.getElem?_eq_getElem (show k < ss.length by rw [HZ.out]; omega)]
        rfl
      clear hc ht
      go_wp2
      all_goals
        first
        | (go_ret; exact ⟨_, rfl, rfl, by omega, by omega, fun h => by omega⟩)
        | exact ⟨⟨k + 1, _, by omega, by go_num, rfl, by omega, by omega⟩, by simp [intOf]; omega⟩
    · obtain rfl : k = len := by omega
      go_wp2
      go_ret
      exact ⟨n, rfl, rfl, by omega, by omega, fun _ => by omega⟩

theorem IsStrs.at {w : World} {a : Option Addr} {len cap : Nat} {ss : List ByteArray} (h : IsStrs w a len cap ss) {i : Nat} (hi : i < len) :
    ∃ b o, a = some ⟨b, o, none⟩ ∧ b < w.heap.size ∧ w.cell? ⟨b, o + i, none⟩ = some (.string (ss.getD i ByteArray.empty)) ∧ (ss.take len)[i]? = some (ss.getD i ByteArray.empty) := by
  obtain ⟨h1, h2, h3, h4, h5⟩ := h.open
  obtain ⟨b, o, e, hb, hc⟩ := h5 i hi
  refine ⟨b, o, e, hb, hc i (by omega), ?_⟩
  rw [List.getElem?_take, if_pos hi, List.getElem?_eq_getElem (by omega), List.getD_eq_getElem?_getD, List.getElem?_eq_getElem (by omega)]
  rfl

set_option maxRecDepth 100000 in
set_option maxHeartbeats 4000000 in
theorem fodderIs_any (w : World) (base : Nat) (v : Value) (l : List FE) (B : Nat) (ax : Option Addr) (lx cx : Nat) (xs : List ByteArray) (ay : Option Addr) (ly cy : Nat) (ys : List ByteArray) (h : Fod w base v l) (hn : Notes w B l (xs.take lx ++ ys.take ly))
    (hx : IsStrs w ax lx cx xs) (hy : IsStrs w ay ly cy ys) (hb : lx + ly ≤ 4194304) :
    Calls Tryf.prog 47 #[v, .slice ax lx cx, .slice ay ly cy] w fun e w' => e = .returned (.bool true) ∧ Kept [] w w' := by
  obtain ⟨a, cap, rfl, hlc, hcm, ha⟩ := h.slice
  unfold maxLen at hcm
  obtain ⟨x1, x2, x3, -, -⟩ := hx.open
  obtain ⟨y1, y2, y3, -, -⟩ := hy.open
  have hl : l.length = lx + ly := by rw [hn.1, List.length_append, List.length_take, List.length_take, x3, y3]; omega
  have hxl : (xs.take lx).length = lx := by rw [List.length_take, x3]; omega
  have H := Lib.hid h; clear h
  have HA := Lib.hid ha; clear ha
  have HN := Lib.hid hn; clear hn
  have HX := Lib.hid hx; clear hx
  have HY := Lib.hid hy; clear hy
  rw [hl] at hlc ⊢
  have HL := Lib.hid hl; clear hl
  have HXL := Lib.hid hxl; clear hxl
  clear x1 x2 x3 y1 y2 y3
  go_enter Tryf.func47, Tryf.ntmps47
  go_wp2_with fail
  go_loopw [7] (fun i wr => ∃ k : Nat, k ≤ lx + ly ∧ i = .int .i64 k ∧ Kept [] w wr) (fun i _ => lx + ly - (intOf i).toNat)
  case atStart => exact ⟨0, Nat.zero_le _, rfl, Kept.refl _ _⟩
  case round =>
    obtain ⟨k, hk, rfl, hq⟩ := hrel
    have HQ := Lib.hid hq; clear hq
    by_cases hlt : k < lx + ly
    · obtain ⟨g, rfl, hg1, hg2⟩ := HA.out k (by rw [HL.out]; exact hlt)
      obtain ⟨e, he, c0, c1, c2, c3⟩ := (H.out.kept HQ.out (by simp)).cells k (by rw [HL.out]; exact hlt)
      obtain ⟨T, hT⟩ : ∃ T, (xs.take lx ++ ys.take ly)[k]? = some T := ⟨_, List.getElem?_eq_getElem (by rw [← HN.out.1, HL.out]; exact hlt)⟩
      obtain ⟨n1, n2, n3, n4, gc, n5, n6, n7⟩ := HN.out.2 k e T he hT
      rw [n5, n4] at c0
      rw [n1] at c1
      rw [n2] at c2
      rw [n3] at c3
      have n8 := HQ.out.heap n7 (by simp)
      have d0 := fun o => ((Kept.refl [] wr).alloc o).cell (v := .string T) (cell_of_block n8 0) (by simp)
      obtain ⟨ecc, hecc⟩ : ∃ c, e.cc = c := ⟨_, rfl⟩
      rw [hecc] at c0
      clear n1 n2 n3 n4 n5 n6 n7 n8 he hecc hg1
      by_cases hkx : k < lx
      · obtain ⟨b, o, rfl, hbl, hc, ht⟩ := HX.out.at hkx
        have hT2 : xs.getD k ByteArray.empty = T := by
          rw [List.getElem?_append_left (by rw [HXL.out]; exact hkx), ht] at hT
          simpa using hT
        rw [hT2] at hc
        have hc := HQ.out.cell hc (by simp)
        clear hT ht hT2
        go_wp2_with fail
        exact ⟨⟨k + 1, by omega, by go_num, HQ.out.alloc _⟩, by simp [intOf]; omega⟩
      · obtain ⟨m, rfl⟩ : ∃ m, k = lx + m := ⟨k - lx, by omega⟩
        obtain ⟨b, o, rfl, hbl, hc, ht⟩ := HY.out.at (show m < ly by omega)
        have hT2 : ys.getD m ByteArray.empty = T := by
          rw [List.getElem?_append_right (by rw [HXL.out]; omega), HXL.out, Nat.add_sub_cancel_left, ht] at hT
          simpa using hT
        rw [hT2] at hc
        have hc := HQ.out.cell hc (by simp)
        clear hT ht hT2
        go_wp2_with fail
        exact ⟨⟨lx + m + 1, by omega, by go_num, HQ.out.alloc _⟩, by simp [intOf]; omega⟩
    · obtain rfl : k = lx + ly := by omega
      go_wp2_with fail
      go_ret
      exact ⟨rfl, HQ.out⟩
end Go.Proofs.YtepipmjcfnncdaaFmt
