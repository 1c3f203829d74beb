/- The contract of formatter.splitFodder, in codes. -/
import Derived.Test.YtddcpnhpjgeldaaFmtFApC
import Derived.Maps.AppendAt
namespace Go.Proofs.YtddcpnhpjgeldaaFmt
attribute [local go_sem ↓] Go.wp_at_zero Go.wp_at_succ
open Go.ChangeShapes Go.WideShapes Go.ChangeAt Go.RowKit

/-- One element more; the row's block is the one it was or a new one. -/
theorem wpList_push_at {α : Type} {T c : Nat} {enc : α → List Value} {w : World} {ops : Array Oper} {rest : List Oper} {o : Oper} {a : Act} {Q : Exit → Act → World → Prop} (hgd : o.guard = none) (s x : Operand) (t : TypeId)
    (ho : o.op = .call { callee := .builtin .append, args := #[s, x], argTypes := #[t, t] }) (base : Nat) (i : TypeInfo) (z : Value) (bytes : Nat) (ht : Tryf.prog.underlying t = some (.slice T)) (hi : Tryf.prog.info? T = some i) (hz : i.zero = some z)
    (hsize : i.size = c) (hby : i.bytes = bytes) (hzs : z.cells.size = c) (hsz : 0 < c) (he : ∀ y, (enc y).length = c) (h1 : ∀ y, ∀ u ∈ enc y, u.oneCell' = true) (v : Value) (l : List α) (hs : a.eval s = v) (hown : OwnR T c enc w base v l)
    (g : Nat) (y : α) (cp : Nat) (cs : Array Value) (hx : a.eval x = .slice (some ⟨g, 0, none⟩) 1 cp) (hb : w.heap[g]? = some (.cells cs T (0, 0))) (hcs : cs.toList = enc y) (h63 : l.length + 1 ≤ maxLen) (hbytes : (l.length + 1) * bytes ≤ 140737488355328) (hbase : base ≤ w.heap.size)
    (h : ∀ v' w', OwnR T c enc w' base v' (l ++ [y]) → Kept v.ownBlock.toList w w' → (v'.ownBlock = v.ownBlock ∨ v'.ownBlock = some w.heap.size) → wpList Tryf.prog ops Q rest (a.put o.dst v') w') : wpList Tryf.prog ops Q (o :: rest) a w :=
  wpList_append_own_at (w := w) hgd s x t ho base T i z c bytes ht hi hz hsize hby hzs hsz v l.length (flatG enc l) hs hown ⟨g, 0, none⟩ 1 cp (enc y) hx (by rw [he]; omega)
    (fun j u hu => World.news_of_block hb j u (by rw [hcs]; exact hu)) (h1 y) h63 hbytes hbase
    (fun v' w' h2 h3 _ h5 => h v' w' (by
      unfold OwnR
      rw [List.length_append, flatG_append]
      simpa [flatG] using h2) ((Kept.refl _ _).grown h3 (fun k hk => Or.inl (by simp [hk]))) h5)

/-- One element of the fodder that is split: the part behind the token before, the part ahead of the token behind, whether that part has begun. -/
def stepS (t : List ZE × List ZE × Bool) (e : ZE) : List ZE × List ZE × Bool :=
  if t.2.2 = true then (t.1, stepC t.2.1 e, true)
  else if e.k = 1 then (t.1 ++ [e], t.2.1, false)
  else if 0 < e.b then (t.1 ++ [⟨e.k, 0, e.i, e.c⟩], t.2.1 ++ [⟨0, e.b, e.i, 0⟩], true)
  else (t.1 ++ [e], t.2.1, true)
def splitS (z : List ZE) : List ZE × List ZE × Bool := z.foldl stepS ([], [], false)
theorem splitS_snoc (z : List ZE) (e : ZE) : splitS (z ++ [e]) = stepS (splitS z) e := by
  unfold splitS
  rw [List.foldl_append]
  rfl

/-- Where the loop stands. -/
structure Spl (r B : Nat) (z : List ZE) (v1 : Value) (s : Bool) (w : World) (v2 : Value) (l1 l2 : List FE) : Prop where
  cell : w.cell? ⟨r, 0, none⟩ = some v2
  froz : w.frozen? ⟨r, 0, none⟩ = false
  f1 : Fod w B v1 l1
  f2 : Fod w B v2 l2
  eq : splitS z = (codes l1, codes l2, s)
  sep : ∀ g, v2.ownBlock = some g → v1.ownBlock ≠ some g
  first : s = false → v2 = .slice none 0 0 ∧ l2 = []
  n1 : l1.length ≤ z.length
  n2 : l2.length ≤ 2 * z.length
  lt : r < B
  bl : B ≤ w.heap.size
theorem Spl.kept0 {r B : Nat} {z : List ZE} {v1 : Value} {s : Bool} {w w' : World} {v2 : Value} {l1 l2 : List FE} (h : Spl r B z v1 s w v2 l1 l2) (k : Kept [] w w') : Spl r B z v1 s w' v2 l1 l2 :=
  ⟨k.cell h.cell (by simp), (k.frozen (World.block_lt_of_cell? w _ h.cell) (by simp)).trans h.froz, h.f1.kept k (by simp), h.f2.kept k (by simp), h.eq, h.sep, h.first, h.n1, h.n2, h.lt, Nat.le_trans h.bl k.size⟩
theorem Fod.blk {w : World} {base : Nat} {v : Value} {l : List FE} (h : Fod w base v l) {g : Nat} (hg : v.ownBlock = some g) : base ≤ g ∧ g < w.heap.size := World.ownsRow.lt h g hg
/-- A FodderAppend to the second part. -/
theorem Spl.app {r B : Nat} {z : List ZE} {v1 : Value} {w w' : World} {v2 : Value} {l1 l2 l' : List FE} {e : ZE} (h : Spl r B z v1 true w v2 l1 l2) (hl : codes l' = stepC (codes l2) e) (ha : Appd w B r 0 v2 l' w') :
    ∃ v2', Spl r B (z ++ [e]) v1 true w' v2' l1 l' := by
  obtain ⟨v', c1, c2, c3, c4, c5, c6⟩ := ha
  have hne : ∀ g, v1.ownBlock = some g → g ∉ r :: v2.ownBlock.toList := by
    intro g hg hm
    simp only [List.mem_cons, Option.mem_toList] at hm
    rcases hm with rfl | hm
    · have := (h.f1.blk hg).1
      have := h.lt
      omega
    · exact h.sep g hm hg
  refine ⟨v', c1, c2, h.f1.kept c4 hne, c3, ?_, fun g hg => ?_, fun h => (Bool.noConfusion h), ?_, ?_, h.lt, Nat.le_trans h.bl c4.size⟩
  · rw [splitS_snoc, h.eq, hl]
    unfold stepS
    rw [if_pos rfl]
  · rcases (c5 g hg).2 with e1 | e1
    · exact h.sep g e1
    · intro e2
      have := (h.f1.blk e2).2
      omega
  · have := h.n1
    simp only [List.length_append, List.length_cons, List.length_nil]
    omega
  · have h1 := h.n2
    have h2 := congrArg List.length hl
    have h3 := stepC_len (codes l2) e
    simp only [codes, List.length_map] at h2 h3
    simp only [List.length_append, List.length_cons, List.length_nil]
    omega
/-- An element put behind the first part. -/
theorem Spl.one {r B : Nat} {z : List ZE} {v1 v1' : Value} {w w' : World} {v2 : Value} {l1 l2 : List FE} {e : FE} {s' : Bool} (h : Spl r B z v1 false w v2 l1 l2) (hf : Fod w' B v1' (l1 ++ [e])) (hk : Kept v1.ownBlock.toList w w') (hs : (e.k = 1 ∧ s' = false) ∨ (e.k ≠ 1 ∧ ¬ 0 < e.b ∧ s' = true)) :
    Spl r B (z ++ [e.snap]) v1' s' w' v2 (l1 ++ [e]) l2 := by
  obtain ⟨e1, e2⟩ := h.first rfl
  have hr : r ∉ v1.ownBlock.toList := fun hm => by
    simp only [Option.mem_toList] at hm
    have := (h.f1.blk hm).1
    have := h.lt
    omega
  refine ⟨hk.cell h.cell hr, (hk.frozen (World.block_lt_of_cell? w _ h.cell) hr).trans h.froz, hf, by rw [e1, e2]; exact fod_nil _ _, ?_, fun g hg => (by rw [e1] at hg; cases hg), fun _ => ⟨e1, e2⟩, ?_, ?_, h.lt, Nat.le_trans h.bl hk.size⟩
  · rw [splitS_snoc, h.eq]
    unfold stepS
    rw [if_neg (by simp)]
    rcases hs with ⟨h1, rfl⟩ | ⟨h1, h2, rfl⟩
    · rw [if_pos (by exact h1)]
      simp [codes]
    · rw [if_neg (by exact h1), if_neg (by exact h2)]
      simp [codes]
  · have := h.n1
    simp only [List.length_append, List.length_cons, List.length_nil]
    omega
  · have := h.n2
    simp only [List.length_append, List.length_cons, List.length_nil]
    omega
/-- The element that ends the first part, with blank lines: they go to the second part. -/
theorem Spl.two {r B : Nat} {z : List ZE} {v1 v1' : Value} {w w' : World} {v2 v2' : Value} {l1 l2 : List FE} {e : FE} (h : Spl r B z v1 false w v2 l1 l2) (h1 : e.k ≠ 1) (h2 : 0 < e.b) (hf1 : Fod w' B v1' (l1 ++ [{ e with b := 0 }])) (hf2 : Fod w' B v2' [⟨none, 0, 0, 0, e.b, e.i⟩])
    (hc : w'.cell? ⟨r, 0, none⟩ = some v2') (hz : w'.frozen? ⟨r, 0, none⟩ = false) (hsep : ∀ g, v2'.ownBlock = some g → v1'.ownBlock ≠ some g) (hb : B ≤ w'.heap.size) :
    Spl r B (z ++ [e.snap]) v1' true w' v2' (l1 ++ [{ e with b := 0 }]) [⟨none, 0, 0, 0, e.b, e.i⟩] := by
  obtain ⟨e1, e2⟩ := h.first rfl
  refine ⟨hc, hz, hf1, hf2, ?_, hsep, fun h => (Bool.noConfusion h), ?_, ?_, h.lt, hb⟩
  · rw [splitS_snoc, h.eq, e2]
    unfold stepS
    rw [if_neg (by simp), if_neg (by exact h1), if_pos (by exact h2)]
    simp [codes, FE.snap]
  · have := h.n1
    simp only [List.length_append, List.length_cons, List.length_nil]
    omega
  · simp only [List.length_append, List.length_cons, List.length_nil]
    omega

set_option maxRecDepth 100000 in
set_option maxHeartbeats 8000000 in
theorem split_any (w : World) (base : Nat) (v : Value) (l : List FE) (h : Fod w base v l) (hlen : l.length ≤ 65536) (hcl : ∀ e ∈ l, e.cl ≤ 9223372036854775807) :
    Calls Tryf.prog 25 #[v] w fun e w' => ∃ v1 v2 l1 l2, e = .returned (.tuple #[v1, v2]) ∧ Fod w' w.heap.size v1 l1 ∧ Fod w' w.heap.size v2 l2 ∧ (splitS (codes l)).1 = codes l1 ∧ (splitS (codes l)).2.1 = codes l2 ∧ (∀ g, v2.ownBlock = some g → v1.ownBlock ≠ some g) ∧ l1.length ≤ l.length ∧ l2.length ≤ 2 * l.length ∧ Kept [] w w' := by
  obtain ⟨a, cap, rfl, hlc, hcm, ha⟩ := h.slice
  unfold maxLen at hcm
  obtain ⟨n, hn⟩ : ∃ n, l.length = n := ⟨_, rfl⟩
  have H := Lib.hid h; clear h
  have HA := Lib.hid ha; clear ha
  have HCL := Lib.hid hcl; clear hcl
  rw [hn] at hlc hlen ⊢
  have HN := Lib.hid hn; clear hn
  obtain ⟨i0, hi, hz0, hz1, hz2⟩ := info_parts Tryf.infoFE
  have HI := Lib.hid hi; clear hi
  have HI0 := Lib.hid hz0; clear hz0
  have HI1 := Lib.hid hz1; clear hz1
  have HI2 := Lib.hid hz2; clear hz2
  go_enter Tryf.func25, Tryf.ntmps25
  go_wp2_with fail
  obtain ⟨r, hr⟩ : ∃ r, w.heap.size = r := ⟨_, rfl⟩
  obtain ⟨W0, hW0⟩ : ∃ W0, w.alloc (.cells #[.slice none 0 0] 33) = W0 := ⟨_, rfl⟩
  have hk0 : Kept [] w W0 := hW0 ▸ (Kept.refl [] _).alloc _
  have hbox : W0.heap[r]? = some (.cells #[.slice none 0 0] 33) := by rw [← hW0, ← hr]; exact heap_alloc_new _ _
  have hs0 : W0.heap.size = r + 1 := by rw [← hW0, ← hr]; simp
  rw [hW0, hr]
  have HS : Hid (Spl r (r + 1) ((codes l).take 0) (.slice none 0 0) false W0 (.slice none 0 0) [] []) := Lib.hid ⟨by simp [World.cell?, hbox], by simp [World.frozen?, hbox], fod_nil _ _, fod_nil _ _, rfl, fun g hg => (by cases hg), fun _ => ⟨rfl, rfl⟩, Nat.zero_le _, Nat.zero_le _, Nat.lt_succ_self _, by omega⟩
  have HK0 := Lib.hid hk0; clear hk0
  have HR := Lib.hid hr; clear hr
  clear hbox hs0 hW0
  go_loopw [4, 6, 11] (fun v1 s i wr => ∃ k : Nat, k ≤ n ∧ i = .int .i64 k ∧ ∃ sb : Bool, s = .bool sb ∧ Hid (∃ v2 l1 l2, Spl r (r + 1) ((codes l).take k) v1 sb wr v2 l1 l2) ∧ Kept [] w wr) (fun _ _ i _ => n - (intOf i).toNat)
  case atStart => exact ⟨0, Nat.zero_le _, rfl, false, rfl, Lib.hid ⟨_, _, _, HS.out⟩, HK0.out⟩
  case round =>
    clear HS HK0
    obtain ⟨k, hk, rfl, sb, rfl, HSP, hkw⟩ := hrel
    obtain ⟨v2, l1, l2, hsp⟩ := HSP.out
    clear HSP
    have HKW := Lib.hid hkw; clear hkw
    have HSP := Lib.hid hsp; clear hsp
    obtain ⟨wo, rfl⟩ : ∃ wo : World, wo = wr := ⟨_, rfl⟩
    by_cases hlt : k < n
    · obtain ⟨g, rfl, -, hg2⟩ := HA.out k (by rw [HN.out]; exact hlt)
      obtain ⟨e, he, c0, c1, c2, c3⟩ := (H.out.kept HKW.out (by simp)).cells k (by rw [HN.out]; exact hlt)
      have HEC : Hid (e.cl ≤ 9223372036854775807) := Lib.hid (HCL.out e (List.mem_of_getElem? he))
      have HTK : Hid ((codes l).take (k + 1) = (codes l).take k ++ [e.snap]) := Lib.hid (take_snoc (by rw [codes, List.getElem?_map, he]; rfl))
      clear he
      have HZL : Hid (((codes l).take k).length = k) := Lib.hid (by rw [List.length_take, codes, List.length_map, HN.out]; omega)
      have hl1 : l1.length ≤ 65536 := by have := HSP.out.n1; rw [HZL.out] at this; omega
      have hl2 : l2.length ≤ 131072 := by have := HSP.out.n2; rw [HZL.out] at this; omega
      generalize (codes l).take k = z at *
      obtain ⟨b0, hb0⟩ : ∃ b0, wo.heap.size = b0 := ⟨_, rfl⟩
      obtain ⟨ea, el, ec, ek, eb, ei⟩ := e
      dsimp only at c0 c1 c2 c3 HEC
      cases sb
      · have hsl := HSP.out.f1.slice
        obtain ⟨va, vc, rfl, -⟩ := hsl
        obtain ⟨n1, hn1⟩ : ∃ n1, l1.length = n1 := ⟨_, rfl⟩
        rw [hn1] at HSP hl1 ⊢
        have HN1 := Lib.hid hn1; clear hn1
        have ho : ∀ o1 o2, OwnR 56 4 FE.cells ((wo.alloc o1).alloc o2) (r + 1) (.slice va n1 vc) l1 := fun o1 o2 => ((HSP.out.f1.kept (((Kept.refl [] wo).alloc o1).alloc o2) (by simp))).own
        have HO := Lib.hid ho; clear ho
        have hbx : ∀ o1 cs, ((wo.alloc o1).alloc (.cells cs 56)).heap[b0 + 1]? = some (.cells cs 56 (0, 0)) := fun o1 cs => by
          have := heap_alloc_new (wo.alloc o1) (.cells cs 56)
          rw [show (wo.alloc o1).heap.size = b0 + 1 by simp [hb0]] at this
          exact this
        have HBX := Lib.hid hbx; clear hbx
        have HBL : Hid (∀ o1 o2, r + 1 ≤ ((wo.alloc o1).alloc o2).heap.size) := Lib.hid (fun o1 o2 => by have := HSP.out.bl; simp; omega)
        have H3 : Hid (l1.length + 1 ≤ maxLen) := Lib.hid (by rw [HN1.out]; unfold maxLen; omega)
        have H4 : Hid ((l1.length + 1) * 48 ≤ 140737488355328) := Lib.hid (by rw [HN1.out]; omega)
        have hnm : b0 ∉ (Value.slice va n1 vc).ownBlock.toList := fun hm => by
          simp only [Option.mem_toList] at hm
          have := (HSP.out.f1.blk hm).2
          omega
        have HNM := Lib.hid hnm; clear hnm
        have hbox : ∀ o2, ((wo.alloc (.cells #[.slice ea el ec, .int .i64 ek, .int .i64 eb, .int .i64 ei] 56)).alloc o2).heap[b0]? = some (.cells #[.slice ea el ec, .int .i64 ek, .int .i64 eb, .int .i64 ei] 56 (0, 0)) := fun o2 => by
          refine ((Kept.refl [] _).alloc o2).heap ?_ (by simp)
          rw [← hb0]
          exact heap_alloc_new wo _
        have HBOX := Lib.hid hbox; clear hbox
        go_wp2_with (first
          | (at_builtin; refine wpList_push_at (T := 56) (c := 4) (enc := FE.cells) rfl _ _ 33 rfl (r + 1) i0 _ 48 Tryf.underlying33 HI.out HI0.out HI1.out HI2.out rfl (by decide) FE.cells_len FE.one (.slice va n1 vc) l1 rfl (HO.out _ _) (b0 + 1) ⟨ea, el, ec, ek, eb, ei⟩ 1 _ rfl (HBX.out _ _) rfl H3.out H4.out (HBL.out _ _) ?_)
          | fail)
        intro v' w4 hown4 hk4 hat4
        have HAT4 : Hid (v'.ownBlock = (Value.slice va n1 vc).ownBlock ∨ v'.ownBlock = some (b0 + 1 + 1)) := Lib.hid (by simpa [hb0] using hat4)
        clear hat4
        have hx4 := hk4.heap (HBOX.out _) HNM.out
        have d1 : w4.cell? ⟨b0, 1, none⟩ = some (.int .i64 ek) := by simp [World.cell?, hx4]
        have d2 : w4.cell? ⟨b0, 2, none⟩ = some (.int .i64 eb) := by simp [World.cell?, hx4]
        have d3 : w4.cell? ⟨b0, 3, none⟩ = some (.int .i64 ei) := by simp [World.cell?, hx4]
        have HK4 : Hid (Kept [] w w4) := Lib.hid (((HKW.out.alloc _).alloc _).then hk4 (fun x hm => Or.inr (by
          simp only [Option.mem_toList] at hm
          have := (HSP.out.f1.blk hm).1
          have := HR.out
          omega)))
        have HS4 := Lib.hid (HSP.out.kept0 (((Kept.refl [] wo).alloc (.cells #[.slice ea el ec, .int .i64 ek, .int .i64 eb, .int .i64 ei] 56)).alloc (.cells #[.slice ea el ec, .int .i64 ek, .int .i64 eb, .int .i64 ei] 56)))
        have HK4' := Lib.hid hk4; clear hk4
        have HO4 := Lib.hid hown4.fod; clear hown4
        have HX4 := Lib.hid hx4; clear hx4
        by_cases hk1 : ek = 1
        · have HN2 : Hid (∃ v2' l1' l2', Spl r (r + 1) ((codes l).take (k + 1)) v' false w4 v2' l1' l2') := by
            rw [HTK.out]
            exact Lib.hid ⟨_, _, _, HS4.out.one HO4.out HK4'.out (Or.inl ⟨hk1, rfl⟩)⟩
          subst hk1
          go_wp2_with fail
          exact ⟨⟨k + 1, by omega, by go_num, false, rfl, HN2, HK4.out⟩, by simp [intOf]; omega⟩
        · have hk1b : (ek == 1) = false := by simpa using hk1
          by_cases hb1 : 0 < eb
          · obtain ⟨va', vc', hv', -, -, hg1⟩ := HO4.out.slice
            obtain ⟨g1, rfl, hgl, hgh⟩ := hg1 0 (by simp)
            rw [List.length_append, List.length_singleton, HN1.out] at hv'
            subst hv'
            clear hg1
            obtain ⟨x, hx, -, -, c2', -⟩ := HO4.out.cells n1 (by rw [List.length_append, HN1.out]; simp)
            obtain rfl : (⟨ea, el, ec, ek, eb, ei⟩ : FE) = x := by
              rw [List.getElem?_append_right (by rw [HN1.out]; exact Nat.le_refl _)] at hx
              simpa [HN1.out] using hx
            have HX := Lib.hid hx; clear hx
            dsimp only at c2'
            have hfz := HO4.out.frozen (n1 * 4 + 2)
            obtain ⟨hv2, hl2e⟩ := HS4.out.first rfl
            have hrn : r ∉ (Value.slice va n1 vc).ownBlock.toList := fun hm => by
              simp only [Option.mem_toList] at hm
              have := (HSP.out.f1.blk hm).1
              omega
            have hcr : w4.cell? ⟨r, 0, none⟩ = some (.slice none 0 0) := by rw [← hv2]; exact HK4'.out.cell HS4.out.cell hrn
            have hfr : w4.frozen? ⟨r, 0, none⟩ = false := (HK4'.out.frozen (World.block_lt_of_cell? _ _ HS4.out.cell) hrn).trans HS4.out.froz
            have hrl : r < w4.heap.size := World.block_lt_of_cell? _ _ hcr
            clear hrn hv2 hl2e
            have hbg : b0 ≠ g1 := fun e => by
              subst e
              rcases HAT4.out with h | h
              · exact HNM.out (by rw [← h]; simp [Value.ownBlock])
              · injection (show some b0 = some (b0 + 1 + 1) from h) with h
                omega
            obtain ⟨W5, hW5⟩ : ∃ W5, w4.setCell ⟨g1, n1 * 4 + 2, none⟩ (.int .i64 0) = W5 := ⟨_, rfl⟩
            have hk5 : Kept [g1] w4 W5 := hW5 ▸ (Kept.refl [g1] _).setCell (Or.inl (by simp)) _
            have hs5 : W5.heap.size = w4.heap.size := by rw [← hW5]; simp [World.setCell]
            have e1 := hk5.cell hcr (by simp; omega)
            have e2 := hk5.cell d2 (by simpa using hbg)
            have e3 := hk5.cell d3 (by simpa using hbg)
            have HBX5 : Hid (∀ cs, (W5.alloc (.cells cs 56)).heap[w4.heap.size]? = some (.cells cs 56 (0, 0))) := Lib.hid (fun cs => by
              have := heap_alloc_new W5 (.cells cs 56)
              rw [hs5] at this
              exact this)
            have HBL5 : Hid (∀ o, w4.heap.size ≤ (W5.alloc o).heap.size) := Lib.hid (fun o => by simp [hs5])
            have HE5 : Hid (Fod W5 (r + 1) (.slice (some ⟨g1, 0, none⟩) (n1 + 1) vc') (l1 ++ [⟨ea, el, ec, ek, 0, ei⟩])) := Lib.hid (by
              have := HO4.out.set n1 _ ⟨ea, el, ec, ek, 0, ei⟩ HX.out 2 (by omega) (.int .i64 0) rfl
              rw [hW5, List.set_append_right _ _ (by rw [HN1.out]; exact Nat.le_refl _), HN1.out, Nat.sub_self] at this
              exact this)
            have HK5 := Lib.hid hk5; clear hk5
            have HB4 := Lib.hid hb1
            go_wp2_with (first
              | (at_builtin; refine wpList_push (T := 56) (c := 4) (enc := FE.cells) rfl _ _ 33 rfl w4.heap.size i0 _ 48 Tryf.underlying33 HI.out HI0.out HI1.out HI2.out rfl (by decide) FE.cells_len FE.one (.slice none 0 0) [] rfl (fod_nil _ _).own w4.heap.size ⟨none, 0, 0, 0, eb, ei⟩ 1 _ rfl (HBX5.out _) rfl (by unfold maxLen; decide) (by decide) (HBL5.out _) ?_)
              | fail)
            intro v6 w6 hown6 hk6
            obtain ⟨xa, xc, hv6, -⟩ := hown6.slice
            change v6 = .slice xa 1 xc at hv6
            subst hv6
            have hk56 : Kept [] W5 w6 := ((Kept.refl [] W5).alloc _).trans hk6
            have f6 : Fod w6 w4.heap.size (.slice xa 1 xc) [⟨none, 0, 0, 0, eb, ei⟩] := hown6.fod
            have c6 := hk56.cell e1 (by simp)
            have z6 : w6.frozen? ⟨r, 0, none⟩ = false := (hk56.frozen (by rw [hs5]; exact hrl) (by simp)).trans ((HK5.out.frozen hrl (by simp; omega)).trans hfr)
            have HF6 := Lib.hid f6; clear f6 hown6 hk6
            have HK56 := Lib.hid hk56; clear hk56
            go_wp2_with fail
            obtain ⟨W7, hW7⟩ : ∃ W7, w6.setCell ⟨r, 0, none⟩ (.slice xa 1 xc) = W7 := ⟨_, rfl⟩
            have hk7 : Kept [r] w6 W7 := hW7 ▸ (Kept.refl [r] _).setCell (Or.inl (by simp)) _
            have hs6 : w4.heap.size ≤ w6.heap.size := by have := HK56.out.size; omega
            have hne7 : ∀ g, (Value.slice xa 1 xc).ownBlock = some g → w4.heap.size ≤ g := fun g hg => (HF6.out.blk hg).1
            have hbl := HSP.out.bl
            have hs4 := HK4.out.size
            have hr0 := HR.out
            rw [hW7]
            have hn : Spl r (r + 1) (z ++ [(⟨ea, el, ec, ek, eb, ei⟩ : FE).snap]) (.slice (some ⟨g1, 0, none⟩) (n1 + 1) vc') true W7 (.slice xa 1 xc) (l1 ++ [⟨ea, el, ec, ek, 0, ei⟩]) [⟨none, 0, 0, 0, eb, ei⟩] :=
              HS4.out.two (e := ⟨ea, el, ec, ek, eb, ei⟩) hk1 hb1 ((HE5.out.kept HK56.out (by simp)).kept hk7 (by simp [Value.ownBlock]; omega))
                ((HF6.out.own.low (by omega)).fod.kept hk7 (fun g hg hm => by have := hne7 g hg; simp at hm; omega)) (by rw [← hW7]; exact World.cell?_setCell_same _ _ _ c6) (by rw [← hW7, World.frozen?_setCell]; exact z6)
                (fun g hg h => by have := hne7 g hg; simp [Value.ownBlock] at h; omega) (by have := hk7.size; omega)
            have HN2 : Hid (∃ v2' l1' l2', Spl r (r + 1) ((codes l).take (k + 1)) (.slice (some ⟨g1, 0, none⟩) (n1 + 1) vc') true W7 v2' l1' l2') := by
              rw [HTK.out]
              exact Lib.hid ⟨_, _, _, hn⟩
            have HK7 : Hid (Kept [] w W7) := Lib.hid ((((HK4.out.then HK5.out (fun x hx => Or.inr (by simp at hx; omega))).trans HK56.out)).then hk7 (fun x hx => Or.inr (by simp at hx; omega)))
            exact ⟨⟨k + 1, by omega, by go_num, true, rfl, HN2, HK7.out⟩, by simp [intOf]; omega⟩
          · have HN2 : Hid (∃ v2' l1' l2', Spl r (r + 1) ((codes l).take (k + 1)) v' true w4 v2' l1' l2') := by
              rw [HTK.out]
              exact Lib.hid ⟨_, _, _, HS4.out.one HO4.out HK4'.out (Or.inr ⟨hk1, hb1, rfl⟩)⟩
            go_wp2_with fail
            exact ⟨⟨k + 1, by omega, by go_num, true, rfl, HN2, HK4.out⟩, by simp [intOf]; omega⟩
      · go_wp2_with fail
        obtain ⟨W1, hW1⟩ : ∃ W1, wo.alloc (.cells #[.slice ea el ec, .int .i64 ek, .int .i64 eb, .int .i64 ei] 56) = W1 := ⟨_, rfl⟩
        have hk1 : Kept [] wo W1 := hW1 ▸ (Kept.refl [] _).alloc _
        have hbox : W1.heap[b0]? = some (.cells #[.slice ea el ec, .int .i64 ek, .int .i64 eb, .int .i64 ei] 56) := by rw [← hW1, ← hb0]; exact heap_alloc_new _ _
        rw [hW1]
        have hsp1 := HSP.out.kept0 hk1
        refine (fapp_codes W1 (r + 1) r 0 v2 l2 ⟨ea, el, ec, ek, eb, ei⟩ hsp1.f2 hsp1.cell hsp1.froz (fun g hg => by have := (hsp1.f2.blk hg).1; omega) (by omega) hsp1.bl HEC.out).mono ?_
        rintro en W2 ⟨rfl, l', hl', hA⟩
        have hb2 : W2.cell? ⟨b0, 1, none⟩ = some (.int .i64 ek) := by
          obtain ⟨_, _, _, _, q, _⟩ := hA
          refine q.cell (p := ⟨b0, 1, none⟩) (by simp [World.cell?, hbox]) (fun hm => ?_)
          have hbl := HSP.out.bl
          simp only [List.mem_cons, Option.mem_toList] at hm
          rcases hm with hm | hm
          · omega
          · have := (HSP.out.f2.blk hm).2
            omega
        have HK2 : Hid (Kept [] w W2) := by
          obtain ⟨_, _, _, _, q, _⟩ := hA
          refine Lib.hid ((HKW.out.trans hk1).then q (fun x hm => Or.inr ?_))
          have h0 := HR.out
          simp only [List.mem_cons, Option.mem_toList] at hm
          rcases hm with rfl | hm
          · omega
          · have := (HSP.out.f2.blk hm).1
            omega
        have HN3 := Lib.hid (Spl.app hsp1 hl' hA)
        rw [← HTK.out] at HN3
        have HN2 := Lib.hid (let ⟨v', h'⟩ := HN3.out; ⟨v', _, _, h'⟩ : ∃ v2' l1' l2', Spl _ _ _ _ _ _ v2' l1' l2')
        clear hA hsp1 hk1 hbox hW1
        by_cases hk1 : ek = 1
        · subst hk1
          go_wp2_with fail
          exact ⟨⟨k + 1, by omega, by go_num, true, rfl, HN2, HK2.out⟩, by simp [intOf]; omega⟩
        · have hk1b : (ek == 1) = false := by simpa using hk1
          go_wp2_with fail
          exact ⟨⟨k + 1, by omega, by go_num, true, rfl, HN2, HK2.out⟩, by simp [intOf]; omega⟩
    · obtain rfl : k = n := by omega
      have hce := HSP.out.cell
      have hcE : ∀ m, (wo.drewN m).cell? ⟨r, 0, none⟩ = some v2 := fun m => hce
      go_wp2_with fail
      go_region
      go_wp2_with fail
      go_ret2
      have hz : (codes l).take k = codes l := List.take_of_length_le (by rw [codes, List.length_map, HN.out]; exact Nat.le_refl _)
      have h0 := HSP.out
      rw [hz] at h0
      have hkq : ∀ m, Kept [] wo (wo.drewN m) := fun m => (Kept.refl [] _).drewN m
      have hr0 := HR.out
      refine ⟨_, v2, l1, l2, rfl, ((h0.f1.kept (hkq _) (by simp)).own.low (by omega)).fod, ((h0.f2.kept (hkq _) (by simp)).own.low (by omega)).fod, by rw [h0.eq], by rw [h0.eq], h0.sep, ?_, ?_, HKW.out.trans (hkq _)⟩
      · have := h0.n1
        rw [codes, List.length_map, HN.out] at this
        exact this
      · have := h0.n2
        rw [codes, List.length_map, HN.out] at this
        exact this
end Go.Proofs.YtddcpnhpjgeldaaFmt
