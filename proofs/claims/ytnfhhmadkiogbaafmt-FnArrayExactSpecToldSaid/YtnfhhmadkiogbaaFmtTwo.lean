/- The contracts of containsNewline, removeComma and fixComma: the comma flag and the two fodders behind three pointers. -/
import Derived.Test.YtnfhhmadkiogbaaFmtFMove
namespace Go.Proofs.YtnfhhmadkiogbaaFmt
open Go.ChangeShapes Go.WideShapes Go.ChangeAt Go.RowKit

set_option maxHeartbeats 400000 in
theorem containsNewline_any (w : World) (base : Nat) (v : Value) (l : List FE) (h : Fod w base v l) :
    Calls Tryf.prog 16 #[v] w fun e w' => e = .returned (.bool (anyNL l)) ∧ Below w.heap.size w w' := by
  obtain ⟨a, cap, rfl, hlc, hcm, ha⟩ := h.slice
  unfold maxLen at hcm
  go_enter Tryf.func16, Tryf.ntmps16
  go_wp2
  go_loopw [7] (fun i wr => ∃ k : Nat, k ≤ l.length ∧ i = .int .i64 k ∧ anyNL (l.take k) = false ∧ Below w.heap.size w wr) (fun i _ => l.length - (intOf i).toNat)
  case atStart => exact ⟨0, Nat.zero_le _, rfl, rfl, Below.refl _ _⟩
  case round =>
    obtain ⟨k, hk, rfl, hf, hb⟩ := hrel
    by_cases hlt : k < l.length
    · obtain ⟨g, rfl, hg1, hg2⟩ := ha k hlt
      have h' := h.below hb (Nat.le_refl _)
      obtain ⟨e, he, c0, c1, c2, c3⟩ := h'.cells k hlt
      have HF := Lib.hid hf; clear hf
      have H := Lib.hid h; clear h
      have H' := Lib.hid h'; clear h'
      have HE := Lib.hid he; clear he
      clear ha
      have hs := hb.size
      go_wp2
      · go_ret
        rename_i hne
        exact ⟨by rw [anyNL_hit l k e HE.out hne]; rfl, hb.alloc hs _⟩
      · go_roundw
        case rel =>
          rename_i hne
          exact ⟨k + 1, by omega, by go_num, by rw [anyNL_take l k e HE.out, HF.out]; simpa using hne, hb.alloc hs _⟩
        case measure => simp [intOf]; omega
    · have hk' : k = l.length := by omega
      rw [hk', List.take_length] at hf
      have HF := Lib.hid hf; clear hf hk'
      go_wp2
      go_ret
      exact ⟨by rw [HF.out]; rfl, hb⟩


/-- The cells at p and q hold the fodders ll and lc, the one at t a flag; nothing is shared. -/
structure Two (w : World) (base : Nat) (p t q : Addr) (tc : Bool) (vl vc : Value) (ll lc : List FE) : Prop where
  cp : w.cell? p = some vl
  ct : w.cell? t = some (.bool tc)
  cq : w.cell? q = some vc
  fp : w.frozen? p = false
  ft : w.frozen? t = false
  fq : w.frozen? q = false
  pq : p ≠ q
  pt : p ≠ t
  qt : q ≠ t
  l : Fod w base vl ll
  c : Fod w base vc lc
  al : ∀ g, vl.ownBlock = some g → g ≠ p.block ∧ g ≠ q.block ∧ g ≠ t.block ∧ vc.ownBlock ≠ some g
  ac : ∀ g, vc.ownBlock = some g → g ≠ p.block ∧ g ≠ q.block ∧ g ≠ t.block

theorem Two.kept {w w' : World} {base : Nat} {p t q : Addr} {tc : Bool} {vl vc : Value} {ll lc : List FE} {S : List Nat} (h : Two w base p t q tc vl vc ll lc) (hk : Kept S w w')
    (hp : p.block ∉ S) (ht : t.block ∉ S) (hq : q.block ∉ S) (hl : ∀ g, vl.ownBlock = some g → g ∉ S) (hc : ∀ g, vc.ownBlock = some g → g ∉ S) : Two w' base p t q tc vl vc ll lc where
  cp := hk.cell h.cp hp
  ct := hk.cell h.ct ht
  cq := hk.cell h.cq hq
  fp := (hk.frozen (World.block_lt_of_cell? w _ h.cp) hp).trans h.fp
  ft := (hk.frozen (World.block_lt_of_cell? w _ h.ct) ht).trans h.ft
  fq := (hk.frozen (World.block_lt_of_cell? w _ h.cq) hq).trans h.fq
  pq := h.pq
  pt := h.pt
  qt := h.qt
  l := h.l.kept hk hl
  c := h.c.kept hk hc
  al := h.al
  ac := h.ac

theorem Two.kept0 {w w' : World} {base : Nat} {p t q : Addr} {tc : Bool} {vl vc : Value} {ll lc : List FE} (h : Two w base p t q tc vl vc ll lc) (hk : Kept [] w w') : Two w' base p t q tc vl vc ll lc :=
  h.kept hk (by simp) (by simp) (by simp) (by simp) (by simp)

/-- The flag is written. -/
theorem Two.flag {w : World} {base : Nat} {p t q : Addr} {tc : Bool} {vl vc : Value} {ll lc : List FE} (h : Two w base p t q tc vl vc ll lc) (b : Bool) : Two (w.setCell t (.bool b)) base p t q b vl vc ll lc where
  cp := (World.cell?_setCell_other _ _ _ _ (Ne.symm h.pt)).trans h.cp
  ct := World.cell?_setCell_same _ _ _ h.ct
  cq := (World.cell?_setCell_other _ _ _ _ (Ne.symm h.qt)).trans h.cq
  fp := (World.frozen?_setCell _ _ _ _).trans h.fp
  ft := (World.frozen?_setCell _ _ _ _).trans h.ft
  fq := (World.frozen?_setCell _ _ _ _).trans h.fq
  pq := h.pq
  pt := h.pt
  qt := h.qt
  l := h.l.kept ((Kept.refl [t.block] _).setCell (Or.inl (by simp)) _) (fun g hg hm => (h.al g hg).2.2.1 (by simpa using hm))
  c := h.c.kept ((Kept.refl [t.block] _).setCell (Or.inl (by simp)) _) (fun g hg hm => (h.ac g hg).2.2 (by simpa using hm))
  al := h.al
  ac := h.ac

/-- Of the blocks of p, t and q no cell but those three has changed. -/
def Rest3 (p t q : Addr) (w w' : World) : Prop :=
  (∀ r : Addr, (r.block = p.block ∨ r.block = t.block ∨ r.block = q.block) → r ≠ p → r ≠ t → r ≠ q → w'.cell? r = w.cell? r) ∧ ∀ r : Addr, (r.block = p.block ∨ r.block = t.block ∨ r.block = q.block) → w'.frozen? r = w.frozen? r

theorem Rest3.trans {p t q : Addr} {a b c : World} (h : Rest3 p t q a b) (k : Rest3 p t q b c) : Rest3 p t q a c :=
  ⟨fun r hr h1 h2 h3 => (k.1 r hr h1 h2 h3).trans (h.1 r hr h1 h2 h3), fun r hr => (k.2 r hr).trans (h.2 r hr)⟩

/-- What the call leaves: the flag b, the fodders ll' and lc', and all else as it was but for the first fodder's own block. -/
def Left3 (w : World) (base : Nat) (p t q : Addr) (vl vc : Value) (b : Bool) (ll' lc' : List FE) (w' : World) : Prop :=
  ∃ vl' vc', Two w' base p t q b vl' vc' ll' lc' ∧ Kept (p.block :: t.block :: q.block :: vl.ownBlock.toList) w w' ∧ Rest3 p t q w w' ∧
    (∀ g, vl'.ownBlock = some g → vl.ownBlock = some g ∨ w.heap.size ≤ g) ∧ (∀ g, vc'.ownBlock = some g → vl.ownBlock = some g ∨ vc.ownBlock = some g ∨ w.heap.size ≤ g)

theorem Left3.stay {w w' : World} {base : Nat} {p t q : Addr} {tc : Bool} {vl vc : Value} {ll lc : List FE} (h : Two w base p t q tc vl vc ll lc) (hk : Kept [] w w') : Left3 w base p t q vl vc tc ll lc w' := by
  refine ⟨vl, vc, h.kept0 hk, hk.mono (by simp), ⟨fun r hr h1 h2 h3 => ?_, fun r hr => ?_⟩, fun g hg => Or.inl hg, fun g hg => Or.inr (Or.inl hg)⟩
  · have : r.block < w.heap.size := by
      rcases hr with e | e | e <;> rw [e]
      · exact World.block_lt_of_cell? w _ h.cp
      · exact World.block_lt_of_cell? w _ h.ct
      · exact World.block_lt_of_cell? w _ h.cq
    exact World.cell?_of_block (hk.block _ this (by simp))
  · have : r.block < w.heap.size := by
      rcases hr with e | e | e <;> rw [e]
      · exact World.block_lt_of_cell? w _ h.cp
      · exact World.block_lt_of_cell? w _ h.ct
      · exact World.block_lt_of_cell? w _ h.cq
    exact World.frozen?_of_block (hk.block _ this (by simp))

theorem Left3.flag {w : World} {base : Nat} {p t q : Addr} {tc : Bool} {vl vc : Value} {ll lc : List FE} (h : Two w base p t q tc vl vc ll lc) (b : Bool) : Left3 w base p t q vl vc b ll lc (w.setCell t (.bool b)) :=
  ⟨vl, vc, h.flag b, (Kept.refl _ _).setCell (Or.inl (by simp)) _,
    ⟨fun r _ _ h2 _ => World.cell?_setCell_other _ _ _ _ (Ne.symm h2), fun r _ => World.frozen?_setCell _ _ _ _⟩, fun g hg => Or.inl hg, fun g hg => Or.inr (Or.inl hg)⟩

theorem Left3.of_moved {w w' : World} {base : Nat} {p t q : Addr} {tc : Bool} {vl vc : Value} {ll lc : List FE} (h : Two w base p t q tc vl vc ll lc) (hm : Moved w base q p vc vl lc ll w') :
    ∃ lc', Conc ll lc lc' ∧ Left3 w base p t q vl vc tc [] lc' w' := by
  obtain ⟨vc', vl', lc', hcon, h1, h2, h3, h4, h5, h6, h7, h8⟩ := hm
  have ht : w'.cell? t = some (.bool tc) ∧ w'.frozen? t = false := by
    by_cases hb : t.block = q.block ∨ t.block = p.block
    · exact ⟨(h8.1 t hb (Ne.symm h.qt) (Ne.symm h.pt)).trans h.ct, (h8.2 t hb).trans h.ft⟩
    · have hn : t.block ∉ q.block :: p.block :: vl.ownBlock.toList := by
        intro hm
        simp at hm
        rcases hm with e | e | e
        · exact hb (Or.inl e)
        · exact hb (Or.inr e)
        · exact (h.al _ e).2.2.1 rfl
      exact ⟨h7.cell h.ct hn, (h7.frozen (World.block_lt_of_cell? w _ h.ct) hn).trans h.ft⟩
  refine ⟨lc', hcon, vl', vc', ⟨h2, ht.1, h1, (h8.2 p (Or.inr rfl)).trans h.fp, ht.2, (h8.2 q (Or.inl rfl)).trans h.fq, h.pq, h.pt, h.qt, h4, h3, ?_, ?_⟩, ?_, ⟨?_, ?_⟩, ?_, ?_⟩
  · intro g hg
    have k := h6 g hg
    refine ⟨k.2.1, k.1, ?_, fun e => (h5 g e).2.2.1 hg⟩
    have := World.block_lt_of_cell? w _ h.ct
    omega
  · intro g hg
    have k := h5 g hg
    refine ⟨k.2.1, k.1, ?_⟩
    rcases k.2.2.2 with e | e | e
    · exact (h.ac g e).2.2
    · exact (h.al g e).2.2.1
    · have := World.block_lt_of_cell? w _ h.ct
      omega
  · exact h7.mono (fun k hk => Or.inl (by simp at hk ⊢; rcases hk with e | e | e <;> simp [e]))
  · intro r hr n1 n2 n3
    rcases hr with e | e | e
    · exact h8.1 r (Or.inr e) n3 n1
    · by_cases hb : r.block = q.block ∨ r.block = p.block
      · exact h8.1 r hb n3 n1
      · refine World.cell?_of_block (h7.block _ (by rw [e]; exact World.block_lt_of_cell? w _ h.ct) ?_)
        intro hm
        simp at hm
        rcases hm with e1 | e1 | e1
        · exact hb (Or.inl e1)
        · exact hb (Or.inr e1)
        · exact (h.al _ e1).2.2.1 e
    · exact h8.1 r (Or.inl e) n3 n1
  · intro r hr
    rcases hr with e | e | e
    · exact h8.2 r (Or.inr e)
    · by_cases hb : r.block = q.block ∨ r.block = p.block
      · exact h8.2 r hb
      · refine World.frozen?_of_block (h7.block _ (by rw [e]; exact World.block_lt_of_cell? w _ h.ct) ?_)
        intro hm
        simp at hm
        rcases hm with e1 | e1 | e1
        · exact hb (Or.inl e1)
        · exact hb (Or.inr e1)
        · exact (h.al _ e1).2.2.1 e
    · exact h8.2 r (Or.inl e)
  · intro g hg
    exact Or.inr (h6 g hg).2.2
  · intro g hg
    rcases (h5 g hg).2.2.2 with e | e | e
    · exact Or.inr (Or.inl e)
    · exact Or.inl e
    · exact Or.inr (Or.inr e)

theorem Left3.trans {w w1 w2 : World} {base : Nat} {p t q : Addr} {vl vc : Value} {b b2 : Bool} {l1 c1 l2 c2 : List FE} (h : Left3 w base p t q vl vc b l1 c1 w1)
    (h2 : ∀ vl' vc', Two w1 base p t q b vl' vc' l1 c1 → Left3 w1 base p t q vl' vc' b2 l2 c2 w2) : Left3 w base p t q vl vc b2 l2 c2 w2 := by
  obtain ⟨vl1, vc1, ht, hk, hr, ho1, ho2⟩ := h
  obtain ⟨vl2, vc2, ht2, hk2, hr2, ho3, ho4⟩ := h2 _ _ ht
  refine ⟨vl2, vc2, ht2, hk.then hk2 ?_, hr.trans hr2, ?_, ?_⟩
  · intro x hx
    simp at hx
    rcases hx with e | e | e | e
    · exact Or.inl (by simp [e])
    · exact Or.inl (by simp [e])
    · exact Or.inl (by simp [e])
    · rcases ho1 x e with e | e
      · exact Or.inl (by simp [e])
      · exact Or.inr e
  · intro g hg
    rcases ho3 g hg with e | e
    · exact ho1 g e
    · exact Or.inr (Nat.le_trans hk.size e)
  · intro g hg
    rcases ho4 g hg with e | e | e
    · rcases ho1 g e with e | e
      · exact Or.inl e
      · exact Or.inr (Or.inr e)
    · exact ho2 g e
    · exact Or.inr (Or.inr (Nat.le_trans hk.size e))

theorem Left3.trans_two {w w1 w2 : World} {base : Nat} {p t q : Addr} {vl vc : Value} {b b2 : Bool} {l1 c1 l2 c2 : List FE} (h : Left3 w base p t q vl vc b l1 c1 w1) {vl' vc' : Value}
    (h1 : Two w1 base p t q b vl' vc' l1 c1) (h2 : Left3 w1 base p t q vl' vc' b2 l2 c2 w2) : Left3 w base p t q vl vc b2 l2 c2 w2 := by
  refine h.trans (fun vl1 vc1 ht => ?_)
  obtain rfl : vl1 = vl' := by have := ht.cp.symm.trans h1.cp; simpa using this
  obtain rfl : vc1 = vc' := by have := ht.cq.symm.trans h1.cq; simpa using this
  exact h2
end Go.Proofs.YtnfhhmadkiogbaaFmt
