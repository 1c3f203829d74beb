/- Nests of labelled parentheses: built pair by pair, and what the pass leaves of them. -/
import Derived.Test.YtepipmjcfnncdaaFmtPrCX
import Derived.Test.YtepipmjcfnncdaaFmtLab
namespace Go.Proofs.YtepipmjcfnncdaaFmt
open Go.ChangeShapes Go.WideShapes Go.ChangeAt Go.RowKit

/-- Level k carries the comments o<k> and c<k>. -/
def Labd (w : World) (B : Nat) : List Lv → Prop
  | [] => True
  | L :: r => Notes w B L.lo [lab 111 ((r.length : Int) + 1)] ∧ Notes w B L.lc [lab 99 ((r.length : Int) + 1)] ∧ Labd w B r
theorem Labd.kept {w w' : World} {B : Nat} {S : List Nat} {lv : List Lv} (h : Labd w B lv) (q : Kept S w w') (hS : ∀ g t, w.heap[g]? = some (.cells #[.string t] 9 (0, 0)) → B ≤ g → g ∉ S) : Labd w' B lv := by
  induction lv with
  | nil => trivial
  | cons L r ih => exact ⟨h.1.kept q hS, h.2.1.kept q hS, ih h.2.2⟩
theorem Labd.shorts {w : World} {B : Nat} {lv : List Lv} (h : Labd w B lv) : Shorts lv := by
  induction lv with
  | nil => intro L hL; simp at hL
  | cons L r ih =>
    intro M hM
    rcases List.mem_cons.1 hM with rfl | hM
    · exact ⟨⟨h.1.kinds, by rw [h.1.1]; simp⟩, ⟨h.2.1.kinds, by rw [h.2.1.1]; simp⟩⟩
    · exact ih h.2.2 M hM

/-- The nest as built so far. -/
structure BN (w0 w : World) (id : ByteArray) (x : Nat) (ve : Value) (le : List FE) (lv : List Lv) : Prop where
  k : Kept [] w0 w
  nst : Nst w w0.heap.size x lv
  nd : (blocks lv).Nodup
  var : VarAt w w0.heap.size x ve le
  cid : w.cell? ⟨x, 0, none⟩ = some (.string id)
  xb : x ∉ blocks lv
  vx : ∀ g, ve.ownBlock = some g → g ∉ blocks lv
  ne : Notes w w0.heap.size le [⟨#[118]⟩]
  lb : Labd w w0.heap.size lv
  low : ∀ b ∈ blocks lv, w0.heap.size ≤ b
  no : ∀ g t, w.heap[g]? = some (.cells #[.string t] 9 (0, 0)) → g ∉ blocks lv

theorem BN.kept {w0 w w' : World} {id : ByteArray} {x : Nat} {ve : Value} {le : List FE} {lv : List Lv} (h : BN w0 w id x ve le lv) (q : Kept [] w w') : BN w0 w' id x ve le lv where
  k := h.k.trans q
  nst := h.nst.kept q (by simp)
  nd := h.nd
  var := h.var.kept q (by simp) (by simp)
  cid := q.cell h.cid (by simp)
  xb := h.xb
  vx := h.vx
  ne := h.ne.kept q (by simp)
  lb := h.lb.kept q (by simp)
  low := h.low
  no := fun g t hg hm => h.no g t ((q.block g (h.nst.lt g hm) (by simp)).symm.trans hg) hm

theorem BN.step {w0 w w2 w4 : World} {id : ByteArray} {x : Nat} {ve : Value} {le : List FE} {lv : List Lv} (h : BN w0 w id x ve le lv) {b1 b2 : Nat} {vo vc : Value} {lo lc : List FE} (k1 : Kept [] w w2) (ho : Fod w2 b1 vo lo) (hb1 : w.heap.size ≤ b1) (no : Notes w2 b1 lo [lab 111 ((lv.length : Int) + 1)])
    (k2 : Kept [] w2 w4) (hc : Fod w4 b2 vc lc) (hb2 : w2.heap.size ≤ b2) (nc : Notes w4 b2 lc [lab 99 ((lv.length : Int) + 1)]) : BN w0 (w4.alloc (parOb (nodeOf x lv) vc vo)) id x ve le (⟨w4.heap.size, vo, vc, lo, lc⟩ :: lv) := by
  have a4 : Kept [] w4 (w4.alloc (parOb (nodeOf x lv) vc vo)) := (Kept.refl [] w4).alloc _
  have hW := (h.kept k1).kept (k2.trans a4)
  have bq := heap_alloc_new w4 (parOb (nodeOf x lv) vc vo)
  have z0 := h.k.size
  have z1 := k1.size
  have z2 := k2.size
  have o1 := World.ownsRow.lt ho
  have o2 := World.ownsRow.lt hc
  have old := h.nst.lt
  have xl : x < w.heap.size := World.block_lt_of_cell? w _ h.cid
  have vl := World.ownsRow.lt h.var.h
  obtain ⟨W, hWe⟩ : ∃ W, w4.alloc (parOb (nodeOf x lv) vc vo) = W := ⟨_, rfl⟩
  rw [hWe] at a4 hW bq ⊢
  have fo := (ho.kept (k2.trans a4) (by simp)).low (b' := w0.heap.size) (by omega)
  have fc := (hc.kept a4 (by simp)).low (b' := w0.heap.size) (by omega)
  have mem : ∀ g ∈ (⟨w4.heap.size, vo, vc, lo, lc⟩ : Lv).blocks, g = w4.heap.size ∨ vo.ownBlock = some g ∨ vc.ownBlock = some g := fun g hg => Lv.mem hg
  have new : ∀ g ∈ (⟨w4.heap.size, vo, vc, lo, lc⟩ : Lv).blocks, w.heap.size ≤ g := by
    intro g hg
    rcases mem g hg with e | e | e
    · omega
    · have := o1 g e; omega
    · have := o2 g e; omega
  exact {
    k := hW.k
    nst := ⟨cell_of_block bq 0, cell_of_block bq 1, cell_of_block bq 2, frozen_of_block bq, fo, fc, hW.nst⟩
    nd := by
      have own : ∀ (v : Value), v.ownBlock.toList.Nodup := fun v => by cases v.ownBlock <;> simp
      simp only [blocks]
      rw [List.nodup_append]
      refine ⟨?_, h.nd, fun a ha b hb e => ?_⟩
      · unfold Lv.blocks
        rw [List.nodup_cons, List.nodup_append]
        refine ⟨fun hm => ?_, own _, own _, fun a ha' b hb' e => ?_⟩
        · simp at hm
          rcases hm with h | h
          · have := o1 _ h; omega
          · have := o2 _ h; omega
        · simp at ha' hb'
          subst e
          have := o1 _ ha'; have := o2 _ hb'; omega
      · subst e
        have := new a ha
        have := old a hb
        omega
    var := hW.var
    cid := hW.cid
    xb := fun hm => by
      simp only [blocks] at hm
      rcases List.mem_append.1 hm with e | e
      · have := new x e; omega
      · exact h.xb e
    vx := fun g hg hm => by
      simp only [blocks] at hm
      rcases List.mem_append.1 hm with e | e
      · have := new g e; have := vl g hg; omega
      · exact h.vx g hg e
    ne := hW.ne
    lb := ⟨(no.kept (k2.trans a4) (by simp)).low (by omega), (nc.kept a4 (by simp)).low (by omega), hW.lb⟩
    low := fun b hb => by
      simp only [blocks] at hb
      rcases List.mem_append.1 hb with e | e
      · have := new b e; omega
      · exact h.low b e
    no := fun g t hg hm => by
      simp only [blocks] at hm
      rcases List.mem_append.1 hm with e | e
      · rcases mem g e with e | e | e
        · subst e; exact parOb_no bq hg
        · exact fo.noNote e hg
        · exact fc.noNote e hg
      · exact hW.no g t hg e }

/-- What is left of a nest of k labelled pairs. -/
def HL (w : World) (B : Nat) : Nat → List Lv → Prop
  | 0, lv => lv = []
  | 1, lv => ∃ L, lv = [L] ∧ Notes w B L.lo [lab 111 1] ∧ Notes w B L.lc [lab 99 1]
  | k + 2, lv => ∃ L r, lv = L :: r ∧ Notes w B L.lo [lab 111 ((k : Int) + 1), lab 111 ((k : Int) + 2)] ∧ Notes w B L.lc [lab 99 ((k : Int) + 1), lab 99 ((k : Int) + 2)] ∧ HL w B k r

theorem halved_lab (w : World) (B : Nat) : ∀ (n : Nat) (lv lv' : List Lv), lv.length ≤ n → Labd w B lv → lv'.map Lv.pr = half (lv.map Lv.pr) → HL w B lv.length lv' := by
  intro n
  induction n with
  | zero =>
    intro lv lv' hn hl hm
    obtain rfl : lv = [] := List.length_eq_zero_iff.1 (by omega)
    simpa [half, HL] using hm
  | succ n ih =>
    intro lv lv' hn hl hm
    match lv, lv', hn, hl, hm with
    | [], lv', _, _, hm => simpa [half, HL] using hm
    | [a], lv', _, hl, hm =>
      match lv', hm with
      | [L], hm =>
        simp [half, Lv.pr] at hm
        exact ⟨L, rfl, by rw [hm.1]; simpa using hl.1, by rw [hm.2]; simpa using hl.2.1⟩
      | [], hm => simp [half] at hm
      | _ :: _ :: _, hm => simp [half] at hm
    | a :: b :: r, lv', hn, hl, hm =>
      match lv', hm with
      | L :: r', hm =>
        simp only [List.map_cons, half, List.cons.injEq] at hm
        obtain ⟨h1, h2⟩ := hm
        have h1' : L.lo = b.lo ++ a.lo ∧ L.lc = b.lc ++ a.lc := by simpa [Lv.pr] using h1
        have hlen : ((b :: r).length : Int) + 1 = (r.length : Int) + 2 := by simp; omega
        refine ⟨L, r', rfl, ?_, ?_, ih r r' (by simp at hn; omega) hl.2.2.2.2 h2⟩
        · rw [h1'.1]
          have := hl.2.2.1.append hl.1
          rwa [hlen] at this
        · rw [h1'.2]
          have := hl.2.2.2.1.append hl.2.1
          rwa [hlen] at this
      | [], hm => simp [half] at hm

theorem HL.kept {w w' : World} {B : Nat} {S : List Nat} (q : Kept S w w') (hS : ∀ g t, w.heap[g]? = some (.cells #[.string t] 9 (0, 0)) → B ≤ g → g ∉ S) : ∀ (k : Nat) (lv : List Lv), HL w B k lv → HL w' B k lv
  | 0, _, h => h
  | 1, _, ⟨L, h1, h2, h3⟩ => ⟨L, h1, h2.kept q hS, h3.kept q hS⟩
  | k + 2, _, ⟨L, r, h1, h2, h3, h4⟩ => ⟨L, r, h1, h2.kept q hS, h3.kept q hS, HL.kept q hS k r h4⟩
end Go.Proofs.YtepipmjcfnncdaaFmt
