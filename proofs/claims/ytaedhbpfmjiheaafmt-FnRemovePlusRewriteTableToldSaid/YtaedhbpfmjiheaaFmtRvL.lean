/- The own Visit at a Binary that is rewritten. -/
import Derived.Test.YtaedhbpfmjiheaaFmtRvK
import Derived.Test.YtaedhbpfmjiheaaFmtFMove
import Derived.Deep.RegionHeld3
import Derived.Deep.DrawnRows
namespace Go.Proofs.YtaedhbpfmjiheaaFmt
open Go.ChangeShapes Go.WideShapes Go.ChangeAt Go.RowKit

theorem blk_ne2 {w : World} {a b : Nat} {cs ds : Array Value} {t u : TypeId} (h : w.heap[a]? = some (.cells cs t (0, 0))) (k : w.heap[b]? = some (.cells ds u (0, 0))) (e : t ≠ u) : a ≠ b := by
  intro hab
  subst hab
  rw [h] at k
  simp at k
  exact e k.2
theorem fod_typ {w : World} {base : Nat} {v : Value} {l : List FE} (h : Fod w base v l) (g : Nat) (hg : v.ownBlock = some g) : ∃ cs, w.heap[g]? = some (.cells cs 83 (0, 0)) := by
  obtain ⟨_, h | ⟨g', cap, cur, hv, hb, hh, _⟩⟩ := h
  · obtain ⟨rfl, _⟩ := h
    simp [Value.ownBlock] at hg
  · subst hv
    simp [Value.ownBlock] at hg
    subst hg
    exact ⟨_, hh⟩

/-- What the rewrite leaves. -/
def Rewr (w : World) (base nb xb ob : Nat) (TL : TypeId) (xl : Nat) (la lb : List FE) (vb fv : Value) (w' : World) : Prop :=
  ∃ ab va' vb' l', Conc lb la l' ∧ w'.cell? ⟨nb, 0, none⟩ = some (.iface 67 (.pointer (some ⟨ab, 0, none⟩))) ∧ w'.cell? ⟨ab, 0, none⟩ = some (.iface TL (.pointer (some ⟨xl, 0, none⟩))) ∧
    w'.cell? ⟨ab, 1, none⟩ = some (.iface 28 (.pointer (some ⟨ob, 0, none⟩))) ∧ w'.cell? ⟨ab, 2, none⟩ = some fv ∧ w'.cell? ⟨xb, 2, none⟩ = some vb' ∧ Fod w' base vb' [] ∧ w'.cell? ⟨ob, 2, none⟩ = some va' ∧ Fod w' base va' l' ∧ Kept (nb :: ob :: xb :: vb.ownBlock.toList) w w'

/-- The world behind the store of the new node. -/
def wAB (w1 : World) (nb ob : Nat) (TL : TypeId) (xl : Nat) (fa : Option Addr) (fn fc : Nat) : World :=
  ((w1.setCell ⟨nb, 0, none⟩ (.iface 67 (.pointer (some ⟨w1.heap.size, 0, none⟩)))).alloc (.cells #[.iface TL (.pointer (some ⟨xl, 0, none⟩)), .iface 28 (.pointer (some ⟨ob, 0, none⟩)), .slice fa fn fc, .pointer none, .slice none 0 0, .pointer none, .string ⟨#[]⟩, .int .i64 0, .int .i64 0, .int .i64 0, .int .i64 0] 70)).drew
theorem rewr_end {w w1 : World} {base lim nb xb ob pb : Nat} {TL : TypeId} {xl : Nat} {va vb : Value} {fa : Option Addr} {fn fc : Nat} {la lb l : List FE} (hpb : IsPass w pb) (ctx r : Value) (hl : LK w lim TL xl)
    (hxb : w.heap[xb]? = some (.cells #[.iface 28 (.pointer (some ⟨ob, 0, none⟩)), .iface TL (.pointer (some ⟨xl, 0, none⟩)), vb, .slice fa fn fc, .pointer none, .slice none 0 0, .pointer none, .string ⟨#[]⟩, .int .i64 0, .int .i64 0, .int .i64 0, .int .i64 0, .int .i64 3] 54 (0, 0)))
    (hnb : w.heap[nb]? = some (.cells #[.iface 51 (.pointer (some ⟨xb, 0, none⟩))] 23 (0, 0))) (ho0 : w.cell? ⟨ob, 0, none⟩ = some (.slice none 0 0)) (ho1 : w.cell? ⟨ob, 1, none⟩ = some (.slice none 0 0)) (hoz : ∀ o, w.frozen? ⟨ob, o, none⟩ = false) (nno : nb ≠ ob) (nxn : nb ≠ xb) (nxo : ob ≠ xb)
    (hb : Fod w base vb lb) (hf : Fod w base (.slice fa fn fc) l) (hfm : ∀ g, vb.ownBlock = some g → g ≠ ob ∧ g ≠ xb ∧ g ≠ nb) (hfl : ∀ g, (Value.slice fa fn fc).ownBlock = some g → g ≠ ob ∧ g ≠ xb ∧ g ≠ nb) (dfb : ∀ g, (Value.slice fa fn fc).ownBlock = some g → vb.ownBlock ≠ some g)
    (hlb : lim ≤ base) (hlo : lim ≤ ob) (hlx : lim ≤ xb) (hln : lim ≤ nb) (hpn : pb ≠ nb ∧ pb ≠ ob ∧ pb ≠ xb) (hpt : ∀ g, vb.ownBlock = some g → g ≠ pb)
    (hmv : Moved w.drew base ⟨ob, 2, none⟩ ⟨xb, 2, none⟩ va vb la lb w1) :
    IsPass (wAB w1 nb ob TL xl fa fn fc) pb ∧ (Calls Tryf.prog 14 #[r, .iface 55 (.pointer (some ⟨pb, 0, none⟩)), .pointer (some ⟨nb, 0, none⟩), ctx] (wAB w1 nb ob TL xl fa fn fc) fun e w' => e = .returned (.tuple #[]) ∧ Kept [] (wAB w1 nb ob TL xl fa fn fc) w') ∧
      ∀ w3, Kept [] (wAB w1 nb ob TL xl fa fn fc) w3 → Rewr w base nb xb ob TL xl la lb vb (.slice fa fn fc) w3 := by
  obtain ⟨va', vb', l', hconc, m1, m2, m3, m4, m5, m6, m7, m8⟩ := hmv
  have q1 : Kept (ob :: xb :: vb.ownBlock.toList) w w1 := ⟨m7.os, m7.tape, m7.output, m7.size, m7.block⟩
  have nm : nb ∉ ob :: xb :: vb.ownBlock.toList := by
    intro hm
    simp only [List.mem_cons, Option.mem_toList] at hm
    rcases hm with hm | hm | hm
    · exact nno hm
    · exact nxn hm
    · exact (hfm nb hm).2.2 rfl
  have hnb1 := q1.heap hnb nm
  have hn1 : w1.cell? ⟨nb, 0, none⟩ = some (.iface 51 (.pointer (some ⟨xb, 0, none⟩))) := cell_of_block hnb1 0
  obtain ⟨W2, hW2⟩ : ∃ W2, wAB w1 nb ob TL xl fa fn fc = W2 := ⟨_, rfl⟩
  have K2 : Kept [nb] w1 W2 := hW2 ▸ (((Kept.refl _ _).setCell (Or.inl (by simp)) _).alloc _).drew
  have x2 : W2.heap[w1.heap.size]? = some (.cells #[.iface TL (.pointer (some ⟨xl, 0, none⟩)), .iface 28 (.pointer (some ⟨ob, 0, none⟩)), .slice fa fn fc, .pointer none, .slice none 0 0, .pointer none, .string ⟨#[]⟩, .int .i64 0, .int .i64 0, .int .i64 0, .int .i64 0] 70 (0, 0)) := by
    rw [← hW2]
    have := heap_alloc_new (w1.setCell ⟨nb, 0, none⟩ (.iface 67 (.pointer (some ⟨w1.heap.size, 0, none⟩)))) (.cells #[.iface TL (.pointer (some ⟨xl, 0, none⟩)), .iface 28 (.pointer (some ⟨ob, 0, none⟩)), .slice fa fn fc, .pointer none, .slice none 0 0, .pointer none, .string ⟨#[]⟩, .int .i64 0, .int .i64 0, .int .i64 0, .int .i64 0] 70)
    rw [show (w1.setCell ⟨nb, 0, none⟩ (.iface 67 (.pointer (some ⟨w1.heap.size, 0, none⟩)))).heap.size = w1.heap.size by simp] at this
    exact this
  have y2 : W2.cell? ⟨nb, 0, none⟩ = some (.iface 67 (.pointer (some ⟨w1.heap.size, 0, none⟩))) := by
    rw [← hW2]
    exact (((Kept.refl [] _).alloc _).drew).cell (World.cell?_setCell_same _ _ _ hn1) (by simp)
  rw [hW2]
  clear hW2
  have hk : Kept (nb :: ob :: xb :: vb.ownBlock.toList) w W2 := (q1.mono (fun k hk => Or.inl (List.mem_cons_of_mem _ hk))).trans (K2.mono (fun k hk => Or.inl (by rw [List.mem_singleton.1 hk]; exact List.mem_cons_self ..)))
  have hS : ∀ g ∈ nb :: ob :: xb :: vb.ownBlock.toList, lim ≤ g := by
    intro g hg
    simp only [List.mem_cons, Option.mem_toList] at hg
    rcases hg with rfl | rfl | rfl | hg
    · exact hln
    · exact hlo
    · exact hlx
    · exact Nat.le_trans hlb (World.ownsRow.lt hb g hg).1
  have hp2 : IsPass W2 pb := hpb.kept hk (by
    intro hm
    simp only [List.mem_cons, Option.mem_toList] at hm
    rcases hm with hm | hm | hm | hm
    · exact hpn.1 hm
    · exact hpn.2.1 hm
    · exact hpn.2.2 hm
    · exact hpt pb hm rfl)
  have nob : ob ∉ [nb] := by simp; exact fun e => nno e.symm
  have nxb : xb ∉ [nb] := by simp; exact fun e => nxn e.symm
  have ro : ∀ o, o ≠ 2 → w1.cell? ⟨ob, o, none⟩ = w.cell? ⟨ob, o, none⟩ := fun o ho => m8.1 ⟨ob, o, none⟩ (Or.inl rfl) (fun e => ho (congrArg Addr.off e)) (fun e => nxo (congrArg Addr.block e))
  have rz : w1.frozen? ⟨ob, 2, none⟩ = false := (m8.2 ⟨ob, 2, none⟩ (Or.inl rfl)).trans (hoz 2)
  have fN : ∀ {v : Value} {m : List FE}, Fod w1 base v m → ∀ g, v.ownBlock = some g → g ∉ [nb] := fun hv g hg hm => by
    obtain ⟨cs, hc⟩ := fod_typ hv g hg
    exact blk_ne2 hc hnb1 (by decide) (by simpa using hm)
  have ho2 := K2.cell (p := ⟨ob, 2, none⟩) m1 nob
  have fa2 : Fod W2 base va' l' := m3.kept K2 (fN m3)
  have cr : Calm W2 pb ctx w1.heap.size 1 := calm_Object hp2 ctx fa2 (cell_of_block x2 1) ho2 ((K2.frozen (p := ⟨ob, 2, none⟩) (World.block_lt_of_cell? w1 _ m1) nob).trans rz)
    (K2.cell (p := ⟨ob, 0, none⟩) ((ro 0 (by omega)).trans ho0) nob) (K2.cell (p := ⟨ob, 1, none⟩) ((ro 1 (by omega)).trans ho1) nob) (fod_none W2 base)
  have cl : Calm W2 pb ctx w1.heap.size 0 := (hl.kept hk hS).calm hp2 ctx (cell_of_block x2 0)
  have ff : Fod W2 base (.slice fa fn fc) l := hf.kept hk (fun g hg hm => by
    simp only [List.mem_cons, Option.mem_toList] at hm
    obtain ⟨z1, z2, z3⟩ := hfl g hg
    rcases hm with hm | hm | hm | hm
    · exact z3 hm
    · exact z1 hm
    · exact z2 hm
    · exact dfb g hg hm)
  refine ⟨hp2, visit_ApplyBrace W2 base r pb nb 0 w1.heap.size hp2 ctx _ l ff y2 (cell_of_block x2 2) (frozen_of_block x2 2) (fun w3 k => base_ApplyBrace w3 _ pb w1.heap.size (hp2.kept k (by simp)) ctx (cl.kept k) (cr.kept k)), fun w3 k => ?_⟩
  exact ⟨w1.heap.size, va', vb', l', hconc, k.cell y2 (by simp), k.cell (cell_of_block x2 0) (by simp), k.cell (cell_of_block x2 1) (by simp), k.cell (cell_of_block x2 2) (by simp), k.cell (K2.cell (p := ⟨xb, 2, none⟩) m2 nxb) (by simp), (m4.kept K2 (fN m4)).kept k (by simp), k.cell ho2 (by simp), fa2.kept k (by simp), hk.trans (k.mono (by simp))⟩

set_option maxRecDepth 100000 in
set_option maxHeartbeats 4000000 in
theorem own_rewrite (w : World) (base lim nb xb ob pb : Nat) (TL : TypeId) (xl : Nat) (va vb fv : Value) (la lb l : List FE) (hpb : IsPass w pb) (ctx : Value) (hTL : TL = 30 ∨ TL = 74) (hl : LK w lim TL xl)
    (hxb : w.heap[xb]? = some (.cells #[.iface 28 (.pointer (some ⟨ob, 0, none⟩)), .iface TL (.pointer (some ⟨xl, 0, none⟩)), vb, fv, .pointer none, .slice none 0 0, .pointer none, .string ⟨#[]⟩, .int .i64 0, .int .i64 0, .int .i64 0, .int .i64 0, .int .i64 3] 54 (0, 0)))
    (hnb : w.heap[nb]? = some (.cells #[.iface 51 (.pointer (some ⟨xb, 0, none⟩))] 23 (0, 0))) (ho0 : w.cell? ⟨ob, 0, none⟩ = some (.slice none 0 0)) (ho1 : w.cell? ⟨ob, 1, none⟩ = some (.slice none 0 0)) (ho2 : w.cell? ⟨ob, 2, none⟩ = some va) (hoz : ∀ o, w.frozen? ⟨ob, o, none⟩ = false) (hot : ∃ cs, w.heap[ob]? = some (.cells cs 45 (0, 0)))
    (ha : Fod w base va la) (hb : Fod w base vb lb) (hf : Fod w base fv l) (dab : ∀ g, va.ownBlock = some g → vb.ownBlock ≠ some g) (dfb : ∀ g, fv.ownBlock = some g → vb.ownBlock ≠ some g)
    (hlen : la.length + lb.length ≤ 1048570) (hbs : base ≤ w.heap.size) (hlb : lim ≤ base) (hlo : lim ≤ ob) (hlx : lim ≤ xb) (hln : lim ≤ nb) (hpn : pb ≠ nb ∧ pb ≠ ob ∧ pb ≠ xb) (hpt : ∀ g, vb.ownBlock = some g → g ≠ pb) (hcl : ∀ x, la[0]? = some x → x.k = 0 → x.cl = 0) :
    Calls Tryf.prog 6 #[.pointer (some ⟨pb, 0, none⟩), .iface 55 (.pointer (some ⟨pb, 0, none⟩)), .pointer (some ⟨nb, 0, none⟩), ctx] w fun e w' => e = .returned (.tuple #[]) ∧ Rewr w base nb xb ob TL xl la lb vb fv w' := by
  have hp := part_base w pb hpb
  obtain ⟨oc, hoc⟩ := hot
  have nxn : nb ≠ xb := blk_ne2 hnb hxb (by decide)
  have nxo : ob ≠ xb := blk_ne2 hoc hxb (by decide)
  have nno : nb ≠ ob := blk_ne2 hnb hoc (by decide)
  have fodN : ∀ {v : Value} {m : List FE}, Fod w base v m → ∀ g, v.ownBlock = some g → g ≠ ob ∧ g ≠ xb ∧ g ≠ nb := fun {v m} hv g hg => by
    obtain ⟨cs, hc⟩ := fod_typ hv g hg
    exact ⟨blk_ne2 hc hoc (by decide), blk_ne2 hc hxb (by decide), blk_ne2 hc hnb (by decide)⟩
  have FN := fun g => fodN ha g
  have FM := fun g => fodN hb g
  have FL := fun g => fodN hf g
  have c0 : w.cell? ⟨xb, 0, none⟩ = some (.iface 28 (.pointer (some ⟨ob, 0, none⟩))) := cell_of_block hxb 0
  have c1 : w.cell? ⟨xb, 1, none⟩ = some (.iface TL (.pointer (some ⟨xl, 0, none⟩))) := cell_of_block hxb 1
  have c2 : w.cell? ⟨xb, 2, none⟩ = some vb := cell_of_block hxb 2
  have c12 : w.cell? ⟨xb, 12, none⟩ = some (.int .i64 3) := cell_of_block hxb 12
  have hn : w.cell? ⟨nb, 0, none⟩ = some (.iface 51 (.pointer (some ⟨xb, 0, none⟩))) := cell_of_block hnb 0
  have hq := fmove_any w.drew base ob 2 xb 2 va vb la lb (ha.kept (Kept.refl [] w).drew (by simp)) (hb.kept (Kept.refl [] w).drew (by simp)) ho2 c2 (hoz 2) (frozen_of_block (w := w) hxb 2) (by intro e; exact nxo (congrArg Addr.block e))
    (fun g hg => ⟨(FN g hg).1, (FN g hg).2.1, dab g hg⟩) (fun g hg => ⟨(FM g hg).1, (FM g hg).2.1⟩) hlen hbs hcl
  have HQ := Lib.hid hq; clear hq
  have tb := fun w => ta_yes_Binary (.pointer (some ⟨xb, 0, none⟩)) 23 w
  have t3 := fun w => ta_yes_Object (.pointer (some ⟨ob, 0, none⟩)) 23 w
  obtain ⟨fa, fn, fc, rfl⟩ := hf.isSlice
  have HXB := Lib.hid hxb; have HNB := Lib.hid hnb; have HO0 := Lib.hid ho0; have HO1 := Lib.hid ho1; have HOZ := Lib.hid hoz; have HOC := Lib.hid hoc; have HA := Lib.hid ha; have HB := Lib.hid hb; have HF := Lib.hid hf
  have HFN := Lib.hid FN; have HFM := Lib.hid FM; have HFL := Lib.hid FL; have DFB := Lib.hid dfb; have HL := Lib.hid hl; have HPB := Lib.hid hpb; have HPT := Lib.hid hpt; have HPN := Lib.hid hpn
  have NXN := Lib.hid nxn; have NXO := Lib.hid nxo; have NNO := Lib.hid nno
  clear hxb hnb ho0 ho1 hoz hoc ha hb hf FN FM FL dfb dab hl hpb hpt hpn fodN nxn nxo nno ho2 hcl
  rcases hTL with rfl | rfl
  · have t1 := fun w => ta_yes_Var (.pointer (some ⟨xl, 0, none⟩)) 23 w
    have t2 := fun w => ta_no_Index 30 (.pointer (some ⟨xl, 0, none⟩)) 23 w (by decide)
    go_enter Tryf.func6, Tryf.ntmps6
    go_wp2_with fail
    go_still_tail 7, (by kernel_rfl)
    go_wp2_with fail
    refine HQ.out.mono ?_
    rintro e w1 ⟨rfl, hmv⟩
    have hend := rewr_end HPB.out ctx (.pointer (some ⟨pb, 0, none⟩)) HL.out HXB.out HNB.out HO0.out HO1.out HOZ.out NNO.out NXN.out NXO.out HB.out HF.out HFM.out HFL.out DFB.out hlb hlo hlx hln HPN.out HPT.out hmv
    have HEND := Lib.hid hend; clear hend
    obtain ⟨va', vb', l', -, -, -, -, -, -, -, m7, m8⟩ := hmv
    have rx : ∀ o, o ≠ 2 → w1.cell? ⟨xb, o, none⟩ = w.cell? ⟨xb, o, none⟩ := fun o ho => m8.1 ⟨xb, o, none⟩ (Or.inr rfl) (fun e => NXO.out (congrArg Addr.block e).symm) (fun e => ho (congrArg Addr.off e))
    have hnb1 := m7.heap HNB.out (by
      intro hm
      simp only [List.mem_cons, Option.mem_toList] at hm
      rcases hm with hm | hm | hm
      · exact NNO.out hm
      · exact NXN.out hm
      · exact (HFM.out nb hm).2.2 rfl)
    have hn1 : w1.cell? ⟨nb, 0, none⟩ = some (.iface 51 (.pointer (some ⟨xb, 0, none⟩))) := cell_of_block hnb1 0
    have hz1 : w1.frozen? ⟨nb, 0, none⟩ = false := frozen_of_block hnb1 0
    have d1 : w1.cell? ⟨xb, 1, none⟩ = some (.iface 30 (.pointer (some ⟨xl, 0, none⟩))) := (rx 1 (by omega)).trans c1
    have d3 : w1.cell? ⟨xb, 3, none⟩ = some (.slice fa fn fc) := (rx 3 (by omega)).trans (cell_of_block HXB.out 3)
    have d4 : w1.cell? ⟨xb, 4, none⟩ = some (.pointer none) := (rx 4 (by omega)).trans (cell_of_block HXB.out 4)
    have d5 : w1.cell? ⟨xb, 5, none⟩ = some (.slice none 0 0) := (rx 5 (by omega)).trans (cell_of_block HXB.out 5)
    have d6 : w1.cell? ⟨xb, 6, none⟩ = some (.pointer none) := (rx 6 (by omega)).trans (cell_of_block HXB.out 6)
    have d7 : w1.cell? ⟨xb, 7, none⟩ = some (.string ⟨#[]⟩) := (rx 7 (by omega)).trans (cell_of_block HXB.out 7)
    have d8 : w1.cell? ⟨xb, 8, none⟩ = some (.int .i64 0) := (rx 8 (by omega)).trans (cell_of_block HXB.out 8)
    have d9 : w1.cell? ⟨xb, 9, none⟩ = some (.int .i64 0) := (rx 9 (by omega)).trans (cell_of_block HXB.out 9)
    have d10 : w1.cell? ⟨xb, 10, none⟩ = some (.int .i64 0) := (rx 10 (by omega)).trans (cell_of_block HXB.out 10)
    have d11 : w1.cell? ⟨xb, 11, none⟩ = some (.int .i64 0) := (rx 11 (by omega)).trans (cell_of_block HXB.out 11)
    have D1 := Lib.hid d1; have D3 := Lib.hid d3; have D4 := Lib.hid d4; have D5 := Lib.hid d5; have D6 := Lib.hid d6; have D7 := Lib.hid d7; have D8 := Lib.hid d8; have D9 := Lib.hid d9; have D10 := Lib.hid d10; have D11 := Lib.hid d11
    clear m7 m8 rx hnb1 d1 d3 d4 d5 d6 d7 d8 d9 d10 d11
    have BNE : Hid (xb ∉ [nb]) := Lib.hid (by simp; exact fun e => NXN.out e.symm)
    have kr := (Kept.refl [nb] w1).drew
    have hlt1 : nb < w1.heap.size := World.block_lt_of_cell? w1 _ hn1
    have hne1 : ¬ nb = w1.heap.size := by omega
    have hne2 : ¬ w1.heap.size = nb := by omega
    have a0 := fun o => ((Kept.refl [] w1).alloc o).cell hn1 (by simp)
    have a1 := fun o => (((Kept.refl [] w1).alloc o).frozen (p := ⟨nb, 0, none⟩) hlt1 (by simp)).trans hz1
    go_wp2_with fail
    go_region_held3 (fun w' => w'.cell? ⟨xb, 1, none⟩ = some (.iface 30 (.pointer (some ⟨xl, 0, none⟩))) ∧ w'.cell? ⟨xb, 3, none⟩ = some (.slice fa fn fc) ∧ w'.cell? ⟨xb, 4, none⟩ = some (.pointer none) ∧ w'.cell? ⟨xb, 5, none⟩ = some (.slice none 0 0) ∧ w'.cell? ⟨xb, 6, none⟩ = some (.pointer none) ∧ w'.cell? ⟨xb, 7, none⟩ = some (.string ⟨#[]⟩) ∧ w'.cell? ⟨xb, 8, none⟩ = some (.int .i64 0) ∧ w'.cell? ⟨xb, 9, none⟩ = some (.int .i64 0) ∧ w'.cell? ⟨xb, 10, none⟩ = some (.int .i64 0) ∧ w'.cell? ⟨xb, 11, none⟩ = some (.int .i64 0) ∧ Kept [nb] w1 w')
      ((try go_split_ands; refine (fun h : Kept [nb] w1 _ => ⟨h.cell D1.out BNE.out, h.cell D3.out BNE.out, h.cell D4.out BNE.out, h.cell D5.out BNE.out, h.cell D6.out BNE.out, h.cell D7.out BNE.out, h.cell D8.out BNE.out, h.cell D9.out BNE.out, h.cell D10.out BNE.out, h.cell D11.out BNE.out, h⟩) ?_; first | assumption | exact Kept.drew (by assumption) | exact Kept.alloc (by assumption) _ | exact Kept.setCell (by assumption) (Or.inl (by simp)) _ | exact (Kept.alloc (Kept.refl _ _) _).drew | exact (Kept.alloc ((Kept.refl _ _).setCell (Or.inl (by simp)) _) _).drew | exact ((Kept.alloc (Kept.refl _ _) _).drew).setCell (Or.inl (by simp)) _))
      (fail)
    all_goals
      have hp2 := part_base _ pb HEND.out.1
      obtain ⟨W2, hW2⟩ : ∃ W2, wAB w1 nb ob 30 xl fa fn fc = W2 := ⟨_, rfl⟩
      have hW3 := hW2
      unfold wAB at hW3
      rw [hW3]
      rw [hW2] at HEND hp2
      clear hW2 hW3 a0 a1 hn1 hz1
      go_wp2_with fail
      refine HEND.out.2.1.mono ?_
      rintro e w3 ⟨rfl, k3⟩
      have hres := HEND.out.2.2 w3 k3
      have HRES := Lib.hid hres; clear hres k3
      go_wp2_with fail
      go_end0
      exact ⟨rfl, HRES.out⟩
  · have t1 := fun w => ta_no_Var 74 (.pointer (some ⟨xl, 0, none⟩)) 23 w (by decide)
    have t2 := fun w => ta_yes_Index (.pointer (some ⟨xl, 0, none⟩)) 23 w
    go_enter Tryf.func6, Tryf.ntmps6
    go_wp2_with fail
    go_still_tail 7, (by kernel_rfl)
    go_wp2_with fail
    refine HQ.out.mono ?_
    rintro e w1 ⟨rfl, hmv⟩
    have hend := rewr_end HPB.out ctx (.pointer (some ⟨pb, 0, none⟩)) HL.out HXB.out HNB.out HO0.out HO1.out HOZ.out NNO.out NXN.out NXO.out HB.out HF.out HFM.out HFL.out DFB.out hlb hlo hlx hln HPN.out HPT.out hmv
    have HEND := Lib.hid hend; clear hend
    obtain ⟨va', vb', l', -, -, -, -, -, -, -, m7, m8⟩ := hmv
    have rx : ∀ o, o ≠ 2 → w1.cell? ⟨xb, o, none⟩ = w.cell? ⟨xb, o, none⟩ := fun o ho => m8.1 ⟨xb, o, none⟩ (Or.inr rfl) (fun e => NXO.out (congrArg Addr.block e).symm) (fun e => ho (congrArg Addr.off e))
    have hnb1 := m7.heap HNB.out (by
      intro hm
      simp only [List.mem_cons, Option.mem_toList] at hm
      rcases hm with hm | hm | hm
      · exact NNO.out hm
      · exact NXN.out hm
      · exact (HFM.out nb hm).2.2 rfl)
    have hn1 : w1.cell? ⟨nb, 0, none⟩ = some (.iface 51 (.pointer (some ⟨xb, 0, none⟩))) := cell_of_block hnb1 0
    have hz1 : w1.frozen? ⟨nb, 0, none⟩ = false := frozen_of_block hnb1 0
    have d1 : w1.cell? ⟨xb, 1, none⟩ = some (.iface 74 (.pointer (some ⟨xl, 0, none⟩))) := (rx 1 (by omega)).trans c1
    have d3 : w1.cell? ⟨xb, 3, none⟩ = some (.slice fa fn fc) := (rx 3 (by omega)).trans (cell_of_block HXB.out 3)
    have d4 : w1.cell? ⟨xb, 4, none⟩ = some (.pointer none) := (rx 4 (by omega)).trans (cell_of_block HXB.out 4)
    have d5 : w1.cell? ⟨xb, 5, none⟩ = some (.slice none 0 0) := (rx 5 (by omega)).trans (cell_of_block HXB.out 5)
    have d6 : w1.cell? ⟨xb, 6, none⟩ = some (.pointer none) := (rx 6 (by omega)).trans (cell_of_block HXB.out 6)
    have d7 : w1.cell? ⟨xb, 7, none⟩ = some (.string ⟨#[]⟩) := (rx 7 (by omega)).trans (cell_of_block HXB.out 7)
    have d8 : w1.cell? ⟨xb, 8, none⟩ = some (.int .i64 0) := (rx 8 (by omega)).trans (cell_of_block HXB.out 8)
    have d9 : w1.cell? ⟨xb, 9, none⟩ = some (.int .i64 0) := (rx 9 (by omega)).trans (cell_of_block HXB.out 9)
    have d10 : w1.cell? ⟨xb, 10, none⟩ = some (.int .i64 0) := (rx 10 (by omega)).trans (cell_of_block HXB.out 10)
    have d11 : w1.cell? ⟨xb, 11, none⟩ = some (.int .i64 0) := (rx 11 (by omega)).trans (cell_of_block HXB.out 11)
    have D1 := Lib.hid d1; have D3 := Lib.hid d3; have D4 := Lib.hid d4; have D5 := Lib.hid d5; have D6 := Lib.hid d6; have D7 := Lib.hid d7; have D8 := Lib.hid d8; have D9 := Lib.hid d9; have D10 := Lib.hid d10; have D11 := Lib.hid d11
    clear m7 m8 rx hnb1 d1 d3 d4 d5 d6 d7 d8 d9 d10 d11
    have BNE : Hid (xb ∉ [nb]) := Lib.hid (by simp; exact fun e => NXN.out e.symm)
    have kr := (Kept.refl [nb] w1).drew
    have hlt1 : nb < w1.heap.size := World.block_lt_of_cell? w1 _ hn1
    have hne1 : ¬ nb = w1.heap.size := by omega
    have hne2 : ¬ w1.heap.size = nb := by omega
    have a0 := fun o => ((Kept.refl [] w1).alloc o).cell hn1 (by simp)
    have a1 := fun o => (((Kept.refl [] w1).alloc o).frozen (p := ⟨nb, 0, none⟩) hlt1 (by simp)).trans hz1
    go_wp2_with fail
    go_region_held3 (fun w' => w'.cell? ⟨xb, 1, none⟩ = some (.iface 74 (.pointer (some ⟨xl, 0, none⟩))) ∧ w'.cell? ⟨xb, 3, none⟩ = some (.slice fa fn fc) ∧ w'.cell? ⟨xb, 4, none⟩ = some (.pointer none) ∧ w'.cell? ⟨xb, 5, none⟩ = some (.slice none 0 0) ∧ w'.cell? ⟨xb, 6, none⟩ = some (.pointer none) ∧ w'.cell? ⟨xb, 7, none⟩ = some (.string ⟨#[]⟩) ∧ w'.cell? ⟨xb, 8, none⟩ = some (.int .i64 0) ∧ w'.cell? ⟨xb, 9, none⟩ = some (.int .i64 0) ∧ w'.cell? ⟨xb, 10, none⟩ = some (.int .i64 0) ∧ w'.cell? ⟨xb, 11, none⟩ = some (.int .i64 0) ∧ Kept [nb] w1 w')
      ((try go_split_ands; refine (fun h : Kept [nb] w1 _ => ⟨h.cell D1.out BNE.out, h.cell D3.out BNE.out, h.cell D4.out BNE.out, h.cell D5.out BNE.out, h.cell D6.out BNE.out, h.cell D7.out BNE.out, h.cell D8.out BNE.out, h.cell D9.out BNE.out, h.cell D10.out BNE.out, h.cell D11.out BNE.out, h⟩) ?_; first | assumption | exact Kept.drew (by assumption) | exact Kept.alloc (by assumption) _ | exact Kept.setCell (by assumption) (Or.inl (by simp)) _ | exact (Kept.alloc (Kept.refl _ _) _).drew | exact (Kept.alloc ((Kept.refl _ _).setCell (Or.inl (by simp)) _) _).drew | exact ((Kept.alloc (Kept.refl _ _) _).drew).setCell (Or.inl (by simp)) _))
      (fail)
    all_goals
      have hp2 := part_base _ pb HEND.out.1
      obtain ⟨W2, hW2⟩ : ∃ W2, wAB w1 nb ob 74 xl fa fn fc = W2 := ⟨_, rfl⟩
      have hW3 := hW2
      unfold wAB at hW3
      rw [hW3]
      rw [hW2] at HEND hp2
      clear hW2 hW3 a0 a1 hn1 hz1
      go_wp2_with fail
      refine HEND.out.2.1.mono ?_
      rintro e w3 ⟨rfl, k3⟩
      have hres := HEND.out.2.2 w3 k3
      have HRES := Lib.hid hres; clear hres k3
      go_wp2_with fail
      go_end0
      exact ⟨rfl, HRES.out⟩
end Go.Proofs.YtaedhbpfmjiheaaFmt
