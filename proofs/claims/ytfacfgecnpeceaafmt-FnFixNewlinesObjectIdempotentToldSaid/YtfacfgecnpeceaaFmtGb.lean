/- The contract of n008_124's zzBuildObject. -/
import Derived.Test.YtfacfgecnpeceaaFmtGs
import Derived.Test.YtfacfgecnpeceaaFmtGi
import Derived.Deep.RegionHeld3
import Derived.Deep.DrawnRows
import Derived.Laws.Tables
namespace Go.Proofs.YtfacfgecnpeceaaFmt
open Go.ChangeShapes Go.WideShapes Go.ChangeAt Go.RowKit

/-- Instr.build under a name that the walk doesn't open: the struct's cells come by the rules bld_.. below. -/
def bldM (t : TypeId) (parts : Array (Nat × Value)) := Instr.build t parts
theorem bldM_of (t : TypeId) (parts : Array (Nat × Value)) : Instr.build t parts = bldM t parts := rfl
theorem bld_var (w : World) (s : ByteArray) : (bldM 63 #[(0, .string s)]).run Tryf.prog w = .ok (.agg #[.string s, .slice none 0 0, .pointer none, .slice none 0 0, .pointer none, .string ⟨#[]⟩, .int .i64 0, .int .i64 0, .int .i64 0, .int .i64 0]) w := run_build w _ _ _ (by kernel_rfl)
theorem bld_lit (w : World) (s : ByteArray) (k : Int) : (bldM 67 #[(0, .string s), (4, .int .i64 k)]).run Tryf.prog w = .ok (.agg #[.string s, .string ⟨#[]⟩, .string ⟨#[]⟩, .slice none 0 0, .pointer none, .slice none 0 0, .pointer none, .string ⟨#[]⟩, .int .i64 0, .int .i64 0, .int .i64 0, .int .i64 0, .int .i64 k]) w := run_build w _ _ _ (by kernel_rfl)
theorem bld_obj (w : World) (a : Option Addr) (n c : Nat) (a2 : Option Addr) (n2 c2 : Nat) : (bldM 53 #[(0, .slice a n c), (1, .slice a2 n2 c2)]).run Tryf.prog w = .ok (.agg #[.slice a n c, .slice a2 n2 c2, .slice none 0 0, .pointer none, .slice none 0 0, .pointer none, .string ⟨#[]⟩, .int .i64 0, .int .i64 0, .int .i64 0, .int .i64 0, .bool false]) w := run_build w _ _ _ (by kernel_rfl)
theorem bld_f1 (w : World) (ip : Option Addr) (d : Nat) (a : Option Addr) (n c : Nat) (a2 : Option Addr) (n2 c2 : Nat) :
    (bldM 76 #[(10, .int .i64 1), (1, .pointer ip), (7, .iface 60 (.pointer (some ⟨d, 0, none⟩))), (3, .slice a n c), (2, .slice a2 n2 c2)]).run Tryf.prog w = .ok (.agg (encG ⟨1, 0, d, ip, (a, n, c), [], (a2, n2, c2), []⟩).toArray) w := run_build w _ _ _ (by kernel_rfl)
theorem bld_f2 (w : World) (y : Nat) (d : Nat) (a : Option Addr) (n c : Nat) (a2 : Option Addr) (n2 c2 : Nat) :
    (bldM 76 #[(10, .int .i64 2), (6, .iface 60 (.pointer (some ⟨y, 0, none⟩))), (7, .iface 60 (.pointer (some ⟨d, 0, none⟩))), (3, .slice a n c), (2, .slice a2 n2 c2)]).run Tryf.prog w = .ok (.agg (encG ⟨2, y, d, none, (a, n, c), [], (a2, n2, c2), []⟩).toArray) w := run_build w _ _ _ (by kernel_rfl)
theorem bld_f3 (w : World) (y : Nat) (d : Nat) (a2 : Option Addr) (n2 c2 : Nat) :
    (bldM 76 #[(10, .int .i64 3), (6, .iface 64 (.pointer (some ⟨y, 0, none⟩))), (7, .iface 60 (.pointer (some ⟨d, 0, none⟩))), (3, .slice a2 n2 c2)]).run Tryf.prog w = .ok (.agg (encG ⟨3, y, d, none, (none, 0, 0), [], (a2, n2, c2), []⟩).toArray) w := run_build w _ _ _ (by kernel_rfl)
theorem run_storeCells_G {w : World} {fb o : Nat} (f : GY) (ht : w.there fb o 18) : (storeCells ⟨fb, o, none⟩ (encG f)).run Tryf.prog w = .ok () (w.setCells fb o (encG f)) := by
  have := run_storeCells_cells (P := Tryf.prog) fb o (encG f) 0 w (fun j hj => by simpa using (ht j (by rw [encG_len] at hj; exact hj)).1) (fun j hj => by simpa using (ht j (by rw [encG_len] at hj; exact hj)).2) (encG_one f)
  simpa using this
theorem made_ptr (n : Nat) : (madeCells #[.pointer none] n).toList = List.replicate n (.pointer none) := by
  apply List.ext_getElem?
  intro j
  simp only [madeCells, Array.toList_map, List.getElem?_map, Array.toList_range]
  by_cases hj : j < n
  · rw [List.getElem?_range hj, List.getElem?_replicate, if_pos hj]
    simp [Nat.mod_one]
  · rw [List.getElem?_eq_none (by simp; omega), List.getElem?_eq_none (by simp; omega)]
    rfl

/-- Fodders that were laid behind w0. -/
structure PB1 (w0 w : World) (v : Value) (l : List FE) : Prop where
  k : Kept [] w0 w
  f : Fod w w0.heap.size v l
  n : Kinds l ∧ l.length ≤ 1048576
theorem GF.of {w0 w1 w2 w3 : World} {f : GY} (k01 : Kept [] w0 w1) (p1 : PB1 w1 w2 f.op.val f.lop) (p2 : PB1 w2 w3 f.ot.val f.lot) (hk : f.kd = 1 ∨ f.kd = 2 ∨ f.kd = 3) (hd : VarT w3 f.d ∧ w0.heap.size ≤ f.d) (h2 : f.kd = 2 → VarT w3 f.y ∧ w0.heap.size ≤ f.y) (h3 : f.kd = 3 → LitT w3 f.y f.op.val ∧ w0.heap.size ≤ f.y) : GF w3 w0.heap.size f where
  kds := hk
  d := hd
  y2 := h2
  y3 := h3
  fo := fun b => by
    cases b
    · exact (p1.f.kept p2.k (by simp)).low k01.size
    · exact p2.f.low (k01.trans p1.k).size
  dj := fun g h e => by
    have h1 := (World.ownsRow.lt p1.f g h).2
    have h2 := (World.ownsRow.lt p2.f g e).1
    omega
  kn := fun b => by
    cases b
    · exact p1.n
    · exact p2.n

theorem Tryf.infoOF : (Tryf.prog.info? 76).map (fun i => (i.zero, i.size, i.bytes)) = some (some (.agg #[.pointer none, .pointer none, .slice none 0 0, .slice none 0 0, .slice none 0 0, .slice none 0 0, .nilIface, .nilIface, .nilIface, .pointer none, .string ⟨#[]⟩, .int .i64 0, .int .i64 0, .int .i64 0, .int .i64 0, .int .i64 0, .int .i64 0, .bool false]), 18, 240) := by kernel_rfl
theorem Tryf.infoPL : (Tryf.prog.info? 64).map (fun i => (i.zero, i.size, i.bytes)) = some (some (.pointer none), 1, 8) := by kernel_rfl

attribute [local go_sem ↓] bldM_of
attribute [local go_sem] bld_var bld_lit bld_obj
attribute [local go_sem ↓] Go.wp_at_zero Go.wp_at_succ

/-- What zzBuildObject hands over. -/
def GbTo (w : World) (n : Nat) (e : Ending) (w' : World) : Prop :=
  ∃ ob fb lb fs u m, fs.length = n ∧ e = .returned (.tuple #[.pointer (some ⟨ob, 0, none⟩), .slice (some ⟨lb, 0, none⟩) n n]) ∧ OB w' w.heap.size ob (gsOf fs fb) (gQ fs fb lb ob) (gV fs u) (gL fs m) ∧ (∀ x, gI (gsOf fs fb) x → Kinds (gL fs m x) ∧ (gL fs m x).length ≤ 1048576) ∧
    (∀ j, j < n → w'.cell? ⟨lb, j, none⟩ = some (.pointer (if (fs.getD j default).kd = 3 then some ⟨(fs.getD j default).y, 0, none⟩ else none))) ∧ (∀ x, gI (gsOf fs fb) x → (gp (gsOf fs fb) ob x).1 ≠ lb) ∧ Kept [] w w'

set_option maxRecDepth 100000 in
set_option maxHeartbeats 8000000 in
theorem zzBuildObject_any (w : World) (a : Option Addr) (len cap : Nat) (ds : List GR) (a2 : Option Addr) (len2 cap2 : Nat) (d2 : List ZE) (h : IsG w a len cap ds) (h2 : IsZ w a2 len2 cap2 d2) (hg : GoodG len ds) (hg2 : GoodZ len2 d2) (hlen : len ≤ 1048576) (hlen2 : len2 ≤ 1048576) (hs : SmallG len ds) :
    Calls Tryf.prog 9 #[.slice a len cap, .slice a2 len2 cap2] w (GbTo w len) := by
  have hle := h.le
  have htop := h.top
  unfold maxLen at htop
  have H := Lib.hid h; clear h
  have H2 := Lib.hid h2; clear h2
  have HG := Lib.hid hg; clear hg
  have HG2 := Lib.hid hg2; clear hg2
  have HS := Lib.hid hs; clear hs
  obtain ⟨i0, hi, hz0, hz1, hz2⟩ := info_parts Tryf.infoOF
  have HI := Lib.hid hi; clear hi
  have HI0 := Lib.hid hz0; clear hz0
  have HI1 := Lib.hid hz1; clear hz1
  have HI2 := Lib.hid hz2; clear hz2
  obtain ⟨j0, hj, hy0, hy1, hy2⟩ := info_parts Tryf.infoPL
  have HJ := Lib.hid hj; clear hj
  have HJ0 := Lib.hid hy0; clear hy0
  have HJ1 := Lib.hid hy1; clear hy1
  have HJ2 := Lib.hid hy2; clear hy2
  go_enter Tryf.func9, Tryf.ntmps9
  go_wp2_with (at_make; refine wpList_make_full _ rfl _ _ 30 rfl w.heap.size 64 j0 _ 1 Tryf.underlying30 HJ.out HJ0.out HJ1.out _ _ _ _ len rfl rfl rfl rfl ?b2 ?b3 (Nat.le_refl _) ?_)
  case b2 => rw [HJ2.out]; omega
  case b3 => unfold maxLen; omega
  intro w1 hown hgrow
  have hb0 : Kept [] w w1 := (Kept.refl _ _).grown hgrow (by simp)
  have hs0 := hb0.size
  have hlb := (World.ownsRow.lt hown w.heap.size rfl)
  have hl1 : ∀ j, j < len → w1.cell? ⟨w.heap.size, j, none⟩ = some (.pointer none) := fun j hj => by
    have := World.ownsRow.cells hown (g := w.heap.size) rfl j (.pointer none) (by rw [made_ptr, List.getElem?_replicate, if_pos hj])
    rwa [add_off, Nat.zero_add] at this
  have hf1 : ∀ j, w1.frozen? ⟨w.heap.size, j, none⟩ = false := fun j => World.ownsRow.frozenAt hown j
  have HL1 := Lib.hid hl1; have HF1 := Lib.hid hf1; have HLB := Lib.hid hlb; have HB0 := Lib.hid hb0
  clear hown hgrow hl1 hf1 hlb hb0
  obtain ⟨lb, hlbe⟩ : ∃ lb, w.heap.size = lb := ⟨_, rfl⟩
  have HLBE := Lib.hid hlbe
  rw [hlbe]
  clear hlbe
  go_wp2_with (at_make; refine wpList_make_full _ rfl _ _ 40 rfl w.heap.size 76 i0 _ 18 Tryf.underlying40 HI.out HI0.out HI1.out _ _ _ _ len rfl rfl rfl rfl ?b2 ?b3 hs0 ?_)
  case b2 => rw [HI2.out]; omega
  case b3 => unfold maxLen; omega
  intro w2 hown2 hgrow2
  have hb2 : Kept [] w1 w2 := (Kept.refl _ _).grown hgrow2 (by simp)
  have hgr : GRow w2 w.heap.size w2.heap.size w1.heap.size lb len [] := by
    have h1 := HLB.out.2
    have h2 := hb2.size
    have h3 := (World.ownsRow.lt hown2 w1.heap.size rfl).2
    have hl0 := HLBE.out
    have hk : ∀ j, j < len → w2.cell? ⟨lb, j, none⟩ = some (.pointer none) := fun j hj => by
      rw [← hl0]; exact hb2.cell (HL1.out j hj) (by simp)
    exact {
      bf := ⟨hs0, h3⟩
      bl := ⟨by omega, by omega⟩
      ne := by omega
      sz := Nat.le_refl _
      le := Nat.zero_le _
      th := fun j hj => by
        have hl := hown2.1
        have := World.ownsRow.cells hown2 (g := w1.heap.size) rfl j _ (List.getElem?_eq_getElem (by rw [hl]; exact hj))
        rw [add_off, Nat.zero_add] at this
        rw [Nat.zero_add]
        exact ⟨by rw [this]; rfl, World.ownsRow.frozenAt hown2 j⟩
      cells := fun j f hf => by simp at hf
      lth := fun j hj => by
        rw [Nat.zero_add]
        refine ⟨by rw [hk j hj]; rfl, ?_⟩
        have := HF1.out j
        rw [hl0] at this
        exact (hb2.frozen (p := ⟨lb, j, none⟩) (by dsimp only; omega) (by simp)).trans this
      lits := fun j hj => by rw [hk j hj]; simp
      gf := fun j f hf => by simp at hf
      yi := fun i j f g hf => by simp at hf
      dj := fun i j f g a b hf => by simp at hf }
  obtain ⟨C, hC⟩ : ∃ C, w2.heap.size = C := ⟨_, rfl⟩
  obtain ⟨fb, hfb⟩ : ∃ fb, w1.heap.size = fb := ⟨_, rfl⟩
  rw [hC, hfb] at hgr
  rw [hfb]
  have HGR0 := Lib.hid hgr; have HB2 := Lib.hid (HB0.out.trans hb2)
  clear hgr hown2 hgrow2 hb2 hC hfb hs0 HL1 HF1 HLB
  go_wp2
  go_loopw [8] (fun i wr => ∃ (k : Nat) (fs : List GY), k ≤ len ∧ i = .int .i64 k ∧ fs.length = k ∧ GRow wr w.heap.size C fb lb len fs ∧ Kept [] w wr) (fun i _ => len - (intOf i).toNat)
  case atStart => exact ⟨0, [], Nat.zero_le _, rfl, rfl, HGR0.out, HB2.out⟩
  case round =>
    clear HGR0 HB2
    obtain ⟨k, fs, hk, rfl, hfl, hgr, hb⟩ := hrel
    have HB := Lib.hid hb; clear hb
    have HGR := Lib.hid hgr; clear hgr
    have HFL := Lib.hid hfl; clear hfl
    by_cases hlt : k < len
    · obtain ⟨b0, o0, s0, hs0, hx0, hb00, -, -, -, -, r20⟩ := H.out.fl k hlt
      obtain ⟨b, o, s, hsx, rfl, hbl, q0, q1, q2, r1, r2⟩ := (H.out.kept HB.out (by simp)).fl k hlt
      obtain ⟨rfl, rfl⟩ : b = b0 ∧ o = o0 := by simpa using hx0
      rw [hsx] at hs0
      obtain rfl : s = s0 := by simpa using hs0
      have R20 := Lib.hid r20; clear r20 hs0
      have BFB : Hid (b ∉ [fb]) := Lib.hid (by simp; have := HGR.out.bf.1; omega)
      have BLB : Hid (b ∉ [lb]) := Lib.hid (by simp; have := HGR.out.bl.1; omega)
      clear hx0 hb00 hbl
      have hgd := HG.out k s hlt hsx
      have hsm := HS.out k s hlt hsx
      have G1 := Lib.hid hgd.1; have G2 := Lib.hid hgd.2; have S1 := Lib.hid hsm.1; have S2 := Lib.hid hsm.2
      have R1 := Lib.hid r1; have R2 := Lib.hid r2; have Q1 := Lib.hid q1; have Q2 := Lib.hid q2
      have THR : Hid (∀ w3, Kept [] wr w3 → w3.there fb (k * 18) 18) := Lib.hid (fun w3 q j hj => by
        have := (HGR.out.kept q).th (k * 18 + j) (by omega)
        rwa [Nat.zero_add] at this)
      clear hgd hsm r1 r2 hsx
      have i1 : (0 : Int) ≤ (k : Int) := by omega
      have i2 : (k : Int) < (len : Int) := by omega
      go_wp2_with fail
      refine (zzMode_any _ s.k).mono ?_
      rintro e w' ⟨rfl, rfl⟩
      have hmd := md_cases s.k
      obtain ⟨M, hM⟩ : ∃ M, md s.k = M := ⟨_, rfl⟩
      rw [hM] at hmd ⊢
      clear hM q0
      rcases hmd with rfl | rfl | rfl
      · skip
        go_wp2_with fail
        obtain ⟨W, hW⟩ : ∃ W, (wr.alloc (.cells #[.string ⟨#[118]⟩, .slice none 0 0, .pointer none, .slice none 0 0, .pointer none, .string ⟨#[]⟩, .int .i64 0, .int .i64 0, .int .i64 0, .int .i64 0] 63)).alloc (.cells #[.string ⟨#[107]⟩] 61) = W := ⟨_, rfl⟩
        have XD : Hid (VarT W wr.heap.size) := Lib.hid (by rw [← hW]; exact ⟨_, _, ((Kept.refl [] _).alloc _).heap (heap_alloc_new wr _) (by simp)⟩)
        have KW : Hid (Kept [] wr W) := Lib.hid (by rw [← hW]; exact ((Kept.refl _ _).alloc _).alloc _)
        rw [hW]
        clear hW
        have BNE : Hid (b ∉ [fb]) := BFB
        go_region_held3 (fun w' => w'.cell? ⟨b, o + k * 3 + 1, none⟩ = some (.slice s.op.a s.op.l s.op.c) ∧ w'.cell? ⟨b, o + k * 3 + 2, none⟩ = some (.slice s.ot.a s.ot.l s.ot.c) ∧ Kept [fb] wr w')
          ((try go_split_ands; refine (fun h : Kept [fb] wr _ => ⟨h.cell Q1.out BNE.out, h.cell Q2.out BNE.out, h⟩) ?_; first | assumption | exact (KW.out.drew).mono (by simp) | exact ((KW.out.trans P1.out.k).trans P2.out.k).setCells _ _ _ | exact ((KW.out.trans P1.out.k).trans P2.out.k).mono (by simp) | exact (KW.out.trans P1.out.k).mono (by simp)))
          (first
          | (go_at_call 16; have hp := P1.out; clear hp; refine (zzToFodder_any _ _ _ _ _ (R2.out.kept (KW.out.trans P1.out.k) (by simp)) G2.out S2.out).mono ?_; rintro e w3 ⟨v3, m3, rfl, f3, bz3, k3⟩; obtain ⟨ta, tn, tc, rfl⟩ := f3.isSlice; have P2 : Hid (PB1 w2 w3 (.slice ta tn tc) m3) := Lib.hid ⟨k3, f3, bz3.kinds, by rw [bz3.len]; exact S2.out⟩; have hst := run_storeCells_G (fb := fb) (o := k * 18) ⟨1, 0, wr.heap.size, some ⟨wr.heap.size + 1, 0, none⟩, (oa, on, oc), [], (ta, tn, tc), []⟩ (THR.out w3 ((KW.out.trans P1.out.k).trans k3)); have hbld := (fun w => bld_f1 w (some ⟨wr.heap.size + 1, 0, none⟩) wr.heap.size oa on oc ta tn tc); obtain ⟨vs, hvs⟩ : ∃ vs, encG ⟨1, 0, wr.heap.size, some ⟨wr.heap.size + 1, 0, none⟩, (oa, on, oc), [], (ta, tn, tc), []⟩ = vs := ⟨_, rfl⟩; rw [hvs] at hst hbld; have hsz18 : vs.length = 18 := (by rw [← hvs]; rfl); have HVS := Lib.hid hvs; clear hvs f3 bz3 k3)
          | (go_at_call 16; refine (zzToFodder_any _ _ _ _ _ (R1.out.kept KW.out.drew (by simp)) G1.out S1.out).mono ?_; rintro e w2 ⟨v2, m2, rfl, f2, bz2, k2⟩; obtain ⟨oa, on, oc, rfl⟩ := f2.isSlice; have P1 : Hid (PB1 W w2 (.slice oa on oc) m2) := Lib.hid ⟨(Kept.refl [] W).drew.trans k2, f2, bz2.kinds, by rw [bz2.len]; exact S1.out⟩; clear f2 bz2 k2))
        all_goals
          clear hst hbld hsz18
          have hvv := HVS.out
          subst hvv
          clear HVS
          have K3 := Lib.hid ((KW.out.trans P1.out.k).trans P2.out.k)
          have hgf : GF w3 wr.heap.size ⟨1, 0, wr.heap.size, some ⟨wr.heap.size + 1, 0, none⟩, (oa, on, oc), m2, (ta, tn, tc), m3⟩ := GF.of (f := ⟨1, 0, wr.heap.size, some ⟨wr.heap.size + 1, 0, none⟩, (oa, on, oc), m2, (ta, tn, tc), m3⟩) KW.out P1.out P2.out (by dsimp only; omega) ⟨XD.out.kept (P1.out.k.trans P2.out.k) (by simp), Nat.le_refl _⟩ (fun h => by dsimp only at h; omega) (fun h => by dsimp only at h; omega)
          have hstep := HGR.out.step (f := ⟨1, 0, wr.heap.size, some ⟨wr.heap.size + 1, 0, none⟩, (oa, on, oc), m2, (ta, tn, tc), m3⟩) (by rw [HFL.out]; exact hlt) (K3.out.mono (by simp)) hgf (fun j _ => World.cell?_of_block (K3.out.block lb (by have := HGR.out.bl.2; have := HGR.out.sz; omega) (by simp)))
            (by rw [K3.out.cell (HGR.out.lits fs.length (by rw [HFL.out]; exact hlt)) (by simp), List.getElem?_eq_none (Nat.le_refl _)]; rfl) (fun j => World.frozen?_of_block (K3.out.block lb (by have := HGR.out.bl.2; have := HGR.out.sz; omega) (by simp)))
          rw [HFL.out] at hstep
          have hkk : Kept [] w (w3.setCells fb (k * 18) (encG ⟨1, 0, wr.heap.size, some ⟨wr.heap.size + 1, 0, none⟩, (oa, on, oc), m2, (ta, tn, tc), m3⟩)) := ((HB.out.trans K3.out).setCells fb (k * 18) (encG ⟨1, 0, wr.heap.size, some ⟨wr.heap.size + 1, 0, none⟩, (oa, on, oc), m2, (ta, tn, tc), m3⟩)).mono (fun g hg => Or.inr (by rw [List.mem_singleton.1 hg]; exact HGR.out.bf.1))
          have HST := Lib.hid hstep; have HKK := Lib.hid hkk; clear hstep hkk hgf
          go_wp2_with fail
          exact ⟨⟨k + 1, _, by omega, by go_num, by rw [List.length_append, HFL.out]; rfl, HST.out, HKK.out⟩, by simp [intOf]; omega⟩
      · have a1 := fun o1 o2 => ((((Kept.refl [] wr).alloc o1).alloc o2).cell Q1.out (by simp))
        go_wp2_with fail
        clear a1
        obtain ⟨W, hW⟩ : ∃ W, (wr.alloc (.cells #[.string ⟨#[118]⟩, .slice none 0 0, .pointer none, .slice none 0 0, .pointer none, .string ⟨#[]⟩, .int .i64 0, .int .i64 0, .int .i64 0, .int .i64 0] 63)).alloc (.cells #[.string ⟨#[107]⟩, .string ⟨#[]⟩, .string ⟨#[]⟩, .slice none 0 0, .pointer none, .slice none 0 0, .pointer none, .string ⟨#[]⟩, .int .i64 0, .int .i64 0, .int .i64 0, .int .i64 0, .int .i64 1] 67) = W := ⟨_, rfl⟩
        have XD : Hid (VarT W wr.heap.size) := Lib.hid (by rw [← hW]; exact ⟨_, _, ((Kept.refl [] _).alloc _).heap (heap_alloc_new wr _) (by simp)⟩)
        have XL : Hid (W.heap[wr.heap.size + 1]? = some (.cells #[.string ⟨#[107]⟩, .string ⟨#[]⟩, .string ⟨#[]⟩, .slice none 0 0, .pointer none, .slice none 0 0, .pointer none, .string ⟨#[]⟩, .int .i64 0, .int .i64 0, .int .i64 0, .int .i64 0, .int .i64 1] 67 (0, 0))) := Lib.hid (by
          rw [← hW]
          have := heap_alloc_new (wr.alloc (.cells #[.string ⟨#[118]⟩, .slice none 0 0, .pointer none, .slice none 0 0, .pointer none, .string ⟨#[]⟩, .int .i64 0, .int .i64 0, .int .i64 0, .int .i64 0] 63)) (.cells #[.string ⟨#[107]⟩, .string ⟨#[]⟩, .string ⟨#[]⟩, .slice none 0 0, .pointer none, .slice none 0 0, .pointer none, .string ⟨#[]⟩, .int .i64 0, .int .i64 0, .int .i64 0, .int .i64 0, .int .i64 1] 67)
          rw [World.size_alloc] at this
          exact this)
        have KW : Hid (Kept [] wr W) := Lib.hid (by rw [← hW]; exact ((Kept.refl _ _).alloc _).alloc _)
        rw [hW]
        clear hW
        refine (zzToFodder_any _ _ _ _ _ (R1.out.kept KW.out (by simp)) G1.out S1.out).mono ?_
        rintro e w2 ⟨v2, m2, rfl, f2, bz2, k2⟩
        obtain ⟨oa, on, oc, rfl⟩ := f2.isSlice
        have P1 : Hid (PB1 W w2 (.slice oa on oc) m2) := Lib.hid ⟨k2, f2, bz2.kinds, by rw [bz2.len]; exact S1.out⟩
        have xl2 := k2.heap XL.out (by simp)
        have gr2 := HGR.out.kept (KW.out.trans k2)
        have e3 : w2.cell? ⟨wr.heap.size + 1, 3, none⟩ = some (.slice none 0 0) := cell_of_block xl2 3
        have z3 := frozen_of_block xl2 3
        have hsC := HGR.out.sz
        have hbl2 := HGR.out.bl.2
        have nel : lb ≠ wr.heap.size + 1 := by omega
        have nel' : wr.heap.size + 1 ≠ lb := by omega
        have hk' : k < len := hlt
        obtain ⟨W2, hW2⟩ : ∃ W2, (w2.setCell ⟨wr.heap.size + 1, 3, none⟩ (.slice oa on oc)).setCell ⟨lb, k, none⟩ (.pointer (some ⟨wr.heap.size + 1, 0, none⟩)) = W2 := ⟨_, rfl⟩
        have l2 : w2.cell? ⟨lb, k, none⟩ = some (.pointer none) := by
          have := gr2.lits k hlt
          rw [List.getElem?_eq_none (by rw [HFL.out]; exact Nat.le_refl _)] at this
          exact this
        have el : (w2.setCell ⟨wr.heap.size + 1, 3, none⟩ (.slice oa on oc)).cell? ⟨lb, k, none⟩ = w2.cell? ⟨lb, k, none⟩ := World.cell?_setCell_other _ _ _ _ (fun e => nel' (congrArg Addr.block e))
        have el2 := el.trans l2
        have zl2 : (w2.setCell ⟨wr.heap.size + 1, 3, none⟩ (.slice oa on oc)).frozen? ⟨lb, k, none⟩ = false := by
          rw [World.frozen?_setCell]
          have := (gr2.lth k hlt).2
          rwa [Nat.zero_add] at this
        have KL : Kept [wr.heap.size + 1, lb] w2 W2 := by rw [← hW2]; exact ((Kept.refl _ _).setCell (Or.inl (by simp)) _).setCell (Or.inl (by simp)) _
        have kw2 : Kept [lb] wr w2 := (KW.out.trans k2).mono (by simp)
        have K12 : Kept [lb] wr W2 := kw2.then KL (fun g hg => by
          simp only [List.mem_cons, List.not_mem_nil, or_false] at hg
          rcases hg with rfl | rfl
          · exact Or.inr (by omega)
          · exact Or.inl (by simp))
        have LIT2 : LitT W2 (wr.heap.size + 1) (.slice oa on oc) := by
          rw [← hW2]
          have h1 := setCell_eq_setRow w2 (wr.heap.size + 1) 3 _ _ _ (.slice oa on oc) xl2
          have h2 := setRow_heap w2 (wr.heap.size + 1) _ (#[.string ⟨#[107]⟩, .string ⟨#[]⟩, .string ⟨#[]⟩, .slice none 0 0, .pointer none, .slice none 0 0, .pointer none, .string ⟨#[]⟩, .int .i64 0, .int .i64 0, .int .i64 0, .int .i64 0, .int .i64 1].setIfInBounds 3 (.slice oa on oc)) _ _ xl2
          rw [← h1] at h2
          have h3 : ((w2.setCell ⟨wr.heap.size + 1, 3, none⟩ (.slice oa on oc)).setCell ⟨lb, k, none⟩ (.pointer (some ⟨wr.heap.size + 1, 0, none⟩))).heap[wr.heap.size + 1]? = (w2.setCell ⟨wr.heap.size + 1, 3, none⟩ (.slice oa on oc)).heap[wr.heap.size + 1]? := Below.heap_setCell _ _ _ _ nel'
          exact ⟨_, _, _, _, h3.trans h2⟩
        have LC2 : W2.cell? ⟨lb, k, none⟩ = some (.pointer (some ⟨wr.heap.size + 1, 0, none⟩)) := by rw [← hW2]; exact World.cell?_setCell_same _ _ _ el2
        have LO2 : ∀ j, j ≠ k → W2.cell? ⟨lb, j, none⟩ = wr.cell? ⟨lb, j, none⟩ := fun j hj => by
          rw [← hW2, World.cell?_setCell_other _ _ _ _ (fun e => hj (congrArg Addr.off e).symm), World.cell?_setCell_other _ _ _ _ (fun e => nel' (congrArg Addr.block e))]
          exact World.cell?_of_block ((KW.out.trans k2).block lb (by omega) (by simp))
        have LZ2 : ∀ j, W2.frozen? ⟨lb, j, none⟩ = wr.frozen? ⟨lb, j, none⟩ := fun j => by
          rw [← hW2, World.frozen?_setCell, World.frozen?_setCell]
          exact World.frozen?_of_block ((KW.out.trans k2).block lb (by omega) (by simp))
        have q2' := K12.cell Q2.out BLB.out
        rw [← hW2] at q2'
        have HK12 := Lib.hid K12; have HLIT := Lib.hid LIT2; have HLC := Lib.hid LC2; have HLO := Lib.hid LO2; have HLZ := Lib.hid LZ2; have HKL := Lib.hid KL; have HW2 := Lib.hid hW2
        clear f2 bz2 k2 xl2 gr2 K12 LIT2 LC2 LO2 LZ2 KL l2 el hW2 q1 q2
        go_wp2_with fail
        rw [HW2.out]
        refine (zzToFodder_any _ _ _ _ _ (R20.out.kept (HB.out.then HK12.out (T := [lb]) (fun g hg => Or.inr (by rw [List.mem_singleton.1 hg]; exact HGR.out.bl.1))) (by simp)) G2.out S2.out).mono ?_
        rintro e w3 ⟨v3, m3, rfl, f3, bz3, k3⟩
        obtain ⟨ta, tn, tc, rfl⟩ := f3.isSlice
        have KL3 : Kept [lb] wr w3 := HK12.out.trans (k3.mono (by simp))
        have hthr : w3.there fb (k * 18) 18 := fun j hj => by
          obtain ⟨t1, t2⟩ := THR.out wr (Kept.refl _ _) j hj
          obtain ⟨u, hu⟩ := Option.isSome_iff_exists.1 t1
          have nfl : fb ∉ [lb] := by simp; exact HGR.out.ne
          exact ⟨by rw [KL3.cell hu nfl]; rfl, (KL3.frozen (World.block_lt_of_cell? wr _ hu) nfl).trans t2⟩
        have hst := run_storeCells_G (fb := fb) (o := k * 18) ⟨3, wr.heap.size + 1, wr.heap.size, none, (none, 0, 0), [], (ta, tn, tc), []⟩ hthr
        have hbld := (fun w => bld_f3 w (wr.heap.size + 1) wr.heap.size ta tn tc)
        obtain ⟨vs, hvs⟩ : ∃ vs, encG ⟨3, wr.heap.size + 1, wr.heap.size, none, (none, 0, 0), [], (ta, tn, tc), []⟩ = vs := ⟨_, rfl⟩
        rw [hvs] at hst hbld
        have hsz18 : vs.length = 18 := by rw [← hvs]; rfl
        have HVS := Lib.hid hvs
        have hgf : GF w3 wr.heap.size ⟨3, wr.heap.size + 1, wr.heap.size, none, (oa, on, oc), m2, (ta, tn, tc), m3⟩ := {
          kds := Or.inr (Or.inr rfl)
          d := ⟨(XD.out.kept P1.out.k (by simp)).kept (HKL.out.trans (k3.mono (by simp))) (by simp; omega), Nat.le_refl _⟩
          y2 := fun h => by dsimp only at h; omega
          y3 := fun _ => ⟨HLIT.out.kept k3 (by simp), by dsimp only; omega⟩
          fo := fun b => by
            cases b
            · exact ((P1.out.f.kept (HKL.out.trans (k3.mono (by simp))) (fun g hg hm => by
                have h1 := (World.ownsRow.lt P1.out.f g hg).1
                have h2 := (Array.getElem?_eq_some_iff.1 XL.out).1
                simp at hm
                omega)).low KW.out.size)
            · exact f3.low HK12.out.size
          dj := fun g h e => by
            have h1 := (World.ownsRow.lt P1.out.f g h).2
            have h2 := (World.ownsRow.lt f3 g e).1
            have h3 := HKL.out.size
            omega
          kn := fun b => by
            cases b
            · exact P1.out.n
            · exact ⟨bz3.kinds, by show m3.length ≤ 1048576; rw [bz3.len]; exact S2.out⟩ }
        have hstep := HGR.out.step (f := ⟨3, wr.heap.size + 1, wr.heap.size, none, (oa, on, oc), m2, (ta, tn, tc), m3⟩) (by rw [HFL.out]; exact hlt) KL3 hgf (fun j hj => (World.cell?_of_block (k3.block lb (by have := HK12.out.size; omega) (by simp))).trans (HLO.out j (by rw [HFL.out] at hj; exact hj)))
          (by rw [HFL.out]; exact k3.cell HLC.out (by simp)) (fun j => (World.frozen?_of_block (k3.block lb (by have := HK12.out.size; omega) (by simp))).trans (HLZ.out j))
        rw [HFL.out] at hstep
        have hkw3 : Kept [] w w3 := HB.out.then KL3 (fun g hg => Or.inr (by rw [List.mem_singleton.1 hg]; exact HGR.out.bl.1))
        have hkk : Kept [] w (w3.setCells fb (k * 18) (encG ⟨3, wr.heap.size + 1, wr.heap.size, none, (oa, on, oc), m2, (ta, tn, tc), m3⟩)) := (hkw3.setCells fb (k * 18) (encG ⟨3, wr.heap.size + 1, wr.heap.size, none, (oa, on, oc), m2, (ta, tn, tc), m3⟩)).mono (fun g hg => Or.inr (by rw [List.mem_singleton.1 hg]; exact HGR.out.bf.1))
        have hvy : encG ⟨3, wr.heap.size + 1, wr.heap.size, none, (oa, on, oc), m2, (ta, tn, tc), m3⟩ = vs := by rw [← hvs]; rfl
        rw [hvy] at hstep hkk
        have HSTP := Lib.hid hstep; have HKK := Lib.hid hkk
        clear hstep hkk hgf hkw3 hvs hvy hthr KL3 f3 bz3 k3
        go_wp2_with fail
        exact ⟨⟨k + 1, _, by omega, by go_num, by rw [List.length_append, HFL.out]; rfl, HSTP.out, HKK.out⟩, by simp [intOf]; omega⟩
      · skip
        go_wp2_with fail
        obtain ⟨W, hW⟩ : ∃ W, (wr.alloc (.cells #[.string ⟨#[118]⟩, .slice none 0 0, .pointer none, .slice none 0 0, .pointer none, .string ⟨#[]⟩, .int .i64 0, .int .i64 0, .int .i64 0, .int .i64 0] 63)).alloc (.cells #[.string ⟨#[107]⟩, .slice none 0 0, .pointer none, .slice none 0 0, .pointer none, .string ⟨#[]⟩, .int .i64 0, .int .i64 0, .int .i64 0, .int .i64 0] 63) = W := ⟨_, rfl⟩
        have XD : Hid (VarT W wr.heap.size) := Lib.hid (by rw [← hW]; exact ⟨_, _, ((Kept.refl [] _).alloc _).heap (heap_alloc_new wr _) (by simp)⟩)
        have XY : Hid (VarT W (wr.heap.size + 1)) := Lib.hid (by
          rw [← hW]
          have := heap_alloc_new (wr.alloc (.cells #[.string ⟨#[118]⟩, .slice none 0 0, .pointer none, .slice none 0 0, .pointer none, .string ⟨#[]⟩, .int .i64 0, .int .i64 0, .int .i64 0, .int .i64 0] 63)) (.cells #[.string ⟨#[107]⟩, .slice none 0 0, .pointer none, .slice none 0 0, .pointer none, .string ⟨#[]⟩, .int .i64 0, .int .i64 0, .int .i64 0, .int .i64 0] 63)
          rw [World.size_alloc] at this
          exact ⟨_, _, this⟩)
        have KW : Hid (Kept [] wr W) := Lib.hid (by rw [← hW]; exact ((Kept.refl _ _).alloc _).alloc _)
        rw [hW]
        clear hW
        have BNE : Hid (b ∉ [fb]) := BFB
        go_region_held3 (fun w' => w'.cell? ⟨b, o + k * 3 + 1, none⟩ = some (.slice s.op.a s.op.l s.op.c) ∧ w'.cell? ⟨b, o + k * 3 + 2, none⟩ = some (.slice s.ot.a s.ot.l s.ot.c) ∧ Kept [fb] wr w')
          ((try go_split_ands; refine (fun h : Kept [fb] wr _ => ⟨h.cell Q1.out BNE.out, h.cell Q2.out BNE.out, h⟩) ?_; first | assumption | exact (KW.out.drew).mono (by simp) | exact ((KW.out.trans P1.out.k).trans P2.out.k).setCells _ _ _ | exact ((KW.out.trans P1.out.k).trans P2.out.k).mono (by simp) | exact (KW.out.trans P1.out.k).mono (by simp)))
          (first
          | (go_at_call 16; have hp := P1.out; clear hp; refine (zzToFodder_any _ _ _ _ _ (R2.out.kept (KW.out.trans P1.out.k) (by simp)) G2.out S2.out).mono ?_; rintro e w3 ⟨v3, m3, rfl, f3, bz3, k3⟩; obtain ⟨ta, tn, tc, rfl⟩ := f3.isSlice; have P2 : Hid (PB1 w2 w3 (.slice ta tn tc) m3) := Lib.hid ⟨k3, f3, bz3.kinds, by rw [bz3.len]; exact S2.out⟩; have hst := run_storeCells_G (fb := fb) (o := k * 18) ⟨2, wr.heap.size + 1, wr.heap.size, none, (oa, on, oc), [], (ta, tn, tc), []⟩ (THR.out w3 ((KW.out.trans P1.out.k).trans k3)); have hbld := (fun w => bld_f2 w (wr.heap.size + 1) wr.heap.size oa on oc ta tn tc); obtain ⟨vs, hvs⟩ : ∃ vs, encG ⟨2, wr.heap.size + 1, wr.heap.size, none, (oa, on, oc), [], (ta, tn, tc), []⟩ = vs := ⟨_, rfl⟩; rw [hvs] at hst hbld; have hsz18 : vs.length = 18 := (by rw [← hvs]; rfl); have HVS := Lib.hid hvs; clear hvs f3 bz3 k3)
          | (go_at_call 16; refine (zzToFodder_any _ _ _ _ _ (R1.out.kept KW.out.drew (by simp)) G1.out S1.out).mono ?_; rintro e w2 ⟨v2, m2, rfl, f2, bz2, k2⟩; obtain ⟨oa, on, oc, rfl⟩ := f2.isSlice; have P1 : Hid (PB1 W w2 (.slice oa on oc) m2) := Lib.hid ⟨(Kept.refl [] W).drew.trans k2, f2, bz2.kinds, by rw [bz2.len]; exact S1.out⟩; clear f2 bz2 k2))
        all_goals
          clear hst hbld hsz18
          have hvv := HVS.out
          subst hvv
          clear HVS
          have K3 := Lib.hid ((KW.out.trans P1.out.k).trans P2.out.k)
          have hgf : GF w3 wr.heap.size ⟨2, wr.heap.size + 1, wr.heap.size, none, (oa, on, oc), m2, (ta, tn, tc), m3⟩ := GF.of (f := ⟨2, wr.heap.size + 1, wr.heap.size, none, (oa, on, oc), m2, (ta, tn, tc), m3⟩) KW.out P1.out P2.out (by dsimp only; omega) ⟨XD.out.kept (P1.out.k.trans P2.out.k) (by simp), Nat.le_refl _⟩ (fun _ => ⟨XY.out.kept (P1.out.k.trans P2.out.k) (by simp), by dsimp only; omega⟩) (fun h => by dsimp only at h; omega)
          have hstep := HGR.out.step (f := ⟨2, wr.heap.size + 1, wr.heap.size, none, (oa, on, oc), m2, (ta, tn, tc), m3⟩) (by rw [HFL.out]; exact hlt) (K3.out.mono (by simp)) hgf (fun j _ => World.cell?_of_block (K3.out.block lb (by have := HGR.out.bl.2; have := HGR.out.sz; omega) (by simp)))
            (by rw [K3.out.cell (HGR.out.lits fs.length (by rw [HFL.out]; exact hlt)) (by simp), List.getElem?_eq_none (Nat.le_refl _)]; rfl) (fun j => World.frozen?_of_block (K3.out.block lb (by have := HGR.out.bl.2; have := HGR.out.sz; omega) (by simp)))
          rw [HFL.out] at hstep
          have hkk : Kept [] w (w3.setCells fb (k * 18) (encG ⟨2, wr.heap.size + 1, wr.heap.size, none, (oa, on, oc), m2, (ta, tn, tc), m3⟩)) := ((HB.out.trans K3.out).setCells fb (k * 18) (encG ⟨2, wr.heap.size + 1, wr.heap.size, none, (oa, on, oc), m2, (ta, tn, tc), m3⟩)).mono (fun g hg => Or.inr (by rw [List.mem_singleton.1 hg]; exact HGR.out.bf.1))
          have HST := Lib.hid hstep; have HKK := Lib.hid hkk; clear hstep hkk hgf
          go_wp2_with fail
          exact ⟨⟨k + 1, _, by omega, by go_num, by rw [List.length_append, HFL.out]; rfl, HST.out, HKK.out⟩, by simp [intOf]; omega⟩
    · obtain rfl : k = len := by omega
      go_wp2_with fail
      refine (zzToFodder_any _ _ _ _ _ (H2.out.kept HB.out (by simp)) HG2.out hlen2).mono ?_
      rintro e w3 ⟨v3, m3, rfl, f3, bz3, k3⟩
      obtain ⟨ta, tn, tc, rfl⟩ := f3.isSlice
      have KN : Hid (Kinds m3 ∧ m3.length ≤ 1048576) := Lib.hid ⟨bz3.kinds, by rw [bz3.len]; exact hlen2⟩
      have F3 := Lib.hid f3; have K3 := Lib.hid k3; clear f3 k3 bz3
      go_wp2_with fail
      go_ret2
      have hfl := HFL.out
      subst hfl
      have KA : Kept [] w3 (w3.alloc (.cells #[.slice (some ⟨fb, 0, none⟩) fs.length fs.length, .slice ta tn tc, .slice none 0 0, .pointer none, .slice none 0 0, .pointer none, .string ⟨#[]⟩, .int .i64 0, .int .i64 0, .int .i64 0, .int .i64 0, .bool false] 53)) := (Kept.refl _ _).alloc _
      have GR2 := (HGR.out.kept K3.out).kept KA
      have s1 := HGR.out.sz
      have s2 := K3.out.size
      have s3 := HGR.out.bl.2
      refine ⟨w3.heap.size, fb, lb, fs, .slice ta tn tc, m3, rfl, rfl, ob_of HGR.out K3.out F3.out KA hlen (Nat.le_refl _) (rest := [.slice none 0 0, .pointer none, .slice none 0 0, .pointer none, .string ⟨#[]⟩, .int .i64 0, .int .i64 0, .int .i64 0, .int .i64 0, .bool false]) (heap_alloc_new w3 _), fun x hx => ?_, fun j hj => ?_, fun x hx => ?_, (HB.out.trans K3.out).trans KA⟩
      · rcases gpos fs fb w3.heap.size (.slice ta tn tc) m3 hx with ⟨-, -, -, e⟩ | ⟨f, hf, -, -, -, e, -⟩
        · rw [e]; exact KN.out
        · rw [e]; exact (HGR.out.gf _ f hf).kn _
      · obtain ⟨f, hf, hg⟩ := getG (fs := fs) hj
        have := GR2.lits j hj
        rw [hf] at this
        rw [hg]
        exact this
      · rcases gpos fs fb w3.heap.size (.slice ta tn tc) m3 hx with ⟨-, e, -, -⟩ | ⟨f, hf, -, -, -, -, hc⟩
        · rw [e]; dsimp only; omega
        · rcases hc with ⟨kd, -, e⟩ | ⟨-, -, e⟩ | ⟨-, -, e⟩ | ⟨-, -, e⟩ <;> rw [e] <;> dsimp only
          · have := ((HGR.out.gf _ f hf).y3 kd).2
            omega
          · exact HGR.out.ne
          · exact HGR.out.ne
          · exact HGR.out.ne
end Go.Proofs.YtfacfgecnpeceaaFmt
