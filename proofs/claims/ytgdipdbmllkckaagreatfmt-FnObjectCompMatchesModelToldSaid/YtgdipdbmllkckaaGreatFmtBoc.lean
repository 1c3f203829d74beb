/- The contract of n008_142's zzBuildObjectComp. -/
import Derived.Test.YtgdipdbmllkckaaGreatFmtFx
import Derived.Test.YtgdipdbmllkckaaGreatFmtFzs

namespace Go.Proofs.YtgdipdbmllkckaaGreatFmt
attribute [local go_sem ↓] Go.wp_at_zero Go.wp_at_succ
open Go.ChangeShapes Go.WideShapes Go.ChangeAt Go.RowKit

theorem Tryz.infoOF : (Tryz.prog.info? 74).map (fun i => (i.zero, i.size, i.bytes)) = some (some (.agg #[.pointer none, .pointer none, .slice none 0 0, .slice none 0 0, .slice none 0 0, .slice none 0 0, .nilIface, .nilIface, .nilIface, .pointer none, .string ⟨#[]⟩, .int .i64 0, .int .i64 0, .int .i64 0, .int .i64 0, .int .i64 0, .int .i64 0, .bool false]), 18, 240) := by kernel_rfl
theorem Tryz.infoPL : (Tryz.prog.info? 68).map (fun i => (i.zero, i.size, i.bytes)) = some (some (.pointer none), 1, 8) := by kernel_rfl

def zF (s : FL) : FZ := (s.str, s.op, s.ot)
/-- The fields and the literals laid so far. -/
structure BS (w0 w : World) (k : Nat) (v u : Value) (fs : List FY) (zs : List FZ) : Prop where
  kw : Kept [] w0 w
  row : FRow w w0.heap.size v fs zs
  lits : OwnR 68 1 encLP w w0.heap.size u fs
  len : fs.length = k
theorem BS.mid {w0 w wa w5 : World} {k : Nat} {v u v5 : Value} {fs : List FY} {zs : List FZ} {f : FY} (h : BS w0 w k v u fs zs) (x : FX w wa f) (hk5 : Kept v.ownBlock.toList wa w5) (hn : OwnR 74 18 encF w5 w0.heap.size v5 (fs ++ [f])) :
    OwnR 68 1 encLP w5 w0.heap.size u fs ∧ Kept [] w0 w5 ∧ FRow w5 w0.heap.size v5 (fs ++ [f]) (zs ++ [(f.str, codes f.lop, codes f.lot)]) :=
  ⟨(h.lits.kept0 x.k).keptT hk5 (h.row.own.kept0 x.k).typ (by decide), (h.kw.trans x.k).then hk5 (fun g hg => Or.inr (h.row.own.blk (by simpa using hg)).1), h.row.add h.kw.size x hn hk5⟩
theorem BS.next {w0 w wa w5 wb w6 : World} {k : Nat} {v u v5 v6 : Value} {fs : List FY} {zs zs' : List FZ} {f : FY} (h : BS w0 w k v u fs zs) (x : FX w wa f) (hk5 : Kept v.ownBlock.toList wa w5) (hn : OwnR 74 18 encF w5 w0.heap.size v5 (fs ++ [f]))
    (q : Kept [] w5 wb) (hk6 : Kept u.ownBlock.toList wb w6) (hn6 : OwnR 68 1 encLP w6 w0.heap.size v6 (fs ++ [f])) (hz : zs ++ [(f.str, codes f.lop, codes f.lot)] = zs') : BS w0 w6 (k + 1) v5 v6 (fs ++ [f]) zs' := by
  obtain ⟨h1, h2, h3⟩ := h.mid x hk5 hn
  subst hz
  exact ⟨(h2.trans q).then hk6 (fun g hg => Or.inr (h.lits.blk (by simpa using hg)).1), (h3.kept0 q).keptL hk6 (h1.kept0 q).typ, hn6, by simp [h.len]⟩
theorem OwnR.some {α : Type} {T c : Nat} {enc : α → List Value} {w : World} {base : Nat} {v : Value} {l : List α} (h : OwnR T c enc w base v l) (h0 : 0 < l.length) : ∃ g cap, v = .slice (some ⟨g, 0, none⟩) l.length cap := by
  obtain ⟨a, cap, hv, _, _, hat⟩ := h.slice
  obtain ⟨g, rfl, _⟩ := hat 0 h0
  exact ⟨g, cap, hv⟩
theorem rg_block {w : World} {g : Nat} {vs : List Value} {t : TypeId} (h : w.heap[g]? = some (.cells vs.toArray t (0, 0))) : w.rangeAt g 0 vs := fun j v hv => by
  rw [Nat.zero_add, cell_of_block h]
  simpa using hv
theorem fld_at {w : World} {g : Nat} (hg : w.heap[g]? = some (.cells fld0 74 (0, 0))) (vs : List Value) (hl : vs.length = 18) (h1 : vs.toArray.all (·.oneCell') = true) :
    (storeCells ⟨g, 0, none⟩ vs).run Tryz.prog w = .ok () (w.setRow g vs.toArray) := by
  rw [run_storeCells_at Tryz.prog g 0 74 vs 0 fld0 w hg (by rw [hl]; decide) (fun v hv => (Array.all_eq_true_iff_forall_mem.1 h1) v (by simpa using hv)), hl]
  simp [fld0]
theorem wpList_hold {ops : Array Oper} {rest : List Oper} {op : Oper} {a : Act} {w : World} {Q : Exit → Act → World → Prop} (ty : TypeId) (x : Operand) (ho : op.op = .load ty x) (h : True → wpList Tryz.prog ops Q (op :: rest) a w) : wpList Tryz.prog ops Q (op :: rest) a w := (fun _ => h trivial) ho
theorem wpList_load_stop {ops : Array Oper} {rest : List Oper} {op : Oper} {a : Act} {w : World} {Q : Exit → Act → World → Prop} (hgd : op.guard = none) (ty : TypeId) (x : Operand) (ho : op.op = .load ty x)
    (b o : Nat) (hx : a.eval x = .pointer (some ⟨b, o, none⟩)) (cs : List Value) (d : TypeDesc) (hc : w.rangeAt b o cs) (hu : Tryz.prog.underlying ty = some d) (hd : d.isRow = true) (hi : (Tryz.prog.info? ty).map (·.size) = some cs.length)
    (h : ∀ z, z = Value.agg cs.toArray → wpList Tryz.prog ops Q rest (a.put op.dst z) w) : wpList Tryz.prog ops Q (op :: rest) a w :=
  wpList_load_mid hgd ty x ho b o hx cs d hc hu hd hi (h _ rfl)
/-- What zzBuildObjectComp hands over. -/
def BocTo (w : World) (zs : List FL) (ss : List SE) (zc : List ZE) (e : Ending) (w' : World) : Prop :=
  ∃ nb fb cap la lc fs, e = .returned (.tuple #[.pointer (some ⟨nb, 0, none⟩), .slice la fs.length lc]) ∧ ORd w' w.heap.size nb fb cap fs (zs.map zF) ss zc (fun g => (Value.slice la fs.length lc).ownBlock = some g) ∧ OwnR 68 1 encLP w' w.heap.size (.slice la fs.length lc) fs ∧ Kept [] w w'

set_option maxRecDepth 100000 in
set_option maxHeartbeats 8000000 in
theorem zzBuildObjectComp_any (w : World) (a : Option Addr) (len cap : Nat) (zs : List FL) (h : RdF w a len cap zs) (a1 : Option Addr) (len1 cap1 : Nat) (ss : List SE) (h1 : RdS w a1 len1 cap1 ss) (a2 : Option Addr) (len2 cap2 : Nat) (zc : List ZE) (h2 : RdZ w a2 len2 cap2 zc)
    (hlen : len ≤ 1048576) (hlen1 : len1 ≤ 1048576) (hpos : 0 < len1) (hlen2 : len2 ≤ 1048576) (gf : ∀ s ∈ zs, GoodF s) (sf : ∀ s ∈ zs, SmallF s) (gs : ∀ s ∈ ss, GoodSp s) (sm : ∀ s ∈ ss, SmallE s) (gc : GoodL zc) :
    Calls Tryz.prog 12 #[.slice a len cap, .slice a1 len1 cap1, .slice a2 len2 cap2] w (BocTo w zs ss zc) := by
  have hle := h.le
  have htop := h.top
  have hdl := h.len
  unfold maxLen at htop
  have HDL := Lib.hid hdl; clear hdl
  have HDL1 := Lib.hid h1.len
  have HDL2 := Lib.hid h2.len
  have H := Lib.hid h; clear h
  have H1 := Lib.hid h1; clear h1
  have H2 := Lib.hid h2; clear h2
  have GF := Lib.hid gf; clear gf
  have SF := Lib.hid sf; clear sf
  have GS := Lib.hid gs; clear gs
  have SM := Lib.hid sm; clear sm
  have GC := Lib.hid gc; clear gc
  obtain ⟨i0, hi, hz0, hz1, hz2⟩ := info_parts Tryz.infoOF
  have HI := Lib.hid hi; clear hi
  have HI0 := Lib.hid hz0; clear hz0
  have HI1 := Lib.hid hz1; clear hz1
  have HI2 := Lib.hid hz2; clear hz2
  obtain ⟨j0, hj, hy0, hy1, hy2⟩ := info_parts Tryz.infoPL
  have HJ := Lib.hid hj; clear hj
  have HJ0 := Lib.hid hy0; clear hy0
  have HJ1 := Lib.hid hy1; clear hy1
  have HJ2 := Lib.hid hy2; clear hy2
  obtain ⟨C, hC⟩ : ∃ C, w.heap.size = C := ⟨_, rfl⟩
  have HC := Lib.hid hC; clear hC
  obtain ⟨dd, hu1, hu2⟩ := Option.map_eq_some_iff.1 fld_row
  have HU1 := Lib.hid hu1; have HU2 := Lib.hid hu2; clear hu1 hu2
  go_enter Tryz.func12, Tryz.ntmps12
  go_wp2_with (at_make; refine wpList_make_own _ rfl _ _ 40 rfl w.heap.size 74 i0 _ 18 Tryz.underlying40 HI.out HI0.out HI1.out _ _ _ len rfl rfl rfl ?b2 ?b3 (Nat.le_refl _) ?_)
  case b2 => rw [HI2.out]; omega
  case b3 => unfold maxLen; omega
  intro w1 hown hgrow
  have hf0 : FRow w1 w.heap.size (.slice (some ⟨w.heap.size, 0, none⟩) 0 len) [] [] := FRow.nil _ _ hown
  have hb0 : Kept [] w w1 := (Kept.refl _ _).grown hgrow (by simp)
  clear hown hgrow
  have hs0 := hb0.size
  obtain ⟨fb0, hfb⟩ : ∃ fb0, w.heap.size = fb0 := ⟨_, rfl⟩
  have HF0 : Hid (FRow w1 w.heap.size (.slice (some ⟨fb0, 0, none⟩) 0 len) [] []) := Lib.hid (by rw [← hfb] at *; exact hf0)
  have HB0 := Lib.hid hb0
  rw [hfb]
  clear hf0 hb0 hfb
  go_wp2_with (at_make; refine wpList_make_own _ rfl _ _ 34 rfl w.heap.size 68 j0 _ 1 Tryz.underlying34 HJ.out HJ0.out HJ1.out _ _ _ len rfl rfl rfl ?b2 ?b3 hs0 ?_)
  case b2 => rw [HJ2.out]; omega
  case b3 => unfold maxLen; omega
  intro w2 hown hgrow
  have hb2 : Kept [] w1 w2 := (Kept.refl _ _).grown hgrow (by simp)
  have hst : BS w w2 0 (.slice (some ⟨fb0, 0, none⟩) 0 len) (.slice (some ⟨w1.heap.size, 0, none⟩) 0 len) [] [] := ⟨HB0.out.trans hb2, HF0.out.kept0 hb2, hown, rfl⟩
  have HST := Lib.hid hst; clear hst hown hgrow hb2 HB0 HF0
  obtain ⟨lb0, hlb⟩ : ∃ lb0, w1.heap.size = lb0 := ⟨_, rfl⟩
  rw [hlb] at HST ⊢
  clear hlb hs0
  go_wp2
  go_loopw [8, 9, 10] (fun v u i wr => ∃ (k fb cp : Nat) (la : Option Addr) (lc : Nat) (fs : List FY), k ≤ len ∧ i = .int .i64 k ∧ v = .slice (some ⟨fb, 0, none⟩) k cp ∧ u = .slice la k lc ∧ BS w wr k v u fs ((zs.map zF).take k)) (fun _ _ i _ => len - (intOf i).toNat)
  case atStart => exact ⟨0, fb0, len, some ⟨lb0, 0, none⟩, len, [], Nat.zero_le _, rfl, rfl, rfl, HST.out⟩
  case round =>
    clear HST
    obtain ⟨k, fb, cp, la, lc, fs, hk, rfl, rfl, rfl, hbs⟩ := hrel
    have HBS := Lib.hid hbs; clear hbs
    by_cases hlt : k < len
    · obtain ⟨b, o, s, sa1, sl1, sc1, sa2, sl2, sc2, hs, rfl, hbl, q0, q1, q2, r1, r2⟩ := (H.out.kept0 HBS.out.kw).fl k hlt
      have hsm := SF.out s (List.mem_of_getElem? hs)
      have hgd := GF.out s (List.mem_of_getElem? hs)
      have L1 : Hid (sl1 ≤ 1048576) := Lib.hid (by rw [← r1.len]; exact hsm.1)
      have L2 : Hid (sl2 ≤ 1048576) := Lib.hid (by rw [← r2.len]; exact hsm.2)
      have G1 := Lib.hid hgd.1
      have G2 := Lib.hid hgd.2
      have R1 := Lib.hid r1; clear r1
      have R2 := Lib.hid r2; clear r2
      have hsz : (zs.map zF)[k]? = some (zF s) := by rw [List.getElem?_map, hs]; rfl
      have HSZ := Lib.hid hsz
      clear hsz hsm hgd hs hbl
      have hcw : C ≤ wr.heap.size := by rw [← HC.out]; exact HBS.out.kw.size
      have HCW := Lib.hid hcw; clear hcw
      have HO : Hid (∀ w2 o', Kept [] wr w2 → OwnR 74 18 encF (w2.alloc o') C (.slice (some ⟨fb, 0, none⟩) k cp) fs) := Lib.hid (fun w2 o' q => by rw [← HC.out]; exact HBS.out.row.own.kept0 (q.alloc o'))
      have HBL : Hid (∀ w2 o', Kept [] wr w2 → C ≤ (w2.alloc o').heap.size) := Lib.hid (fun w2 o' q => Nat.le_trans HCW.out (q.alloc o').size)
      have H3 : Hid (fs.length + 1 ≤ maxLen) := Lib.hid (by rw [HBS.out.len]; unfold maxLen; omega)
      have H4 : Hid ((fs.length + 1) * 240 ≤ 140737488355328) := Lib.hid (by rw [HBS.out.len]; omega)
      have H5 : Hid ((fs.length + 1) * 8 ≤ 140737488355328) := Lib.hid (by rw [HBS.out.len]; omega)
      have i1 : (0 : Int) ≤ (k : Int) := by omega
      have i2 : (k : Int) < (len : Int) := by omega
      have hbne : b ∉ [fb] := fun hm => by
        obtain ⟨b', o', _, _, _, _, _, _, _, _, hx, hb', _⟩ := H.out.fl k hlt
        obtain ⟨rfl, rfl⟩ : b = b' ∧ o = o' := by simpa using hx
        have h1 := (HBS.out.row.own.blk (g := fb) rfl).1
        obtain rfl : b = fb := by simpa using hm
        omega
      have BNE := Lib.hid hbne; clear hbne
      have kr := (Kept.refl [fb] wr).drew
      have Q1 := Lib.hid q1
      have Q2 := Lib.hid q2
      obtain ⟨st, hst⟩ : ∃ st, s.str = st := ⟨_, rfl⟩
      rw [hst] at q0
      have HSTR := Lib.hid hst; clear hst
      cases st
      · have HZ : Hid (∀ lop lot, codes lop = s.op → codes lot = s.ot → (zs.map zF).take k ++ [(false, codes lop, codes lot)] = (zs.map zF).take (k + 1)) := Lib.hid (fun lop lot e1 e2 => by rw [take_snoc HSZ.out, e1, e2]; unfold zF; rw [HSTR.out])
        go_wp2_with fail
        go_region_held3 (fun w' => w'.cell? ⟨b, o + k * 3 + 1, none⟩ = some (.slice sa1 sl1 sc1) ∧ w'.cell? ⟨b, o + k * 3 + 2, none⟩ = some (.slice sa2 sl2 sc2) ∧ Kept [fb] wr w')
          ((try go_split_ands; refine (fun h : Kept [fb] wr _ => ⟨h.cell Q1.out BNE.out, h.cell Q2.out BNE.out, h⟩) ?_; first | assumption | exact FX4.out.k.mono (by simp) | exact P2.out.k.mono (by simp) | exact P1.out.k.mono (by simp) | exact ((FX4.out.k.alloc _).mono (by simp)).trans hk5 | exact (FX4.out.k.alloc _).mono (by simp)))
          (first
          | (go_at_call 23; have hp := P1.out; clear hp; refine (zzBuild_any _ sa2 sl2 sc2 s.ot (R2.out.kept0 P1.out.k) G2.out L2.out).mono ?_; rintro e w3 ⟨v3, m3, rfl, f3, hm3, k3⟩; obtain ⟨ta, tn, tc, rfl⟩ := f3.isSlice; have P2 : Hid (PB2 wr w3 (.slice oa on oc) m2 (.slice ta tn tc) m3) := Lib.hid (P1.out.two (Kept.refl _ _) f3 k3); have HM3 := Lib.hid hm3; clear hm3 f3 k3)
          | (go_at_call 23; refine (zzBuild_any _ sa1 sl1 sc1 s.op (R1.out.kept0 (Kept.refl _ _).drew) G1.out L1.out).mono ?_; rintro e w2 ⟨v2, m2, rfl, f2, hm2, k2⟩; obtain ⟨oa, on, oc, rfl⟩ := f2.isSlice; have P1 : Hid (PB1 wr w2 (.slice oa on oc) m2) := Lib.hid (PB1.of (Kept.refl _ _).drew f2 k2); have HM2 := Lib.hid hm2; clear hm2 f2 k2)
          | (go_at_call 24; refine (newIDField_any _ oa on oc ta tn tc).mono ?_; rintro e w4 ⟨d, idp, he, hn, hd, k4⟩; have he' := he 0 m2 m3; clear he; obtain rfl := he'; have FX4 : Hid (FX wr w4 ⟨false, 0, d, idp, (oa, on, oc), m2, (ta, tn, tc), m3⟩) := Lib.hid (PB2.id (op := (oa, on, oc)) (ot := (ta, tn, tc)) P2.out (Kept.refl _ _) k4 hn hd 0 idp); clear hn hd k4; unfold encF; simp only [Bool.false_eq_true, if_false, Trip.val])
          | ((refine step_push (T := 74) (c := 18) (enc := encF) (by rfl) _ _ 40 (by rfl) C i0 _ 240 Tryz.underlying40 HI.out HI0.out HI1.out HI2.out rfl (by decide) encF_len encF_one (.slice (some ⟨fb, 0, none⟩) k cp) fs (by rfl) (HO.out w4 _ FX4.out.k) w4.heap.size ⟨false, 0, d, idp, (oa, on, oc), m2, (ta, tn, tc), m3⟩ 1 _ (by rfl) (heap_alloc_new w4 _) rfl H3.out H4.out (HBL.out w4 _ FX4.out.k) ?_; intro v5 w5 hown5 hk5)))
        all_goals
          have hown5' : OwnR 74 18 encF w5 w.heap.size v5 (fs ++ [⟨false, 0, d, idp, (oa, on, oc), m2, (ta, tn, tc), m3⟩]) := by rw [HC.out]; exact hown5
          have fxa := FX4.out.kept ((Kept.refl [] w4).alloc (.cells (encF ⟨false, 0, d, idp, (oa, on, oc), m2, (ta, tn, tc), m3⟩).toArray 74))
          have hmid := HBS.out.mid fxa hk5 hown5'
          have FXA := Lib.hid fxa; have HK5 := Lib.hid hk5; have HN5 := Lib.hid hown5'; clear fxa hk5 hown5 hown5'
          have HOL : Hid (∀ o', OwnR 68 1 encLP (w5.alloc o') C (.slice la k lc) fs) := Lib.hid (fun o' => by rw [← HC.out]; exact hmid.1.kept0 ((Kept.refl _ _).alloc o'))
          have HBL5 : Hid (∀ o', C ≤ (w5.alloc o').heap.size) := Lib.hid (fun o' => by rw [← HC.out]; exact (hmid.2.1.alloc o').size)
          clear hmid
          go_wp2_with (first
            | (at_builtin; refine wpList_push (T := 68) (c := 1) (enc := encLP) rfl _ _ 34 rfl C j0 _ 8 Tryz.underlying34 HJ.out HJ0.out HJ1.out HJ2.out rfl (by decide) encLP_len encLP_one (.slice la k lc) fs rfl (HOL.out _) w5.heap.size ⟨false, 0, d, idp, (oa, on, oc), m2, (ta, tn, tc), m3⟩ 1 _ rfl (heap_alloc_new w5 _) rfl H3.out H5.out (HBL5.out _) ?_)
            | fail)
          intro v6 w6 hown6 hk6
          have hown6' : OwnR 68 1 encLP w6 w.heap.size v6 (fs ++ [⟨false, 0, d, idp, (oa, on, oc), m2, (ta, tn, tc), m3⟩]) := by rw [HC.out]; exact hown6
          have hnx := HBS.out.next FXA.out HK5.out HN5.out ((Kept.refl [] w5).alloc _) hk6 hown6' (HZ.out _ _ HM2.out HM3.out)
          obtain ⟨fb5, cp5, hv5⟩ := HN5.out.some (by simp)
          obtain ⟨fb6, cp6, hv6⟩ := hown6.some (by simp)
          rw [List.length_append, List.length_singleton, HBS.out.len] at hv5 hv6
          subst hv5 hv6
          have HNX := Lib.hid hnx; clear hnx hown6 hown6' hk6
          go_wp2_with fail
          exact ⟨⟨k + 1, fb5, cp5, some ⟨fb6, 0, none⟩, cp6, _, by omega, by go_num, rfl, rfl, HNX.out⟩, by simp [intOf]; omega⟩
      · have HZ : Hid (∀ lop lot, codes lop = s.op → codes lot = s.ot → (zs.map zF).take k ++ [(true, codes lop, codes lot)] = (zs.map zF).take (k + 1)) := Lib.hid (fun lop lot e1 e2 => by rw [take_snoc HSZ.out, e1, e2]; unfold zF; rw [HSTR.out])
        go_wp2_with fail
        go_region_held3 (fun w' => w'.cell? ⟨b, o + k * 3 + 1, none⟩ = some (.slice sa1 sl1 sc1) ∧ w'.cell? ⟨b, o + k * 3 + 2, none⟩ = some (.slice sa2 sl2 sc2) ∧ Kept [fb] wr w')
          ((try go_split_ands; refine (fun h : Kept [fb] wr _ => ⟨h.cell Q1.out BNE.out, h.cell Q2.out BNE.out, h⟩) ?_; first | assumption | exact FX4.out.k.mono (by simp) | exact P2.out.k.mono (by simp) | exact P1.out.k.mono (by simp) | exact Kept.alloc (by assumption) _ | exact Kept.drew (by assumption) | exact (FX4.out.k.alloc _).mono (by simp) | exact (P2.out.k.alloc _).mono (by simp) | exact (P1.out.k.alloc _).mono (by simp) | exact ((Kept.refl _ _).alloc _).drew | exact (FX4.out.k.mono (by simp)).setRow (Or.inr (by first | exact Nat.le_refl _ | exact P1.out.k.size | exact P2.out.k.size)) _))
          (first
          | (go_at_call 23; have hp := P1.out; clear hp; refine (zzBuild_any _ sa2 sl2 sc2 s.ot (R2.out.kept0 (by first | exact P1.out.k | exact P1.out.k.alloc _)) G2.out L2.out).mono ?_; rintro e w3 ⟨v3, m3, rfl, f3, hm3, k3⟩; obtain ⟨ta, tn, tc, rfl⟩ := f3.isSlice; have P2 : Hid (PB2 wr w3 (.slice oa on oc) m2 (.slice ta tn tc) m3) := Lib.hid (P1.out.two (by first | exact Kept.refl _ _ | exact (Kept.refl _ _).alloc _) f3 k3); have HM3 := Lib.hid hm3; (try have X3 : Hid (w3.heap[wr.heap.size]? = some (.cells fld0 74 (0, 0))) := Lib.hid (k3.heap X2.out (by simp))); (try have X3 : Hid (w3.heap[w2.heap.size]? = some (.cells fld0 74 (0, 0))) := Lib.hid (k3.heap (heap_alloc_new w2 _) (by simp))); clear hm3 f3 k3)
          | (go_at_call 23; refine (zzBuild_any _ sa1 sl1 sc1 s.op (R1.out.kept0 (by first | exact (Kept.refl _ _).drew | exact ((Kept.refl _ _).alloc _).drew | exact (Kept.refl _ _).drew.alloc _)) G1.out L1.out).mono ?_; rintro e w2 ⟨v2, m2, rfl, f2, hm2, k2⟩; obtain ⟨oa, on, oc, rfl⟩ := f2.isSlice; have P1 : Hid (PB1 wr w2 (.slice oa on oc) m2) := Lib.hid (PB1.of (by first | exact (Kept.refl _ _).drew | exact ((Kept.refl _ _).alloc _).drew | exact (Kept.refl _ _).drew.alloc _) f2 k2); have HM2 := Lib.hid hm2; (try have X2 : Hid (w2.heap[wr.heap.size]? = some (.cells fld0 74 (0, 0))) := Lib.hid (k2.heap (heap_alloc_new wr _) (by simp))); clear hm2 f2 k2)
          | (go_at_call 22; refine (newStrField_any _ oa on oc ta tn tc).mono ?_; rintro e w4 ⟨y, d, he, hn, hd, hl, hy, k4⟩; have he' := he m2 m3; clear he; obtain rfl := he'; have FX4 : Hid (FX wr w4 ⟨true, y, d, none, (oa, on, oc), m2, (ta, tn, tc), m3⟩) := Lib.hid (PB2.str (op := (oa, on, oc)) (ot := (ta, tn, tc)) P2.out (by first | exact Kept.refl _ _ | exact (Kept.refl _ _).alloc _) k4 hn hd hl hy none); (try have X4 : Hid (w4.heap[wr.heap.size]? = some (.cells fld0 74 (0, 0))) := Lib.hid (k4.heap X3.out (by simp))); (try have X4 : Hid (w4.heap[w2.heap.size]? = some (.cells fld0 74 (0, 0))) := Lib.hid (k4.heap X3.out (by simp))); (try have X4 : Hid (w4.heap[w3.heap.size]? = some (.cells fld0 74 (0, 0))) := Lib.hid (k4.heap (heap_alloc_new w3 _) (by simp))); clear hn hd hl hy k4; obtain ⟨vs, hvs⟩ : ∃ vs, encF ⟨true, y, d, none, (oa, on, oc), m2, (ta, tn, tc), m3⟩ = vs := ⟨_, rfl⟩; rw [hvs]; have hl18 : vs.length = 18 := (by rw [← hvs]; rfl); have hone : vs.toArray.all (·.oneCell') = true := (by rw [← hvs]; exact fld_one _); have hst0 := run_storeCells_fld w4 vs hl18 hone; (try have hst1 := fld_at X4.out vs hl18 hone); have HVS := Lib.hid hvs; have HL18 := Lib.hid hl18; clear hvs hl18 hone)
          )
        all_goals
          first
          | (obtain ⟨wq, hwq⟩ : ∃ wq, w4.alloc (.cells vs.toArray 74) = wq := ⟨_, rfl⟩; have hq := FX4.out.allocAt vs.toArray; rw [hwq] at hq ⊢; clear hwq)
          | (obtain ⟨wq, hwq⟩ : ∃ wq, w4.setRow wr.heap.size vs.toArray = wq := ⟨_, rfl⟩; have hq := FX4.out.storeAt X4.out (Nat.le_refl _) vs.toArray; rw [hwq] at hq ⊢; clear hwq)
          | (obtain ⟨wq, hwq⟩ : ∃ wq, w4.setRow w2.heap.size vs.toArray = wq := ⟨_, rfl⟩; have hq := FX4.out.storeAt X4.out P1.out.k.size vs.toArray; rw [hwq] at hq ⊢; clear hwq)
          | (obtain ⟨wq, hwq⟩ : ∃ wq, w4.setRow w3.heap.size vs.toArray = wq := ⟨_, rfl⟩; have hq := FX4.out.storeAt X4.out P2.out.k.size vs.toArray; rw [hwq] at hq ⊢; clear hwq)
          have FQ := Lib.hid hq.1
          have XG := Lib.hid (rg_block hq.2)
          clear hq hst0
          try clear hst1
          try clear X2
          try clear X3
          try clear X4
          clear FX4 P1 P2
          go_wp2_with (refine wpList_hold 74 _ rfl ?_)
          intro _
          refine wpList_load_stop rfl 74 _ rfl _ 0 rfl vs dd XG.out HU1.out HU2.out (by rw [HL18.out]; exact fld_size) ?_
          intro z hz
          have hz2 : z = .agg #[.pointer none, .pointer none, .slice none 0 0, .slice none 0 0, .slice ta tn tc, .slice none 0 0, litS y, nulI d, .nilIface, .pointer none, .string ⟨#[]⟩, .int .i64 0, .int .i64 0, .int .i64 0, .int .i64 0, .int .i64 3, .int .i64 1, .bool false] := by rw [hz, ← HVS.out]; rfl
          clear hz
          subst hz2
          go_wp2_with (first
            | (at_builtin; refine wpList_push (T := 74) (c := 18) (enc := encF) rfl _ _ 40 rfl C i0 _ 240 Tryz.underlying40 HI.out HI0.out HI1.out HI2.out rfl (by decide) encF_len encF_one (.slice (some ⟨fb, 0, none⟩) k cp) fs rfl (HO.out wq _ FQ.out.k) wq.heap.size ⟨true, y, d, none, (oa, on, oc), m2, (ta, tn, tc), m3⟩ 1 _ rfl (heap_alloc_new wq _) rfl H3.out H4.out (HBL.out wq _ FQ.out.k) ?_)
            | fail)
          intro v5 w5 hown5 hk5
          have hown5' : OwnR 74 18 encF w5 w.heap.size v5 (fs ++ [⟨true, y, d, none, (oa, on, oc), m2, (ta, tn, tc), m3⟩]) := by rw [HC.out]; exact hown5
          have fxa := FQ.out.kept ((Kept.refl [] wq).alloc (.cells (encF ⟨true, y, d, none, (oa, on, oc), m2, (ta, tn, tc), m3⟩).toArray 74))
          have hmid := HBS.out.mid fxa hk5 hown5'
          have FXA := Lib.hid fxa; have HK5 := Lib.hid hk5; have HN5 := Lib.hid hown5'; clear fxa hk5 hown5 hown5'
          have HOL : Hid (∀ o', OwnR 68 1 encLP (w5.alloc o') C (.slice la k lc) fs) := Lib.hid (fun o' => by rw [← HC.out]; exact hmid.1.kept0 ((Kept.refl _ _).alloc o'))
          have HBL5 : Hid (∀ o', C ≤ (w5.alloc o').heap.size) := Lib.hid (fun o' => by rw [← HC.out]; exact (hmid.2.1.alloc o').size)
          clear hmid FQ XG HL18 HVS
          go_wp2_with (first
            | (at_builtin; refine wpList_push (T := 68) (c := 1) (enc := encLP) rfl _ _ 34 rfl C j0 _ 8 Tryz.underlying34 HJ.out HJ0.out HJ1.out HJ2.out rfl (by decide) encLP_len encLP_one (.slice la k lc) fs rfl (HOL.out _) w5.heap.size ⟨true, y, d, none, (oa, on, oc), m2, (ta, tn, tc), m3⟩ 1 _ rfl (heap_alloc_new w5 _) rfl H3.out H5.out (HBL5.out _) ?_)
            | fail)
          intro v6 w6 hown6 hk6
          have hown6' : OwnR 68 1 encLP w6 w.heap.size v6 (fs ++ [⟨true, y, d, none, (oa, on, oc), m2, (ta, tn, tc), m3⟩]) := by rw [HC.out]; exact hown6
          have hnx := HBS.out.next FXA.out HK5.out HN5.out ((Kept.refl [] w5).alloc _) hk6 hown6' (HZ.out _ _ HM2.out HM3.out)
          obtain ⟨fb5, cp5, hv5⟩ := HN5.out.some (by simp)
          obtain ⟨fb6, cp6, hv6⟩ := hown6.some (by simp)
          rw [List.length_append, List.length_singleton, HBS.out.len] at hv5 hv6
          subst hv5 hv6
          have HNX := Lib.hid hnx; clear hnx hown6 hown6' hk6
          go_wp2_with fail
          exact ⟨⟨k + 1, fb5, cp5, some ⟨fb6, 0, none⟩, cp6, _, by omega, by go_num, rfl, rfl, HNX.out⟩, by simp [intOf]; omega⟩
    · obtain rfl : k = len := by omega
      have hzl : (zs.map zF).take k = zs.map zF := by rw [List.take_of_length_le (by rw [List.length_map, HDL.out]; exact Nat.le_refl _)]
      have hfl := HBS.out.len
      have hcap : fs.length ≤ cp ∧ cp ≤ maxLen ∧ fs.length ≤ 1048576 := by
        obtain ⟨a', cp', hv, hc1, hc2, -⟩ := HBS.out.row.own.slice
        injection hv with e1 e2 e3
        subst e3
        exact ⟨hc1, hc2, by rw [hfl]; exact hlen⟩
      have hrow : FRow wr w.heap.size (.slice (some ⟨fb, 0, none⟩) fs.length cp) fs (zs.map zF) := by
        rw [hfl, ← hzl]; exact HBS.out.row
      have hlit : OwnR 68 1 encLP wr w.heap.size (.slice la fs.length lc) fs := by rw [hfl]; exact HBS.out.lits
      have HROW := Lib.hid hrow; clear hrow hzl
      have HLIT := Lib.hid hlit; clear hlit
      have HCAP := Lib.hid hcap; clear hcap
      have HFL := Lib.hid hfl; clear hfl
      go_wp2_with fail
      refine (zzBuildSpec_any _ a1 len1 cap1 ss (H1.out.kept0 HBS.out.kw) hlen1 hpos GS.out SM.out).mono ?_
      intro e wi hch
      obtain ⟨va, vn, vc, ca, cm, cc, po, x, rfl, khi⟩ : ∃ va vn vc ca cm cc po x, e = .returned (.agg (lvlOf va vn vc ca cm cc po x)) ∧ Kept [] wr wi := by
        obtain ⟨P, v, l, e1, hr, _, k⟩ := hch
        obtain ⟨va, vn, vc, po, _, _, e2⟩ := lvl_of hr (ss.length - 1) (by rw [HDL1.out]; omega)
        exact ⟨va, vn, vc, _, _, _, po, _, by rw [e1, e2], k⟩
      have HCH := Lib.hid hch; clear hch
      have KHI := Lib.hid khi; clear khi
      unfold lvlOf
      go_wp2_with fail
      refine (zzBuild_any _ a2 len2 cap2 zc (H2.out.kept0 (HBS.out.kw.trans KHI.out)) GC.out hlen2).mono ?_
      rintro e wj ⟨u2, m2, rfl, f2, c2, kij⟩
      obtain ⟨ka, kn, kc, rfl⟩ := f2.isSlice
      have F2 := Lib.hid f2; clear f2
      have C2 := Lib.hid c2; clear c2
      have KIJ := Lib.hid kij; clear kij
      have hnew := newObjectComp_any wj (some ⟨fb, 0, none⟩) k cp va vn vc ca cm cc po x ka kn kc
      unfold lvlOf at hnew
      have HNEW := Lib.hid hnew; clear hnew
      go_wp2_with fail
      refine HNEW.out.mono ?_
      rintro e wk ⟨nb, rfl, hnb, kjk, hblk⟩
      rw [← HFL.out] at hblk
      obtain ⟨_, _, _, _, _, _, _, _, e1, -, hard⟩ := ord_of HROW.out HBS.out.kw.size HCAP.out HCH.out KIJ.out F2.out C2.out (by rw [HDL1.out]; exact hpos) (by rw [HDL1.out]; exact hlen1) GS.out SM.out (fun z hz => by
        obtain ⟨s, hs, rfl⟩ := List.mem_map.1 hz
        exact ⟨⟨(GF.out s hs).1, (SF.out s hs).1⟩, (GF.out s hs).2, (SF.out s hs).2⟩) GC.out (by rw [HDL2.out]; exact hlen2) (fun g => (Value.slice la fs.length lc).ownBlock = some g) (fun g hg => ⟨HLIT.out.typ g (by simpa using hg), (HLIT.out.blk hg).1⟩)
      have e1' := e1
      unfold lvlOf at e1'
      injection e1' with e1'
      injection e1' with e1'
      simp only [Array.mk.injEq, List.cons.injEq, Value.slice.injEq, Value.pointer.injEq, Value.iface.injEq, true_and, and_true, Option.some.injEq, Addr.mk.injEq] at e1'
      obtain ⟨⟨rfl, rfl, rfl⟩, ⟨rfl, rfl, rfl⟩, rfl, rfl⟩ := e1'
      have ho := hard wk nb kjk hnb hblk
      have HA := Lib.hid ho; clear ho hard e1 hblk HNEW HCH
      have KK := Lib.hid ((KHI.out.trans KIJ.out).trans kjk); clear kjk hnb
      go_wp2_with fail
      go_ret2
      exact ⟨nb, fb, cp, la, lc, fs, (by rw [HFL.out]; rfl), HA.out, HLIT.out.kept0 KK.out, HBS.out.kw.trans KK.out⟩
end Go.Proofs.YtgdipdbmllkckaaGreatFmt
