/- The contract of n008_124's zzToFodder: the fodder built of the codes. -/
import Derived.Test.YtfacfgecnpeceaaFmtZ4f
import Derived.Test.YtfacfgecnpeceaaFmtPut
import Derived.WalkSpells
namespace Go.Proofs.YtfacfgecnpeceaaFmt
open Go.ChangeShapes Go.WideShapes Go.ChangeAt Go.RowKit

/-- Element e is built of z. -/
def LikeZ (e : FE) (z : ZE) : Prop := e.k = md z.k ∧ e.b = z.b ∧ e.i = z.i ∧ (e.cl : Int) = z.c
/-- The first m elements of l are built of ds; all are of a known kind. -/
structure BuiltZ (len m : Nat) (ds : List ZE) (l : List FE) : Prop where
  len : l.length = len
  like : ∀ (j : Nat) e z, j < m → l[j]? = some e → ds[j]? = some z → LikeZ e z
  kinds : Kinds l
theorem BuiltZ.zero (len : Nat) (ds : List ZE) : BuiltZ len 0 ds (List.replicate len FE.zero) :=
  ⟨by simp, fun j e z hj => by omega, fun e he => by obtain ⟨_, rfl⟩ := List.mem_replicate.1 he; exact Or.inl rfl⟩
theorem BuiltZ.step {len m : Nat} {ds : List ZE} {l : List FE} (h : BuiltZ len m ds l) (e : FE) (z : ZE) (hz : ds[m]? = some z) (he : LikeZ e z) : BuiltZ len (m + 1) ds (l.set m e) := by
  refine ⟨by rw [List.length_set]; exact h.len, fun j x y hj hx hy => ?_, fun x hx => ?_⟩
  · rw [List.getElem?_set] at hx
    by_cases hjm : m = j
    · subst hjm
      rw [if_pos rfl] at hx
      rw [hz] at hy
      obtain rfl : z = y := by simpa using hy
      split at hx
      · obtain rfl : e = x := by simpa using hx
        exact he
      · cases hx
    · rw [if_neg hjm] at hx
      exact h.like j x y (by omega) hx hy
  · rcases List.mem_or_eq_of_mem_set hx with hx | rfl
    · exact h.kinds x hx
    · rw [he.1]; exact md_cases z.k

theorem Tryf.infoStr : (Tryf.prog.info? 9).map (fun i => (i.zero, i.size, i.bytes)) = some (some (.string ByteArray.empty), 1, 16) := by kernel_rfl

set_option maxRecDepth 100000 in
set_option maxHeartbeats 8000000 in
theorem zzToFodder_any (w : World) (a : Option Addr) (len cap : Nat) (ds : List ZE) (h : IsZ w a len cap ds) (hg : GoodZ len ds) (hlen : len ≤ 1048576) :
    Calls Tryf.prog 16 #[.slice a len cap] w fun e w' => ∃ v l, e = .returned v ∧ Fod w' w.heap.size v l ∧ BuiltZ len len ds l ∧ Kept [] w w' := by
  have heq := fun (w : World) (a : Option Addr) (l c : Nat) => Lib.run_eql_slice_nil (P := Tryf.prog) w 23 58 a l c 0 0 Tryf.underlying23
  cases a with
  | none =>
    have h0 := h.nil rfl
    have hle := h.le
    obtain rfl : cap = 0 := h0
    obtain rfl : len = 0 := by omega
    clear h hg hle
    go_enter Tryf.func16, Tryf.ntmps16
    go_wp2
    go_ret
    exact ⟨.slice none 0 0, [], rfl, fod_nil _ _, BuiltZ.zero 0 ds, Kept.refl _ _⟩
  | some x =>
  have hle := h.le
  have htop := h.top
  unfold maxLen at htop
  have H := Lib.hid h; clear h
  have HG := Lib.hid hg; clear hg
  obtain ⟨i0, hi, hz0, hz1, hz2⟩ := info_parts Tryf.infoFE
  go_enter Tryf.func16, Tryf.ntmps16
  go_wp2_with (at_make; refine wpList_make_full _ rfl _ _ 37 rfl w.heap.size 87 i0 _ 4 Tryf.underlying37 hi hz0 hz1 _ _ _ _ len rfl rfl rfl rfl ?b2 ?b3 (Nat.le_refl _) ?_)
  case b2 => rw [hz2]; omega
  case b3 => unfold maxLen; omega
  intro w1 hown hgrow
  have hf : Fod w1 w.heap.size (.slice (some ⟨w.heap.size, 0, none⟩) len len) (List.replicate len FE.zero) := by
    unfold Fod
    rw [List.length_replicate, ← made_flat]
    exact hown
  have hb : Kept [] w w1 := (Kept.refl _ _).grown hgrow (by simp)
  clear hown hgrow hi hz0 hz1 hz2 heq
  obtain ⟨B, hB⟩ : ∃ B, w.heap.size = B := ⟨_, rfl⟩
  rw [hB] at hf ⊢
  have HBB := Lib.hid hB; clear hB
  have HF := Lib.hid hf; clear hf
  have HB := Lib.hid hb; clear hb
  go_wp2
  go_loopw [4] (fun i wr => ∃ m : Nat, m ≤ len ∧ i = .int .i64 m ∧ (∃ l, Fod wr B (.slice (some ⟨B, 0, none⟩) len len) l ∧ BuiltZ len m ds l) ∧ Kept [] w wr) (fun i _ => len - (intOf i).toNat)
  case atStart => exact ⟨0, Nat.zero_le _, rfl, ⟨_, HF.out, BuiltZ.zero len ds⟩, HB.out⟩
  case round =>
    clear HF HB
    obtain ⟨m, hm, rfl, ⟨l, hf, hl⟩, hb⟩ := hrel
    have HB := Lib.hid hb; clear hb
    have HF := Lib.hid hf; clear hf
    have HL := Lib.hid hl; clear hl
    obtain ⟨wo, rfl⟩ : ∃ wo : World, wo = wr := ⟨_, rfl⟩
    by_cases hlt : m < len
    · obtain ⟨b, o, z, hz, hx, hbl, c0, c1, c2, c3⟩ := (H.out.kept HB.out (by simp)).cells m hlt
      obtain rfl : x = ⟨b, o, none⟩ := by simpa using hx
      clear hx
      have hzg := HG.out m z hlt hz
      obtain ⟨n, hn⟩ : ∃ n : Nat, z.c = n := ⟨z.c.toNat, by omega⟩
      have hn4 : n ≤ 4096 := by omega
      rw [hn] at c3
      have HN := Lib.hid hn; clear hn
      have HZ := Lib.hid hz; clear hz
      clear hzg
      obtain ⟨s0, hs, hs0, hs1, hs2⟩ := info_parts Tryf.infoStr
      go_wp2_with (at_make; refine wpList_make_full _ rfl _ _ 84 rfl wo.heap.size 9 s0 _ 1 Tryf.underlying84 hs hs0 hs1 _ _ _ _ n rfl rfl rfl rfl ?b2 ?b3 (Nat.le_refl _) ?_)
      case b2 => rw [hs2]; omega
      case b3 => unfold maxLen; omega
      intro w2 hown hgrow
      have hk2 : Kept [] wo w2 := (Kept.refl _ _).grown hgrow (by simp)
      obtain ⟨C, hC⟩ : ∃ C, wo.heap.size = C := ⟨_, rfl⟩
      rw [hC] at hown ⊢
      have HC := Lib.hid hC; clear hC
      have hrow : ∃ xs : List Value, w2.ownsRow C 9 1 (.slice (some ⟨C, 0, none⟩) n n) n xs := ⟨_, by simpa using hown⟩
      have HR := Lib.hid hrow; clear hrow hown hgrow hs hs0 hs1 hs2
      have HK2 := Lib.hid hk2; clear hk2
      go_wp2
      go_loopw [6] (fun i wr => ∃ j : Nat, j ≤ n ∧ i = .int .i64 j ∧ (∃ xs : List Value, wr.ownsRow C 9 1 (.slice (some ⟨C, 0, none⟩) n n) n xs) ∧ Kept [] wo wr) (fun i _ => n - (intOf i).toNat)
      case atStart => exact ⟨0, Nat.zero_le _, rfl, HR.out, HK2.out⟩
      case round =>
        clear HR HK2
        obtain ⟨j, hj, rfl, ⟨xs, hxs⟩, hk⟩ := hrel
        have HK := Lib.hid hk; clear hk
        by_cases hjn : j < n
        · have hxl : xs.length = n * 1 := hxs.1
          have q := World.ownsRow.cells hxs (g := C) rfl j xs[j] (List.getElem?_eq_getElem (by omega))
          rw [add_off, Nat.zero_add] at q
          have fq := World.ownsRow.frozenAt hxs j
          have hst := (World.ownsRow.stored hxs j (.string ⟨#[35, 32, 99]⟩)).1
          have HST := Lib.hid hst; clear hst
          have HX := Lib.hid hxs; clear hxs
          obtain ⟨u, hu⟩ : ∃ u, xs[j] = u := ⟨_, rfl⟩
          rw [hu] at q
          clear hu
          have hks : Kept [] wo (wr.setCell ⟨C, j, none⟩ (.string ⟨#[35, 32, 99]⟩)) := HK.out.setCell (Or.inr (by rw [HC.out]; exact Nat.le_refl _)) _
          have HKS := Lib.hid hks; clear hks
          go_wp2
          go_roundw
          case rel => exact ⟨j + 1, by omega, by go_num, ⟨_, HST.out⟩, HKS.out⟩
          case measure => simp [intOf]; omega
        · obtain rfl : j = n := by omega
          clear hxs
          have hFl := HF.out.kept HK.out (by simp)
          have e0 := HK.out.cell c0 (by simp)
          have e1 := HK.out.cell c1 (by simp)
          have e2 := HK.out.cell c2 (by simp)
          clear c0 c1 c2 c3
          have hn := hFl.put m ⟨some ⟨C, 0, none⟩, j, j, md z.k, z.b, z.i⟩ (by rw [HL.out.len]; exact hlt)
          have hstep := HL.out.step ⟨some ⟨C, 0, none⟩, j, j, md z.k, z.b, z.i⟩ z HZ.out ⟨rfl, rfl, rfl, HN.out.symm⟩
          obtain ⟨y, hy, q0, q1, q2, q3⟩ := hFl.cells m (by rw [HL.out.len]; exact hlt)
          have f0 := hFl.frozen (m * 4)
          have f1 := hFl.frozen (m * 4 + 1)
          have f2 := hFl.frozen (m * 4 + 2)
          have f3 := hFl.frozen (m * 4 + 3)
          clear hy hFl
          have hkf : Kept [] w (put4 wr B m ⟨some ⟨C, 0, none⟩, j, j, md z.k, z.b, z.i⟩) := (HB.out.trans HK.out).put (Or.inr (by rw [HBB.out]; exact Nat.le_refl _)) _
          unfold put4 at hn hkf
          dsimp only at hn hkf
          have HKF := Lib.hid hkf.drew; clear hkf
          have HNF := Lib.hid (hn.kept (Kept.refl [] _).drew (by simp)); clear hn
          have HSTEP := Lib.hid hstep; clear hstep
          go_wp2_with fail
          go_still_tail 22, (by kernel_rfl)
          still_call (zzMode_still _ z.k)
          still_call (zzFodderKind_still _ (md z.k) (md_cases z.k))
          repeat still_step
          refine wpStill_nil ?_
          go_wp2_with fail
          exact ⟨⟨m + 1, by omega, by go_num, ⟨_, HNF.out, HSTEP.out⟩, HKF.out⟩, by simp [intOf]; omega⟩
    · obtain rfl : m = len := by omega
      go_wp2
      go_ret
      rw [HBB.out]
      exact ⟨_, l, rfl, HF.out, HL.out, HB.out⟩
end Go.Proofs.YtfacfgecnpeceaaFmt
