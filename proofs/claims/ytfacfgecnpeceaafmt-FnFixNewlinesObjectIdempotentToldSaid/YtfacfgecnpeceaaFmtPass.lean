/- The contracts of the pass's traversal over fodders: it changes nothing. -/
import Derived.Test.YtfacfgecnpeceaaFmtNode
namespace Go.Proofs.YtfacfgecnpeceaaFmt
open Go.ChangeShapes Go.WideShapes Go.ChangeAt Go.RowKit

/-- At pb lies the pass itself: a struct without cells. -/
def IsPass (w : World) (pb : Nat) : Prop := w.heap[pb]? = some (.cells #[] 81 (0, 0))

theorem IsPass.kept {S : List Nat} {w w' : World} {pb : Nat} (h : IsPass w pb) (hk : Kept S w w') (hn : pb ∉ S) : IsPass w' pb := hk.heap h hn

set_option maxRecDepth 100000 in
theorem part_base (w : World) (pb : Nat) (h : IsPass w pb) : (partAt ⟨pb, 0, none⟩ 0 0).run Tryf.prog w = .ok ⟨pb, 0, none⟩ w := by
  have hc : Tryf.prog.cellsOf 81 = 0 := by kernel_rfl
  have hp : w.shape? pb = some (81, 0) := by unfold World.shape?; rw [h]; rfl
  have hbo : (byteOf ⟨pb, 0, none⟩).run Tryf.prog w = .ok 0 w := by
    have hprog : program.run Tryf.prog w = .ok Tryf.prog w := rfl
    unfold byteOf
    simp [noView, viewAt, hprog, hp, hc, go_sem]
  unfold partAt
  simp [go_sem, hbo]

/-- A method of the pass that it has from its base: the receiver is the pass itself. -/
theorem meth_base (w : World) (pb : Nat) (h : IsPass w pb) (name : String) (F : FuncId) (fuel : Nat)
    (hm : ((Tryf.prog.info? 77).bind fun i => (i.methods.find? (·.name == name)).map fun m => (m.path, m.func)) = some (#[⟨81, 0, true⟩], some (F, true)))
    (hf : ((Tryf.prog.underlying 81).bind fun d => match d with | .struct fs => (fs[0]?).map fun f => (f.type, f.offset, f.byteOffset) | _ => none) = some (79, 0, 0)) :
    (method (fuel + 1) 77 (.pointer (some ⟨pb, 0, none⟩)) name).run Tryf.prog w = .ok (F, .pointer (some ⟨pb, 0, none⟩)) w := by
  obtain ⟨i, hi, hm⟩ := Option.bind_eq_some_iff.1 hm
  obtain ⟨m, hfm, hm⟩ := Option.map_eq_some_iff.1 hm
  obtain ⟨d, hd, hf⟩ := Option.bind_eq_some_iff.1 hf
  cases d
  all_goals first | (simp at hf; done) | skip
  rename_i fs
  obtain ⟨f, hf0, hf1⟩ := Option.map_eq_some_iff.1 hf
  simp only [Prod.mk.injEq] at hm hf1
  have hpl := part_base w pb h
  have hti : (typeInfo 77).run Tryf.prog w = .ok i w := by
    have hprog : program.run Tryf.prog w = .ok Tryf.prog w := rfl
    unfold typeInfo
    simp [hprog, go_sem, hi]
  have hub : (underlying 79).run Tryf.prog w = .ok (.struct #[]) w := by kernel_rfl
  have hud : (underlying 81).run Tryf.prog w = .ok (.struct fs) w := by
    have hprog : program.run Tryf.prog w = .ok Tryf.prog w := rfl
    unfold underlying
    simp [hprog, go_sem, hd]
  unfold method
  simp [go_sem, hti, hfm, hm.1, hm.2, follow, hud, hf0, Place.get, asAddr, hf1.1, hf1.2.1, hf1.2.2, hpl, receiverAt, hub]

set_option maxRecDepth 100000 in
theorem nilA_FodderElement (pb : Nat) (w : World) : (nilAhead 377 77 (.pointer (some ⟨pb, 0, none⟩)) "FodderElement").run Tryf.prog w = .ok (some false) w := by kernel_rfl
theorem base_field : ((Tryf.prog.underlying 81).bind fun d => match d with | .struct fs => (fs[0]?).map fun f => (f.type, f.offset, f.byteOffset) | _ => none) = some (79, 0, 0) := by kernel_rfl
set_option maxRecDepth 100000 in
theorem meth_FodderElement (pb : Nat) (w : World) (h : IsPass w pb) : (method 377 77 (.pointer (some ⟨pb, 0, none⟩)) "FodderElement").run Tryf.prog w = .ok (66, .pointer (some ⟨pb, 0, none⟩)) w :=
  meth_base w pb h _ _ 376 (by kernel_rfl) base_field

set_option maxRecDepth 100000 in
set_option maxHeartbeats 1000000 in
theorem passFodder (w : World) (base : Nat) (r : Value) (pb fb fo : Nat) (hpb : IsPass w pb) (ctx : Value) (v : Value) (l : List FE) (h : Fod w base v l) (hc : w.cell? ⟨fb, fo, none⟩ = some v) :
    Calls Tryf.prog 53 #[r, .iface 77 (.pointer (some ⟨pb, 0, none⟩)), .pointer (some ⟨fb, fo, none⟩), ctx] w fun e w' => e = .returned (.tuple #[]) ∧ Kept [] w w' := by
  obtain ⟨a, cap, rfl, hlc, hcm, ha⟩ := h.slice
  unfold maxLen at hcm
  obtain ⟨n, hn⟩ : ∃ n, l.length = n := ⟨_, rfl⟩
  have H := Lib.hid h; clear h
  have HA := Lib.hid ha; clear ha
  rw [hn] at hlc hc
  have HN := Lib.hid hn; clear hn
  have hn1 := nilA_FodderElement pb
  go_enter Tryf.func53, Tryf.ntmps53
  go_wp2_with fail
  go_loopw [13] (fun i wr => ∃ k : Nat, k ≤ n ∧ i = .int .i64 k ∧ Kept [] w wr) (fun i _ => n - (intOf i).toNat)
  case atStart => exact ⟨0, Nat.zero_le _, rfl, Kept.refl _ _⟩
  case round =>
    obtain ⟨k, hk, rfl, hb⟩ := hrel
    have hc' := hb.cell hc (by simp)
    have HB := Lib.hid hb; clear hb
    by_cases hlt : k < n
    · obtain ⟨g, rfl, hg1, hg2⟩ := HA.out k (by rw [HN.out]; exact hlt)
      have i1 : (0 : Int) ≤ (k : Int) := by omega
      have i2 : (k : Int) < (n : Int) := by omega
      have hm1 := meth_FodderElement pb wr.drew ((hpb.kept HB.out (by simp)).kept (Kept.refl [] wr).drew (by simp))
      have HPB := Lib.hid hpb; clear hpb
      go_wp2_with fail
      go_still_tail 11, (by kernel_rfl)
      go_wp2_with fail
      refine (passFodderElement _ _ _ _ _).mono ?_
      rintro e w' ⟨rfl, rfl⟩
      go_wp2_with fail
      go_roundw
      case rel => exact ⟨k + 1, by omega, by go_num, HB.out.drew⟩
      case measure => simp [intOf]; omega
    · obtain rfl : k = n := by omega
      go_wp2_with fail
      go_end0
      exact ⟨rfl, HB.out⟩
set_option maxRecDepth 100000 in
theorem meth_Fodder (pb : Nat) (w : World) (h : IsPass w pb) : (method 377 77 (.pointer (some ⟨pb, 0, none⟩)) "Fodder").run Tryf.prog w = .ok (53, .pointer (some ⟨pb, 0, none⟩)) w :=
  meth_base w pb h _ _ 376 (by kernel_rfl) base_field
set_option maxRecDepth 100000 in
theorem nilA_Fodder (pb : Nat) (w : World) : (nilAhead 377 77 (.pointer (some ⟨pb, 0, none⟩)) "Fodder").run Tryf.prog w = .ok (some false) w := by kernel_rfl
set_option maxRecDepth 100000 in
theorem meth_Visit (pb : Nat) (w : World) (h : IsPass w pb) : (method 377 77 (.pointer (some ⟨pb, 0, none⟩)) "Visit").run Tryf.prog w = .ok (88, .pointer (some ⟨pb, 0, none⟩)) w :=
  meth_base w pb h _ _ 376 (by kernel_rfl) base_field
set_option maxRecDepth 100000 in
theorem nilA_Visit (pb : Nat) (w : World) : (nilAhead 377 77 (.pointer (some ⟨pb, 0, none⟩)) "Visit").run Tryf.prog w = .ok (some false) w := by kernel_rfl
end Go.Proofs.YtfacfgecnpeceaaFmt
