/- The contracts of n008_125's zzBuildField and of ZZPrettyObjectField. -/
import Derived.Test.YtepipmjcfnncdaaFmtPFrP
namespace Go.Proofs.YtepipmjcfnncdaaFmt
open Go.ChangeShapes Go.WideShapes Go.ChangeAt Go.RowKit

set_option maxRecDepth 100000 in
set_option maxHeartbeats 1000000 in
theorem zzPF (w : World) (nb : Nat) (Q : World → Prop)
    (h : Calls Tryf.prog 82 #[.pointer (some ⟨w.heap.size, 0, none⟩), .iface 157 (.pointer (some ⟨w.heap.size, 0, none⟩)), .pointer (some ⟨nb, 0, none⟩), .nilIface] (w.alloc (.cells #[] 158)) fun e w' => e = .returned (.tuple #[]) ∧ Q w') :
    Calls Tryf.prog 59 #[.pointer (some ⟨nb, 0, none⟩)] w fun e w' => e = .returned (.tuple #[]) ∧ Q w' := by
  have H := Lib.hid h; clear h
  go_enter Tryf.func59, Tryf.ntmps59
  go_wp2_with fail
  refine H.out.mono ?_
  rintro e w1 ⟨rfl, k1⟩
  have K1 := Lib.hid k1; clear k1
  go_wp2_with fail
  go_end0
  exact ⟨rfl, K1.out⟩

abbrev fldObj (idv e1 : Value) (x : Nat) (kind : Int) : Obj := .cells #[.pointer none, idv, nilF, nilF, nilF, nilF, e1, varV x, .nilIface, .pointer none, .string ⟨#[]⟩, .int .i64 0, .int .i64 0, .int .i64 0, .int .i64 0, .int .i64 kind, .int .i64 0, .bool false] 148

theorem fld_new (w : World) (t : ByteArray) (idv e1 : Value) (kind : Int) (o : Obj) :
    Fld (((w.alloc (varObj t)).alloc (fldObj idv e1 w.heap.size kind)).alloc o) w.heap.size (w.heap.size + 1) w.heap.size kind idv e1 nilF nilF nilF ∧
      (((w.alloc (varObj t)).alloc (fldObj idv e1 w.heap.size kind)).alloc o).heap[w.heap.size + 2]? = some o ∧ Kept [] w (((w.alloc (varObj t)).alloc (fldObj idv e1 w.heap.size kind)).alloc o) := by
  have bv := (((Kept.refl [] (w.alloc (varObj t))).alloc (fldObj idv e1 w.heap.size kind)).alloc o).heap (heap_alloc_new w (varObj t)) (by simp)
  have bf := ((Kept.refl [] ((w.alloc (varObj t)).alloc (fldObj idv e1 w.heap.size kind))).alloc o).heap (heap_alloc_new (w.alloc (varObj t)) (fldObj idv e1 w.heap.size kind)) (by simp)
  rw [show (w.alloc (varObj t)).heap.size = w.heap.size + 1 by simp] at bf
  have bo := heap_alloc_new ((w.alloc (varObj t)).alloc (fldObj idv e1 w.heap.size kind)) o
  rw [show ((w.alloc (varObj t)).alloc (fldObj idv e1 w.heap.size kind)).heap.size = w.heap.size + 2 by simp] at bo
  refine ⟨?_, bo, (((Kept.refl [] w).alloc _).alloc _).alloc _⟩
  exact {
    c0 := cell_of_block bf 0
    c1 := cell_of_block bf 1
    c2 := cell_of_block bf 2
    c3 := cell_of_block bf 3
    c4 := cell_of_block bf 4
    c5 := cell_of_block bf 5
    c6 := cell_of_block bf 6
    c7 := cell_of_block bf 7
    c15 := cell_of_block bf 15
    fr := frozen_of_block bf
    h1 := fod_nil _ _
    h2 := fod_nil _ _
    h4 := fod_nil _ _
    cx := cell_of_block bv 1
    fx := frozen_of_block bv 1
    nx := by omega }

/-- The field built, its literal and variable handed out beside it. -/
def BF (w : World) (kind : Int) (idv e1 l v : Value) (P : World → Prop) (e : Ending) (w' : World) : Prop :=
  e = .returned (.tuple #[.pointer (some ⟨w.heap.size + 1, 0, none⟩), l, v]) ∧ Fld w' w.heap.size (w.heap.size + 1) w.heap.size kind idv e1 nilF nilF nilF ∧ P w' ∧ Kept [] w w'

set_option maxRecDepth 100000 in
set_option maxHeartbeats 1000000 in
theorem build_id (w : World) (b : Bool) (s : ByteArray) : Calls Tryf.prog 58 #[.int .i64 2, .bool b, .string s] w
    (BF w 1 (.pointer (some ⟨w.heap.size + 2, 0, none⟩)) .nilIface (.pointer none) (.pointer none) fun W => W.cell? ⟨w.heap.size + 2, 0, none⟩ = some (.string ⟨#[97]⟩)) := by
  go_enter Tryf.func58, Tryf.ntmps58
  go_wp2_with fail
  go_ret3
  have h := fld_new w ⟨#[98]⟩ (.pointer (some ⟨w.heap.size + 2, 0, none⟩)) .nilIface 1 (.cells #[.string ⟨#[97]⟩] 48)
  exact ⟨rfl, h.1, cell_of_block h.2.1 0, h.2.2⟩

set_option maxRecDepth 100000 in
set_option maxHeartbeats 1000000 in
theorem build_lit0 (w : World) (s : ByteArray) : Calls Tryf.prog 58 #[.int .i64 0, .bool true, .string s] w
    (BF w 2 (.pointer none) (litV (w.heap.size + 2)) (.pointer (some ⟨w.heap.size + 2, 0, none⟩)) (.pointer none) fun W => AtLit W (w.heap.size + 2) s) := by
  go_enter Tryf.func58, Tryf.ntmps58
  go_wp2_with fail
  go_ret3
  have h := fld_new w ⟨#[98]⟩ (.pointer none) (litV (w.heap.size + 2)) 2 (litObj s nilF)
  exact ⟨rfl, h.1, ⟨cell_of_block h.2.1 0, cell_of_block h.2.1 3, frozen_of_block h.2.1 3⟩, h.2.2⟩

set_option maxRecDepth 100000 in
set_option maxHeartbeats 1000000 in
theorem build_var0 (w : World) (s : ByteArray) : Calls Tryf.prog 58 #[.int .i64 0, .bool false, .string s] w
    (BF w 2 (.pointer none) (varV (w.heap.size + 2)) (.pointer none) (.pointer (some ⟨w.heap.size + 2, 0, none⟩)) fun W => AtVar W (w.heap.size + 2)) := by
  go_enter Tryf.func58, Tryf.ntmps58
  go_wp2_with fail
  go_ret3
  have h := fld_new w ⟨#[98]⟩ (.pointer none) (varV (w.heap.size + 2)) 2 (varObj ⟨#[101]⟩)
  exact ⟨rfl, h.1, ⟨cell_of_block h.2.1 1, frozen_of_block h.2.1 1⟩, h.2.2⟩

set_option maxRecDepth 100000 in
set_option maxHeartbeats 1000000 in
theorem build_lit1 (w : World) (s : ByteArray) : Calls Tryf.prog 58 #[.int .i64 1, .bool true, .string s] w
    (BF w 3 (.pointer none) (litV (w.heap.size + 2)) (.pointer (some ⟨w.heap.size + 2, 0, none⟩)) (.pointer none) fun W => AtLit W (w.heap.size + 2) s) := by
  go_enter Tryf.func58, Tryf.ntmps58
  go_wp2_with fail
  go_ret3
  have h := fld_new w ⟨#[98]⟩ (.pointer none) (litV (w.heap.size + 2)) 3 (litObj s nilF)
  exact ⟨rfl, h.1, ⟨cell_of_block h.2.1 0, cell_of_block h.2.1 3, frozen_of_block h.2.1 3⟩, h.2.2⟩

set_option maxRecDepth 100000 in
set_option maxHeartbeats 1000000 in
theorem build_var1 (w : World) (s : ByteArray) : Calls Tryf.prog 58 #[.int .i64 1, .bool false, .string s] w
    (BF w 3 (.pointer none) (varV (w.heap.size + 2)) (.pointer none) (.pointer (some ⟨w.heap.size + 2, 0, none⟩)) fun W => AtVar W (w.heap.size + 2)) := by
  go_enter Tryf.func58, Tryf.ntmps58
  go_wp2_with fail
  go_ret3
  have h := fld_new w ⟨#[98]⟩ (.pointer none) (varV (w.heap.size + 2)) 3 (varObj ⟨#[101]⟩)
  exact ⟨rfl, h.1, ⟨cell_of_block h.2.1 1, frozen_of_block h.2.1 1⟩, h.2.2⟩

set_option maxRecDepth 100000 in
theorem zzAsVar_var (w : World) (x : Value) : Calls Tryf.prog 60 #[.iface 58 x] w fun e w' => e = .returned x ∧ w = w' := by
  have ta := fun w : World => ta_yes_Var x 31 w
  go_enter Tryf.func60, Tryf.ntmps60
  go_wp2_with fail
  go_ret
  exact ⟨rfl, rfl⟩
theorem eqlVar (w : World) (x : Nat) : (binOp .eql 58 (.pointer (some ⟨x, 0, none⟩)) (.pointer (some ⟨x, 0, none⟩))).run Tryf.prog w = .ok (.bool true) w := by
  obtain ⟨j, hj⟩ : ∃ j, Tryf.prog.info? 66 = some j := Option.isSome_iff_exists.1 (by kernel_rfl)
  exact run_eql_ptr_same w ⟨x, 0, none⟩ (by kernel_rfl) hj

/-- What the first run leaves of a field that a string literal names, where it is no identifier. -/
theorem stays_of {w w' : World} {base nb xb yb : Nat} {idv f1 f2 : Value} (h : Fld w base nb xb 3 idv (litV yb) f1 f2 nilF) (k : Kept [] w w') : Stays w base nb xb yb idv w' :=
  ⟨f1, f2, h.kept k, k.mono (by simp)⟩

/-- The pass itself, made anew. -/
theorem pass_new (w : World) : IsPass (w.alloc (.cells #[] 158)) w.heap.size := heap_alloc_new w _
theorem pass_kept (w : World) : Kept [] w (w.alloc (.cells #[] 158)) := (Kept.refl [] w).alloc _
end Go.Proofs.YtepipmjcfnncdaaFmt
