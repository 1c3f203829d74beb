/- Nests of parentheses in memory; the pass's traversal of one pair, and of a node inside it. -/
import Derived.Test.YtepipmjcfnncdaaFmtVisVX
import Derived.Test.YtepipmjcfnncdaaFmtFMove
import Derived.Test.YtepipmjcfnncdaaFmtOpP
namespace Go.Proofs.YtepipmjcfnncdaaFmt
open Go.ChangeShapes Go.WideShapes Go.ChangeAt Go.RowKit

abbrev varI (x : Nat) : Value := .iface 58 (.pointer (some ⟨x, 0, none⟩))
abbrev parI (q : Nat) : Value := .iface 121 (.pointer (some ⟨q, 0, none⟩))

/-- One pair: its block, its open fodder, its close fodder. -/
structure Lv where
  q : Nat
  vo : Value
  vc : Value
  lo : List FE
  lc : List FE
def Lv.blocks (L : Lv) : List Nat := L.q :: (L.vo.ownBlock.toList ++ L.vc.ownBlock.toList)
theorem Lv.mq (L : Lv) : L.q ∈ L.blocks := List.mem_cons_self
theorem Lv.mo {L : Lv} {g : Nat} (h : L.vo.ownBlock = some g) : g ∈ L.blocks := by simp [Lv.blocks, h]
theorem Lv.mc {L : Lv} {g : Nat} (h : L.vc.ownBlock = some g) : g ∈ L.blocks := by simp [Lv.blocks, h]
theorem Lv.mem {L : Lv} {g : Nat} (h : g ∈ L.blocks) : g = L.q ∨ L.vo.ownBlock = some g ∨ L.vc.ownBlock = some g := by
  simp [Lv.blocks] at h
  exact h
def blocks : List Lv → List Nat
  | [] => []
  | L :: r => L.blocks ++ blocks r

/-- The node that a nest is. -/
def nodeOf (x : Nat) : List Lv → Value
  | [] => varI x
  | L :: _ => parI L.q

/-- The pairs lie in memory, the outermost first, round the variable at x. -/
def Nst (w : World) (base x : Nat) : List Lv → Prop
  | [] => True
  | L :: r => w.cell? ⟨L.q, 0, none⟩ = some (nodeOf x r) ∧ w.cell? ⟨L.q, 1, none⟩ = some L.vc ∧ w.cell? ⟨L.q, 2, none⟩ = some L.vo ∧ (∀ o, w.frozen? ⟨L.q, o, none⟩ = false) ∧ Fod w base L.vo L.lo ∧ Fod w base L.vc L.lc ∧ Nst w base x r

theorem Nst.kept {w w' : World} {base x : Nat} {S : List Nat} {lv : List Lv} (h : Nst w base x lv) (q : Kept S w w') (hS : ∀ b ∈ blocks lv, b ∉ S) : Nst w' base x lv := by
  induction lv with
  | nil => trivial
  | cons L r ih =>
    obtain ⟨h0, h1, h2, h3, h4, h5, h6⟩ := h
    have hq : L.q ∉ S := hS _ (List.mem_append_left _ L.mq)
    have hl : L.q < w.heap.size := World.block_lt_of_cell? w _ h0
    exact ⟨q.cell h0 hq, q.cell h1 hq, q.cell h2 hq, fun o => (q.frozen (p := ⟨L.q, o, none⟩) hl hq).trans (h3 o), h4.kept q (fun g hg => hS _ (List.mem_append_left _ (Lv.mo hg))),
      h5.kept q (fun g hg => hS _ (List.mem_append_left _ (Lv.mc hg))), ih h6 (fun b hb => hS b (List.mem_append_right _ hb))⟩
theorem Nst.lt {w : World} {base x : Nat} {lv : List Lv} (h : Nst w base x lv) : ∀ b ∈ blocks lv, b < w.heap.size := by
  induction lv with
  | nil => intro b hb; simp [blocks] at hb
  | cons L r ih =>
    obtain ⟨h0, h1, h2, h3, h4, h5, h6⟩ := h
    intro b hb
    rcases List.mem_append.1 hb with hb | hb
    · rcases Lv.mem hb with e | e | e
      · subst e; exact World.block_lt_of_cell? w _ h0
      · exact (World.ownsRow.lt h4 b e).2
      · exact (World.ownsRow.lt h5 b e).2
    · exact ih h6 b hb

/-- A variable with the fodder le lies at x. -/
structure VarAt (w : World) (base x : Nat) (ve : Value) (le : List FE) : Prop where
  c : w.cell? ⟨x, 1, none⟩ = some ve
  f : w.frozen? ⟨x, 1, none⟩ = false
  h : Fod w base ve le
theorem VarAt.kept {w w' : World} {base x : Nat} {ve : Value} {le : List FE} {S : List Nat} (h : VarAt w base x ve le) (q : Kept S w w') (hx : x ∉ S) (hv : ∀ g, ve.ownBlock = some g → g ∉ S) : VarAt w' base x ve le :=
  ⟨q.cell h.c hx, (q.frozen (World.block_lt_of_cell? w _ h.c) hx).trans h.f, h.h.kept q hv⟩

set_option maxRecDepth 100000 in
set_option maxHeartbeats 4000000 in
theorem base_Par (w : World) (base pb q : Nat) (ctx r : Value) (R : World → Prop) (hp : IsPass w pb)
    (hv : ∀ wx, Kept [] w wx → Calls Tryf.prog 72 #[.pointer (some ⟨pb, 0, none⟩), .iface 183 (.pointer (some ⟨pb, 0, none⟩)), .pointer (some ⟨q, 0, none⟩), ctx] wx fun e w' => e = .returned (.tuple #[]) ∧ R w')
    (hR : ∀ w', R w' → IsPass w' pb ∧ ∃ v l, w'.cell? ⟨q, 1, none⟩ = some v ∧ Fod w' base v l) :
    Calls Tryf.prog 92 #[r, .iface 183 (.pointer (some ⟨pb, 0, none⟩)), .pointer (some ⟨q, 0, none⟩), ctx] w fun e w' => e = .returned (.tuple #[]) ∧ ∃ w1, R w1 ∧ Kept [] w1 w' := by
  have HV := Lib.hid hv; clear hv
  have HR := Lib.hid hR; clear hR
  have hn1 := nilA_Fodder pb
  have hn2 := nilA_Visit pb
  have hm := meth_Visit pb w.drew (hp.kept (Kept.refl [] w).drew (by simp))
  have HP := Lib.hid hp; clear hp
  go_enter Tryf.func92, Tryf.ntmps92
  go_wp2_with fail
  go_still_tail 9, (by kernel_rfl)
  go_wp2_with fail
  refine (HV.out _ (Kept.refl [] w).drew).mono ?_
  rintro e w1 ⟨rfl, hr⟩
  obtain ⟨p1, v, l, c1, hf⟩ := HR.out w1 hr
  have R1 := Lib.hid hr; clear hr
  have hm1 := meth_Fodder pb w1.drew (p1.kept (Kept.refl [] w1).drew (by simp))
  have P1 := Lib.hid p1; clear p1
  have HF := Lib.hid hf; clear hf
  clear hm
  go_wp2_with fail
  go_still_tail 9, (by kernel_rfl)
  go_wp2_with fail
  have k := (Kept.refl [] w1).drew
  refine (passFodder _ base _ pb q 1 (P1.out.kept k (by simp)) _ v l (HF.out.kept k (by simp)) (k.cell c1 (by simp))).mono ?_
  rintro e w2 ⟨rfl, k2⟩
  have K2 := Lib.hid (k.trans k2); clear k k2
  go_wp2_with fail
  go_end0
  exact ⟨rfl, w1, R1.out, K2.out⟩

set_option maxRecDepth 100000 in
theorem meth_Parens (pb : Nat) (w : World) : (method 441 183 (.pointer (some ⟨pb, 0, none⟩)) "Parens").run Tryf.prog w = .ok (80, .pointer (some ⟨pb, 0, none⟩)) w := by kernel_rfl

set_option maxRecDepth 100000 in
set_option maxHeartbeats 4000000 in
theorem visit_Par (w : World) (base : Nat) (r : Value) (pb nb no q : Nat) (ctx : Value) (fv : Value) (l : List FE) (R : World → Prop) (hpb : IsPass w pb) (h : Fod w base fv l)
    (hn : w.cell? ⟨nb, no, none⟩ = some (parI q)) (hx : w.cell? ⟨q, 2, none⟩ = some fv) (hf : w.frozen? ⟨q, 2, none⟩ = false)
    (hF : ∀ wx, Kept [] w wx → Calls Tryf.prog 80 #[.pointer (some ⟨pb, 0, none⟩), .iface 183 (.pointer (some ⟨pb, 0, none⟩)), .pointer (some ⟨q, 0, none⟩), ctx] wx fun e w' => e = .returned (.tuple #[]) ∧ R w') :
    Calls Tryf.prog 72 #[r, .iface 183 (.pointer (some ⟨pb, 0, none⟩)), .pointer (some ⟨nb, no, none⟩), ctx] w fun e w' => e = .returned (.tuple #[]) ∧ R w' := by
  obtain ⟨fa, fn, fc, rfl⟩ := h.isSlice
  have HFF := Lib.hid hF; clear hF
  have hm1 := meth_Fodder pb (w.alloc (.cells #[.slice fa fn fc] 33)) (hpb.kept ((Kept.refl [] w).alloc _) (by simp))
  have H := Lib.hid h; clear h
  have HPB := Lib.hid hpb; clear hpb
  go_enter Tryf.func72, Tryf.ntmps72
  go_wp2_with fail
  refine (openFodder_base _ q 2).mono ?_
  rintro e w' ⟨rfl, rfl⟩
  go_wp2_with fail
  have k0 : Kept [] w (w.alloc (.cells #[.slice fa fn fc] 33)) := (Kept.refl [] w).alloc _
  have c0 : (w.alloc (.cells #[.slice fa fn fc] 33)).cell? ⟨w.heap.size, 0, none⟩ = some (.slice fa fn fc) := by simp
  refine (passFodder _ base _ pb w.heap.size 0 (HPB.out.kept k0 (by simp)) _ (.slice fa fn fc) l (H.out.kept k0 (by simp)) c0).mono ?_
  rintro e w1 ⟨rfl, k1⟩
  have c1 := k1.cell c0 (by simp)
  have k01 := k0.trans k1
  have hn1 := k01.cell hn (by simp)
  have hx1 := k01.cell hx (by simp)
  have hf1 := (k01.frozen (World.block_lt_of_cell? w _ hx) (by simp)).trans hf
  have K01 := Lib.hid k01; clear k01
  clear k0 k1 c0 hm1 hn hx hf
  have hm2 := meth_Parens pb w1.drew
  have ho2 := openM_Parens q w1.drew
  have ta_Apply := fun w : World => ta_no_Apply 121 (.pointer (some ⟨q, 0, none⟩)) 31 w (by decide)
  have ta_ApplyBrace := fun w : World => ta_no_ApplyBrace 121 (.pointer (some ⟨q, 0, none⟩)) 31 w (by decide)
  have ta_Array := fun w : World => ta_no_Array 121 (.pointer (some ⟨q, 0, none⟩)) 31 w (by decide)
  have ta_ArrayComp := fun w : World => ta_no_ArrayComp 121 (.pointer (some ⟨q, 0, none⟩)) 31 w (by decide)
  have ta_Assert := fun w : World => ta_no_Assert 121 (.pointer (some ⟨q, 0, none⟩)) 31 w (by decide)
  have ta_Binary := fun w : World => ta_no_Binary 121 (.pointer (some ⟨q, 0, none⟩)) 31 w (by decide)
  have ta_Conditional := fun w : World => ta_no_Conditional 121 (.pointer (some ⟨q, 0, none⟩)) 31 w (by decide)
  have ta_Dollar := fun w : World => ta_no_Dollar 121 (.pointer (some ⟨q, 0, none⟩)) 31 w (by decide)
  have ta_Error := fun w : World => ta_no_Error 121 (.pointer (some ⟨q, 0, none⟩)) 31 w (by decide)
  have ta_Function := fun w : World => ta_no_Function 121 (.pointer (some ⟨q, 0, none⟩)) 31 w (by decide)
  have ta_Import := fun w : World => ta_no_Import 121 (.pointer (some ⟨q, 0, none⟩)) 31 w (by decide)
  have ta_ImportStr := fun w : World => ta_no_ImportStr 121 (.pointer (some ⟨q, 0, none⟩)) 31 w (by decide)
  have ta_ImportBin := fun w : World => ta_no_ImportBin 121 (.pointer (some ⟨q, 0, none⟩)) 31 w (by decide)
  have ta_Index := fun w : World => ta_no_Index 121 (.pointer (some ⟨q, 0, none⟩)) 31 w (by decide)
  have ta_InSuper := fun w : World => ta_no_InSuper 121 (.pointer (some ⟨q, 0, none⟩)) 31 w (by decide)
  have ta_LiteralBoolean := fun w : World => ta_no_LiteralBoolean 121 (.pointer (some ⟨q, 0, none⟩)) 31 w (by decide)
  have ta_LiteralNull := fun w : World => ta_no_LiteralNull 121 (.pointer (some ⟨q, 0, none⟩)) 31 w (by decide)
  have ta_LiteralNumber := fun w : World => ta_no_LiteralNumber 121 (.pointer (some ⟨q, 0, none⟩)) 31 w (by decide)
  have ta_LiteralString := fun w : World => ta_no_LiteralString 121 (.pointer (some ⟨q, 0, none⟩)) 31 w (by decide)
  have ta_Local := fun w : World => ta_no_Local 121 (.pointer (some ⟨q, 0, none⟩)) 31 w (by decide)
  have ta_Object := fun w : World => ta_no_Object 121 (.pointer (some ⟨q, 0, none⟩)) 31 w (by decide)
  have ta_ObjectComp := fun w : World => ta_no_ObjectComp 121 (.pointer (some ⟨q, 0, none⟩)) 31 w (by decide)
  have ta_y := fun w : World => ta_yes_Parens (.pointer (some ⟨q, 0, none⟩)) 31 w
  have hself : w1.setCell ⟨q, 2, none⟩ (.slice fa fn fc) = w1 := setCell_self hx1
  go_wp2_with fail
  go_still_tail 6, (by kernel_rfl)
  still_call (openFodder_still _ q 2)
  repeat still_step
  refine wpStill_nil ?_
  go_wp2_with fail
  refine (HFF.out _ K01.out.drew).mono ?_
  rintro e w2 ⟨rfl, hr⟩
  have HR := Lib.hid hr; clear hr
  go_wp2_with fail
  go_end0
  exact ⟨rfl, HR.out⟩
end Go.Proofs.YtepipmjcfnncdaaFmt
