/- Objects in memory, as n008_124 lays them; the pass's base methods over them. -/
import Derived.Test.YtfacfgecnpeceaaFmtGf
import Derived.Test.YtfacfgecnpeceaaFmtFamI
namespace Go.Proofs.YtfacfgecnpeceaaFmt
open Go.ChangeShapes Go.WideShapes Go.ChangeAt Go.RowKit

/-- The places of an object's fields: how many, their row's block and room, the kinds, the blocks of the names, of the bodies, the identifiers. -/
structure Gs where
  nf : Nat
  fb : Nat
  cap : Nat
  kd : Nat → Int
  y : Nat → Nat
  d : Nat → Nat
  idp : Nat → Option Addr
/-- The fodders: of field i the opening (i, 0) and the other (i, 1); the close fodder (nf, 0). -/
def gI (F : Gs) (x : Nat × Nat) : Prop := x = (F.nf, 0) ∨ (x.1 < F.nf ∧ x.2 < 2)
def gp (F : Gs) (ob : Nat) (x : Nat × Nat) : Nat × Nat :=
  if x.1 = F.nf then (ob, 1) else if F.kd x.1 = 3 then (if x.2 = 0 then (F.y x.1, 3) else (F.fb, x.1 * 18 + 3)) else (if x.2 = 0 then (F.fb, x.1 * 18 + 3) else (F.fb, x.1 * 18 + 2))
def e1G (F : Gs) (i : Nat) : Value := if F.kd i = 3 then litS (F.y i) else if F.kd i = 2 then varS (F.y i) else .nilIface
/-- The cells of field i that no fodder shares (where a fodder lies: the empty slice). -/
def stG (F : Gs) (i : Nat) : List Value := [.pointer none, .pointer (F.idp i), .slice none 0 0, .slice none 0 0, .slice none 0 0, .slice none 0 0, e1G F i, varS (F.d i), .nilIface, .pointer none, .string ⟨#[]⟩, .int .i64 0, .int .i64 0, .int .i64 0, .int .i64 0, .int .i64 (F.kd i), .int .i64 0, .bool false]
def stK (F : Gs) (i k : Nat) : Prop := k < 18 ∧ k ≠ 3 ∧ (k = 2 → F.kd i = 3)

structure OB (w : World) (base ob : Nat) (F : Gs) (Q : Nat → Prop) (v : Nat × Nat → Value) (l : Nat × Nat → List FE) : Prop where
  fam : FamI w base (gI F) (gp F ob) Q v l
  c0 : w.cell? ⟨ob, 0, none⟩ = some (.slice (some ⟨F.fb, 0, none⟩) F.nf F.cap)
  ml : F.nf ≤ F.cap ∧ F.cap ≤ maxLen ∧ F.nf ≤ 1048576
  fq : Q F.fb
  oq : Q ob
  kds : ∀ i, i < F.nf → F.kd i = 1 ∨ F.kd i = 2 ∨ F.kd i = 3
  st : ∀ i k, i < F.nf → stK F i k → w.cell? ⟨F.fb, i * 18 + k, none⟩ = (stG F i)[k]?
  sf : ∀ x, gI F x → ∀ i k, i < F.nf → stK F i k → gp F ob x ≠ (F.fb, i * 18 + k)
  o0 : ∀ x, gI F x → gp F ob x ≠ (ob, 0)
  dq : ∀ i, i < F.nf → Q (F.d i)
  nd : ∀ i, i < F.nf → AtVar w (F.d i)
  dn : ∀ x, gI F x → ∀ i, i < F.nf → (gp F ob x).1 ≠ F.d i
  yq : ∀ i, i < F.nf → F.kd i = 2 → Q (F.y i)
  ny : ∀ i, i < F.nf → F.kd i = 2 → AtVar w (F.y i)
  yn : ∀ x, gI F x → ∀ i, i < F.nf → F.kd i = 2 → (gp F ob x).1 ≠ F.y i

theorem AtVar.block {w w' : World} {x : Nat} (h : AtVar w x) (e : w'.heap[x]? = w.heap[x]?) : AtVar w' x :=
  ⟨(World.cell?_of_block e).trans h.1, (World.frozen?_of_block e).trans h.2⟩
theorem gI_c (F : Gs) : gI F (F.nf, 0) := Or.inl rfl
theorem gI_o {F : Gs} {i : Nat} (h : i < F.nf) : gI F (i, 0) := Or.inr ⟨h, by dsimp only; omega⟩
theorem gI_t {F : Gs} {i : Nat} (h : i < F.nf) : gI F (i, 1) := Or.inr ⟨h, by dsimp only; omega⟩
theorem gp_c (F : Gs) (ob : Nat) : gp F ob (F.nf, 0) = (ob, 1) := if_pos rfl
theorem gp_o {F : Gs} {i : Nat} (h : i < F.nf) (ob : Nat) : gp F ob (i, 0) = if F.kd i = 3 then (F.y i, 3) else (F.fb, i * 18 + 3) := by
  unfold gp
  rw [if_neg (by dsimp only; omega)]
  rfl
theorem gp_t {F : Gs} {i : Nat} (h : i < F.nf) (ob : Nat) : gp F ob (i, 1) = if F.kd i = 3 then (F.fb, i * 18 + 3) else (F.fb, i * 18 + 2) := by
  unfold gp
  rw [if_neg (by dsimp only; omega)]
  rfl
theorem OB.next {w w' : World} {base ob : Nat} {F : Gs} {Q : Nat → Prop} {v v' : Nat × Nat → Value} {l l' : Nat × Nat → List FE} (h : OB w base ob F Q v l) (s : SameI (gI F) (gp F ob) Q w w') (f : FamI w' base (gI F) (gp F ob) Q v' l') : OB w' base ob F Q v' l' :=
  { h with
    fam := f
    c0 := (s.cell ob 0 h.oq (fun x hx => h.o0 x hx)).trans h.c0
    st := fun i k hi hk => (s.cell F.fb _ h.fq (fun x hx => h.sf x hx i k hi hk)).trans (h.st i k hi hk)
    nd := fun i hi => (h.nd i hi).block (s.blk _ (h.dq i hi) (fun x hx => h.dn x hx i hi))
    ny := fun i hi hk => (h.ny i hi hk).block (s.blk _ (h.yq i hi hk) (fun x hx => h.yn x hx i hi hk)) }
theorem OB.kept {w w' : World} {base ob : Nat} {F : Gs} {Q : Nat → Prop} {v : Nat × Nat → Value} {l : Nat × Nat → List FE} (h : OB w base ob F Q v l) (q : Kept [] w w') : OB w' base ob F Q v l :=
  h.next (SameI.of_kept q h.fam.lt) (h.fam.kept q)
theorem OB.cc {w : World} {base ob : Nat} {F : Gs} {Q : Nat → Prop} {v : Nat × Nat → Value} {l : Nat × Nat → List FE} (h : OB w base ob F Q v l) : w.cell? ⟨ob, 1, none⟩ = some (v (F.nf, 0)) := by
  have := h.fam.c _ (gI_c F)
  rwa [gp_c] at this
theorem OB.co {w : World} {base ob : Nat} {F : Gs} {Q : Nat → Prop} {v : Nat × Nat → Value} {l : Nat × Nat → List FE} (h : OB w base ob F Q v l) (i : Nat) (hi : i < F.nf) (hs : F.kd i ≠ 3) : w.cell? ⟨F.fb, i * 18 + 3, none⟩ = some (v (i, 0)) := by
  have := h.fam.c _ (gI_o hi)
  rwa [gp_o hi, if_neg hs] at this
theorem OB.cy {w : World} {base ob : Nat} {F : Gs} {Q : Nat → Prop} {v : Nat × Nat → Value} {l : Nat × Nat → List FE} (h : OB w base ob F Q v l) (i : Nat) (hi : i < F.nf) (hs : F.kd i = 3) : w.cell? ⟨F.y i, 3, none⟩ = some (v (i, 0)) ∧ w.frozen? ⟨F.y i, 3, none⟩ = false := by
  have h1 := h.fam.c _ (gI_o hi)
  have h2 := h.fam.f _ (gI_o hi)
  rw [gp_o hi, if_pos hs] at h1 h2
  exact ⟨h1, h2⟩
theorem OB.ct {w : World} {base ob : Nat} {F : Gs} {Q : Nat → Prop} {v : Nat × Nat → Value} {l : Nat × Nat → List FE} (h : OB w base ob F Q v l) (i : Nat) (hi : i < F.nf) (hs : F.kd i ≠ 3) : w.cell? ⟨F.fb, i * 18 + 2, none⟩ = some (v (i, 1)) := by
  have := h.fam.c _ (gI_t hi)
  rwa [gp_t hi, if_neg hs] at this
theorem OB.ct3 {w : World} {base ob : Nat} {F : Gs} {Q : Nat → Prop} {v : Nat × Nat → Value} {l : Nat × Nat → List FE} (h : OB w base ob F Q v l) (i : Nat) (hi : i < F.nf) (hs : F.kd i = 3) : w.cell? ⟨F.fb, i * 18 + 3, none⟩ = some (v (i, 1)) := by
  have := h.fam.c _ (gI_t hi)
  rwa [gp_t hi, if_pos hs] at this
theorem OB.of1 {w : World} {base ob : Nat} {F : Gs} {Q : Nat → Prop} {v : Nat × Nat → Value} {l : Nat × Nat → List FE} (h : OB w base ob F Q v l) (i : Nat) (hi : i < F.nf) (hs : F.kd i = 1) : OFv w F.fb (i * 18) (F.d i) 1 .nilIface (v (i, 1)) (v (i, 0)) where
  c0 := h.st i 0 hi ⟨by omega, by omega, by omega⟩
  c2 := h.ct i hi (by omega)
  c3 := h.co i hi (by omega)
  c4 := h.st i 4 hi ⟨by omega, by omega, by omega⟩
  c5 := h.st i 5 hi ⟨by omega, by omega, by omega⟩
  c6 := by have := h.st i 6 hi ⟨by omega, by omega, by omega⟩; unfold stG e1G at this; rw [hs] at this; exact this
  c7 := h.st i 7 hi ⟨by omega, by omega, by omega⟩
  c15 := by have := h.st i 15 hi ⟨by omega, by omega, by omega⟩; unfold stG e1G at this; rw [hs] at this; exact this
  nx := h.nd i hi
theorem OB.of2 {w : World} {base ob : Nat} {F : Gs} {Q : Nat → Prop} {v : Nat × Nat → Value} {l : Nat × Nat → List FE} (h : OB w base ob F Q v l) (i : Nat) (hi : i < F.nf) (hs : F.kd i = 2) : OFv w F.fb (i * 18) (F.d i) 2 (varS (F.y i)) (v (i, 1)) (v (i, 0)) where
  c0 := h.st i 0 hi ⟨by omega, by omega, by omega⟩
  c2 := h.ct i hi (by omega)
  c3 := h.co i hi (by omega)
  c4 := h.st i 4 hi ⟨by omega, by omega, by omega⟩
  c5 := h.st i 5 hi ⟨by omega, by omega, by omega⟩
  c6 := by have := h.st i 6 hi ⟨by omega, by omega, by omega⟩; unfold stG e1G at this; rw [hs] at this; exact this
  c7 := h.st i 7 hi ⟨by omega, by omega, by omega⟩
  c15 := by have := h.st i 15 hi ⟨by omega, by omega, by omega⟩; unfold stG e1G at this; rw [hs] at this; exact this
  nx := h.nd i hi
theorem OB.of3 {w : World} {base ob : Nat} {F : Gs} {Q : Nat → Prop} {v : Nat × Nat → Value} {l : Nat × Nat → List FE} (h : OB w base ob F Q v l) (i : Nat) (hi : i < F.nf) (hs : F.kd i = 3) : OFv w F.fb (i * 18) (F.d i) 3 (litS (F.y i)) (.slice none 0 0) (v (i, 1)) where
  c0 := h.st i 0 hi ⟨by omega, by omega, by omega⟩
  c2 := h.st i 2 hi ⟨by omega, by omega, fun _ => hs⟩
  c3 := h.ct3 i hi hs
  c4 := h.st i 4 hi ⟨by omega, by omega, by omega⟩
  c5 := h.st i 5 hi ⟨by omega, by omega, by omega⟩
  c6 := by have := h.st i 6 hi ⟨by omega, by omega, by omega⟩; unfold stG e1G at this; rw [hs] at this; exact this
  c7 := h.st i 7 hi ⟨by omega, by omega, by omega⟩
  c15 := by have := h.st i 15 hi ⟨by omega, by omega, by omega⟩; unfold stG e1G at this; rw [hs] at this; exact this
  nx := h.nd i hi

set_option maxRecDepth 100000 in
theorem meth_ObjectField (pb : Nat) (w : World) (h : IsPass w pb) : (method 377 77 (.pointer (some ⟨pb, 0, none⟩)) "ObjectField").run Tryf.prog w = .ok (80, .pointer (some ⟨pb, 0, none⟩)) w :=
  meth_base w pb h _ _ 376 (by kernel_rfl) base_field
set_option maxRecDepth 100000 in
theorem nilA_ObjectField (pb : Nat) (w : World) : (nilAhead 377 77 (.pointer (some ⟨pb, 0, none⟩)) "ObjectField").run Tryf.prog w = .ok (some false) w := by kernel_rfl
set_option maxRecDepth 100000 in
theorem meth_ObjectFields (pb : Nat) (w : World) (h : IsPass w pb) : (method 377 77 (.pointer (some ⟨pb, 0, none⟩)) "ObjectFields").run Tryf.prog w = .ok (54, .pointer (some ⟨pb, 0, none⟩)) w :=
  meth_base w pb h _ _ 376 (by kernel_rfl) base_field
set_option maxRecDepth 100000 in
theorem nilA_ObjectFields (pb : Nat) (w : World) : (nilAhead 377 77 (.pointer (some ⟨pb, 0, none⟩)) "ObjectFields").run Tryf.prog w = .ok (some false) w := by kernel_rfl

/-- The pass's ObjectField at field i. -/
theorem baseField_any (w : World) (base ob : Nat) (F : Gs) (Q : Nat → Prop) (v : Nat × Nat → Value) (l : Nat × Nat → List FE) (h : OB w base ob F Q v l) (r : Value) (pb : Nat) (hpb : IsPass w pb) (ctx : Value) (i : Nat) (hi : i < F.nf) :
    Calls Tryf.prog 80 #[r, .iface 77 (.pointer (some ⟨pb, 0, none⟩)), .pointer (some ⟨F.fb, i * 18, none⟩), ctx] w fun e w' => e = .returned (.tuple #[]) ∧ Kept [] w w' := by
  rcases h.kds i hi with hs | hs | hs
  · exact baseField_id w base r pb F.fb (i * 18) (F.d i) hpb ctx _ _ _ _ (h.of1 i hi hs) (h.fam.fod _ (gI_t hi)) (h.fam.fod _ (gI_o hi))
  · exact baseField_expr w base r pb F.fb (i * 18) (F.d i) (F.y i) hpb ctx _ _ _ _ (h.of2 i hi hs) (h.fam.fod _ (gI_t hi)) (h.fam.fod _ (gI_o hi)) (h.ny i hi hs)
  · exact baseField_str w base r pb F.fb (i * 18) (F.d i) (F.y i) hpb ctx _ _ [] _ (h.of3 i hi hs) (fod_none _ _) (h.fam.fod _ (gI_t hi)) _ _ (h.cy i hi hs).1 (h.cy i hi hs).2 (h.fam.fod _ (gI_o hi))

set_option maxRecDepth 100000 in
set_option maxHeartbeats 8000000 in
theorem base_ObjectFields (w : World) (base ob : Nat) (F : Gs) (Q : Nat → Prop) (v : Nat × Nat → Value) (l : Nat × Nat → List FE) (h : OB w base ob F Q v l) (r : Value) (pb : Nat) (hpb : IsPass w pb) (ctx : Value) :
    Calls Tryf.prog 54 #[r, .iface 77 (.pointer (some ⟨pb, 0, none⟩)), .pointer (some ⟨ob, 0, none⟩), ctx] w fun e w' => e = .returned (.tuple #[]) ∧ Kept [] w w' := by
  have hn1 := nilA_ObjectField pb
  have c0 := h.c0
  obtain ⟨ml1, ml2, ml3⟩ := h.ml
  unfold maxLen at ml2
  have H := Lib.hid h; clear h
  have HPB := Lib.hid hpb; clear hpb
  obtain ⟨NF, hNF⟩ : ∃ m, F.nf = m := ⟨_, rfl⟩
  rw [hNF] at c0 ml1 ml3
  have HNF := Lib.hid hNF; clear hNF
  go_enter Tryf.func54, Tryf.ntmps54
  go_wp2_with fail
  go_loopw [13] (fun i wr => ∃ k : Nat, k ≤ NF ∧ i = .int .i64 k ∧ Kept [] w wr) (fun i _ => NF - (intOf i).toNat)
  case atStart => exact ⟨0, Nat.zero_le _, rfl, Kept.refl _ _⟩
  case round =>
    obtain ⟨k, hk, rfl, hb⟩ := hrel
    have HB := Lib.hid hb; clear hb
    by_cases hlt : k < NF
    · have c0 := HB.out.cell c0 (by simp)
      have i1 : (0 : Int) ≤ (k : Int) := by omega
      have i2 : (k : Int) < (NF : Int) := by omega
      have hm1 := meth_ObjectField pb wr.drew (HPB.out.kept HB.out.drew (by simp))
      go_wp2_with fail
      go_still_tail 11, (by kernel_rfl)
      go_wp2_with fail
      refine (baseField_any _ base ob F Q v l (H.out.kept HB.out.drew) _ pb (HPB.out.kept HB.out.drew (by simp)) _ k (by rw [HNF.out]; exact hlt)).mono ?_
      rintro e w' ⟨rfl, k2⟩
      have K2 := Lib.hid (HB.out.drew.trans k2); clear k2
      go_wp2_with fail
      go_roundw
      case rel => exact ⟨k + 1, by omega, by go_num, K2.out⟩
      case measure => simp [intOf]; omega
    · obtain rfl : k = NF := by omega
      go_wp2_with fail
      go_end0
      exact ⟨rfl, HB.out⟩

set_option maxRecDepth 100000 in
set_option maxHeartbeats 8000000 in
theorem base_Object (w : World) (base ob : Nat) (F : Gs) (Q : Nat → Prop) (v : Nat × Nat → Value) (l : Nat × Nat → List FE) (h : OB w base ob F Q v l) (r : Value) (pb : Nat) (hpb : IsPass w pb) (ctx : Value) :
    Calls Tryf.prog 24 #[r, .iface 77 (.pointer (some ⟨pb, 0, none⟩)), .pointer (some ⟨ob, 0, none⟩), ctx] w fun e w' => e = .returned (.tuple #[]) ∧ Kept [] w w' := by
  have hn1 := nilA_Fodder pb
  have hn2 := nilA_ObjectFields pb
  have H := Lib.hid h; clear h
  have HPB := Lib.hid hpb; clear hpb
  go_enter Tryf.func24, Tryf.ntmps24
  have hm := meth_ObjectFields pb w.drew (HPB.out.kept (Kept.refl [] w).drew (by simp))
  go_wp2_with fail
  go_still_tail 9, (by kernel_rfl)
  go_wp2_with fail
  refine (base_ObjectFields _ base ob F Q v l (H.out.kept (Kept.refl [] w).drew) _ pb (HPB.out.kept (Kept.refl [] w).drew (by simp)) _).mono ?_
  rintro e w1 ⟨rfl, k⟩
  have k' := Kept.trans ((Kept.refl [] w).drew) k
  have K_w1 := Lib.hid k'; clear k' k hm
  have hm := meth_Fodder pb w1.drew (HPB.out.kept K_w1.out.drew (by simp))
  go_wp2_with fail
  go_still_tail 9, (by kernel_rfl)
  go_wp2_with fail
  refine (passFodder _ base _ pb ob (1) (HPB.out.kept K_w1.out.drew (by simp)) _ (v (F.nf, 0)) (l (F.nf, 0)) ((H.out.kept K_w1.out.drew).fam.fod _ (gI_c F)) (H.out.kept K_w1.out.drew).cc).mono ?_
  rintro e w3 ⟨rfl, k⟩
  have k' := Kept.trans (K_w1.out.drew) k
  have K_w3 := Lib.hid k'; clear k' k hm
  go_wp2_with fail
  go_end0
  exact ⟨rfl, K_w3.out⟩
end Go.Proofs.YtfacfgecnpeceaaFmt
