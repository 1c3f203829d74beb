/- Object comprehensions in memory; the pass's base methods over them. -/
import Derived.Test.YtgdipdbmllkckaaGreatFmtNd
import Derived.Test.YtgdipdbmllkckaaGreatFmtOf
namespace Go.Proofs.YtgdipdbmllkckaaGreatFmt
open Go.ChangeShapes Go.WideShapes Go.ChangeAt Go.RowKit

/-- The places of a comprehension's fields: how many, their row's block, which are named by a string, the string literals' and the bodies' blocks, the identifiers. -/
structure Fls where
  nf : Nat
  fb : Nat
  cap : Nat
  str : Nat → Bool
  y : Nat → Nat
  d : Nat → Nat
  idp : Nat → Option Addr

/-- The fodders: the chain's, the close fodder (n, 0), of field i the opening (n + 1, 2 i) and the operator's (n + 1, 2 i + 1). -/
def ocI (P : Pl) (n : Nat) (F : Fls) (x : Nat × Nat) : Prop := P.In n x ∨ x = (n, 0) ∨ (x.1 = n + 1 ∧ x.2 < 2 * F.nf)
def ocp (P : Pl) (n nb : Nat) (F : Fls) (x : Nat × Nat) : Nat × Nat :=
  if x.1 = n + 1 then (if x.2 % 2 = 0 then (if F.str (x.2 / 2) then (F.y (x.2 / 2), 3) else (F.fb, x.2 / 2 * 18 + 3)) else (F.fb, x.2 / 2 * 18 + 4)) else if x = (n, 0) then (nb, 2) else P.pos x
/-- The cells of field i that no fodder shares (where a fodder lies: the empty slice). -/
def stC (F : Fls) (i : Nat) : List Value := [.pointer none, .pointer (F.idp i), .slice none 0 0, .slice none 0 0, .slice none 0 0, .slice none 0 0, (if F.str i then litS (F.y i) else .nilIface), nulI (F.d i), .nilIface, .pointer none, .string ⟨#[]⟩, .int .i64 0, .int .i64 0, .int .i64 0, .int .i64 0, .int .i64 (if F.str i then 3 else 1), .int .i64 1, .bool false]
def stK (F : Fls) (i k : Nat) : Prop := k < 18 ∧ k ≠ 4 ∧ (k = 3 → F.str i = true)

structure OCN (w : World) (base nb n : Nat) (P : Pl) (F : Fls) (Q : Nat → Prop) (v : Nat × Nat → Value) (l : Nat × Nat → List FE) : Prop where
  pos : 0 < n
  b : P.b (n - 1) = nb
  o : P.o (n - 1) = 3
  ch : Chn w n P
  fam : FamI w base (ocI P n F) (ocp P n nb F) Q v l
  fr : Frees (ocI P n F) (ocp P n nb F) n P
  hQ : ∀ g, P.Q n g → Q g
  f0 : ∀ x, ocI P n F x → ocp P n nb F x ≠ (nb, 0)
  c0 : w.cell? ⟨nb, 0, none⟩ = some (.slice (some ⟨F.fb, 0, none⟩) F.nf F.cap)
  ml : F.nf ≤ F.cap ∧ F.cap ≤ maxLen ∧ F.nf ≤ 1048576
  fq : Q F.fb
  st : ∀ i k, i < F.nf → stK F i k → w.cell? ⟨F.fb, i * 18 + k, none⟩ = (stC F i)[k]?
  sf : ∀ x, ocI P n F x → ∀ i k, i < F.nf → stK F i k → ocp P n nb F x ≠ (F.fb, i * 18 + k)
  dq : ∀ i, i < F.nf → Q (F.d i)
  nd : ∀ i, i < F.nf → AtNull w (F.d i)
  dn : ∀ x, ocI P n F x → ∀ i, i < F.nf → (ocp P n nb F x).1 ≠ F.d i

theorem OCN.nbQ {w : World} {base nb n : Nat} {P : Pl} {F : Fls} {Q : Nat → Prop} {v : Nat × Nat → Value} {l : Nat × Nat → List FE} (h : OCN w base nb n P F Q v l) : Q nb :=
  h.hQ nb ⟨n - 1, by have := h.pos; omega, Or.inl h.b.symm⟩
theorem ocp_in {P : Pl} {n nb : Nat} {F : Fls} {x : Nat × Nat} (h : P.In n x) : ocp P n nb F x = P.pos x := by
  obtain ⟨i, j⟩ := x
  have hi : i < n := h.1
  unfold ocp
  rw [if_neg (by dsimp only; omega), if_neg (by simp; omega)]
theorem ocp_c (P : Pl) (n nb : Nat) (F : Fls) : ocp P n nb F (n, 0) = (nb, 2) := by unfold ocp; rw [if_neg (by dsimp only; omega), if_pos rfl]
theorem ocp_op (P : Pl) (n nb : Nat) (F : Fls) (i : Nat) : ocp P n nb F (n + 1, 2 * i) = if F.str i then (F.y i, 3) else (F.fb, i * 18 + 3) := by
  unfold ocp
  rw [if_pos rfl, if_pos (by dsimp only; omega), show (2 * i) / 2 = i by omega]
theorem ocp_ot (P : Pl) (n nb : Nat) (F : Fls) (i : Nat) : ocp P n nb F (n + 1, 2 * i + 1) = (F.fb, i * 18 + 4) := by
  unfold ocp
  rw [if_pos rfl, if_neg (by dsimp only; omega), show (2 * i + 1) / 2 = i by omega]
theorem ocI_op {P : Pl} {n : Nat} {F : Fls} {i : Nat} (h : i < F.nf) : ocI P n F (n + 1, 2 * i) := Or.inr (Or.inr ⟨rfl, by dsimp only; omega⟩)
theorem ocI_ot {P : Pl} {n : Nat} {F : Fls} {i : Nat} (h : i < F.nf) : ocI P n F (n + 1, 2 * i + 1) := Or.inr (Or.inr ⟨rfl, by dsimp only; omega⟩)
theorem OCN.next {w w' : World} {base nb n : Nat} {P : Pl} {F : Fls} {Q : Nat → Prop} {v v' : Nat × Nat → Value} {l l' : Nat × Nat → List FE} (h : OCN w base nb n P F Q v l) (s : SameI (ocI P n F) (ocp P n nb F) Q w w') (f : FamI w' base (ocI P n F) (ocp P n nb F) Q v' l') : OCN w' base nb n P F Q v' l' :=
  { h with
    ch := h.ch.same s h.fr h.hQ
    fam := f
    c0 := (s.cell nb 0 h.nbQ (fun x hx => h.f0 x hx)).trans h.c0
    st := fun i k hi hk => (s.cell F.fb _ h.fq (fun x hx => h.sf x hx i k hi hk)).trans (h.st i k hi hk)
    nd := fun i hi => (h.nd i hi).block (s.blk _ (h.dq i hi) (fun x hx => h.dn x hx i hi)) }
theorem OCN.kept {w w' : World} {base nb n : Nat} {P : Pl} {F : Fls} {Q : Nat → Prop} {v : Nat × Nat → Value} {l : Nat × Nat → List FE} (h : OCN w base nb n P F Q v l) (q : Kept [] w w') : OCN w' base nb n P F Q v l :=
  h.next (SameI.of_kept q h.fam.lt) (h.fam.kept q)
theorem OCN.wider {w : World} {base nb n g : Nat} {P : Pl} {F : Fls} {Q : Nat → Prop} {v : Nat × Nat → Value} {l : Nat × Nat → List FE} (h : OCN w base nb n P F Q v l) (hg : g < w.heap.size) (hb : base ≤ g) (hs : ∀ x, ocI P n F x → (v x).ownBlock ≠ some g) : OCN w base nb n P F (fun y => Q y ∨ y = g) v l :=
  { h with
    fam := h.fam.wider (fun _ h => Or.inl h) (fun y hy => by rcases hy with hy | rfl; exact h.fam.lt y hy; exact hg) (fun y hy => by rcases hy with hy | rfl; exact h.fam.bs y hy; exact hb) (fun x hx y hy hq => by
      rcases hq with hq | rfl
      · exact h.fam.sep x hx y hy hq
      · exact hs x hx hy)
    hQ := fun y hy => Or.inl (h.hQ y hy)
    fq := Or.inl h.fq
    dq := fun i hi => Or.inl (h.dq i hi) }
theorem OCN.chf {w : World} {base nb n : Nat} {P : Pl} {F : Fls} {Q : Nat → Prop} {v : Nat × Nat → Value} {l : Nat × Nat → List FE} (h : OCN w base nb n P F Q v l) (hk : ∀ x, ocI P n F x → Kinds (l x)) : ChF w base n P v l :=
  ⟨fun x hx => by have := h.fam.c x (Or.inl hx); rwa [ocp_in hx] at this, fun x hx => h.fam.fod x (Or.inl hx), fun x hx => hk x (Or.inl hx)⟩
theorem OCN.cc {w : World} {base nb n : Nat} {P : Pl} {F : Fls} {Q : Nat → Prop} {v : Nat × Nat → Value} {l : Nat × Nat → List FE} (h : OCN w base nb n P F Q v l) : w.cell? ⟨nb, 2, none⟩ = some (v (n, 0)) := by
  have := h.fam.c (n, 0) (Or.inr (Or.inl rfl))
  rwa [ocp_c] at this
theorem OCN.c4 {w : World} {base nb n : Nat} {P : Pl} {F : Fls} {Q : Nat → Prop} {v : Nat × Nat → Value} {l : Nat × Nat → List FE} (h : OCN w base nb n P F Q v l) (i : Nat) (hi : i < F.nf) : w.cell? ⟨F.fb, i * 18 + 4, none⟩ = some (v (n + 1, 2 * i + 1)) := by
  have := h.fam.c _ (ocI_ot hi)
  rwa [ocp_ot] at this
theorem OCN.c3 {w : World} {base nb n : Nat} {P : Pl} {F : Fls} {Q : Nat → Prop} {v : Nat × Nat → Value} {l : Nat × Nat → List FE} (h : OCN w base nb n P F Q v l) (i : Nat) (hi : i < F.nf) (hs : F.str i = false) : w.cell? ⟨F.fb, i * 18 + 3, none⟩ = some (v (n + 1, 2 * i)) := by
  have := h.fam.c _ (ocI_op hi)
  rw [ocp_op, hs] at this
  exact this
theorem OCN.cy {w : World} {base nb n : Nat} {P : Pl} {F : Fls} {Q : Nat → Prop} {v : Nat × Nat → Value} {l : Nat × Nat → List FE} (h : OCN w base nb n P F Q v l) (i : Nat) (hi : i < F.nf) (hs : F.str i = true) : w.cell? ⟨F.y i, 3, none⟩ = some (v (n + 1, 2 * i)) ∧ w.frozen? ⟨F.y i, 3, none⟩ = false := by
  have h1 := h.fam.c _ (ocI_op hi)
  have h2 := h.fam.f _ (ocI_op hi)
  rw [ocp_op, hs] at h1 h2
  exact ⟨h1, h2⟩
theorem OCN.ofl_id {w : World} {base nb n : Nat} {P : Pl} {F : Fls} {Q : Nat → Prop} {v : Nat × Nat → Value} {l : Nat × Nat → List FE} (h : OCN w base nb n P F Q v l) (i : Nat) (hi : i < F.nf) (hs : F.str i = false) : OFl w F.fb (i * 18) (F.d i) 1 .nilIface (v (n + 1, 2 * i)) (v (n + 1, 2 * i + 1)) where
  c0 := h.st i 0 hi ⟨by omega, by omega, by omega⟩
  c3 := h.c3 i hi hs
  c4 := h.c4 i hi
  c5 := h.st i 5 hi ⟨by omega, by omega, by omega⟩
  c6 := by have := h.st i 6 hi ⟨by omega, by omega, by omega⟩; unfold stC at this; rw [hs] at this; exact this
  c7 := h.st i 7 hi ⟨by omega, by omega, by omega⟩
  c15 := by have := h.st i 15 hi ⟨by omega, by omega, by omega⟩; unfold stC at this; rw [hs] at this; exact this
  nx := h.nd i hi
theorem OCN.ofl_str {w : World} {base nb n : Nat} {P : Pl} {F : Fls} {Q : Nat → Prop} {v : Nat × Nat → Value} {l : Nat × Nat → List FE} (h : OCN w base nb n P F Q v l) (i : Nat) (hi : i < F.nf) (hs : F.str i = true) : OFl w F.fb (i * 18) (F.d i) 3 (litS (F.y i)) (.slice none 0 0) (v (n + 1, 2 * i + 1)) where
  c0 := h.st i 0 hi ⟨by omega, by omega, by omega⟩
  c3 := h.st i 3 hi ⟨by omega, by omega, fun _ => hs⟩
  c4 := h.c4 i hi
  c5 := h.st i 5 hi ⟨by omega, by omega, by omega⟩
  c6 := by have := h.st i 6 hi ⟨by omega, by omega, by omega⟩; unfold stC at this; rw [hs] at this; exact this
  c7 := h.st i 7 hi ⟨by omega, by omega, by omega⟩
  c15 := by have := h.st i 15 hi ⟨by omega, by omega, by omega⟩; unfold stC at this; rw [hs] at this; exact this
  nx := h.nd i hi

set_option maxRecDepth 100000 in
theorem meth_ObjectField (pb : Nat) (w : World) (h : IsPass w pb) : (method 391 88 (.pointer (some ⟨pb, 0, none⟩)) "ObjectField").run Tryz.prog w = .ok (98, .pointer (some ⟨pb, 0, none⟩)) w :=
  meth_base w pb h _ _ 390 (by kernel_rfl) base_field
set_option maxRecDepth 100000 in
theorem nilA_ObjectField (pb : Nat) (w : World) : (nilAhead 391 88 (.pointer (some ⟨pb, 0, none⟩)) "ObjectField").run Tryz.prog w = .ok (some false) w := by kernel_rfl
set_option maxRecDepth 100000 in
theorem meth_ObjectFields (pb : Nat) (w : World) (h : IsPass w pb) : (method 391 88 (.pointer (some ⟨pb, 0, none⟩)) "ObjectFields").run Tryz.prog w = .ok (72, .pointer (some ⟨pb, 0, none⟩)) w :=
  meth_base w pb h _ _ 390 (by kernel_rfl) base_field
set_option maxRecDepth 100000 in
theorem nilA_ObjectFields (pb : Nat) (w : World) : (nilAhead 391 88 (.pointer (some ⟨pb, 0, none⟩)) "ObjectFields").run Tryz.prog w = .ok (some false) w := by kernel_rfl

/-- The pass's ObjectField at field i. -/
theorem baseField_any (w : World) (base nb n : Nat) (P : Pl) (F : Fls) (Q : Nat → Prop) (v : Nat × Nat → Value) (l : Nat × Nat → List FE) (h : OCN w base nb n P F Q v l)  (r : Value) (pb : Nat) (hpb : IsPass w pb) (ctx : Value) (i : Nat) (hi : i < F.nf) :
    Calls Tryz.prog 98 #[r, .iface 88 (.pointer (some ⟨pb, 0, none⟩)), .pointer (some ⟨F.fb, i * 18, none⟩), ctx] w fun e w' => e = .returned (.tuple #[]) ∧ Kept [] w w' := by
  cases hs : F.str i
  · exact baseField_id w base r pb F.fb (i * 18) (F.d i) hpb ctx _ _ _ _ (h.ofl_id i hi hs) (h.fam.fod _ (ocI_op hi)) (h.fam.fod _ (ocI_ot hi))
  · exact baseField_str w base r pb F.fb (i * 18) (F.d i) (F.y i) hpb ctx _ _ _ _ (h.ofl_str i hi hs) (h.fam.fod _ (ocI_op hi)) (h.fam.fod _ (ocI_ot hi)) (h.cy i hi hs).1 (h.cy i hi hs).2

set_option maxRecDepth 100000 in
set_option maxHeartbeats 8000000 in
theorem base_ObjectFields (w : World) (base nb n : Nat) (P : Pl) (F : Fls) (Q : Nat → Prop) (v : Nat × Nat → Value) (l : Nat × Nat → List FE) (h : OCN w base nb n P F Q v l)  (r : Value) (pb : Nat) (hpb : IsPass w pb) (ctx : Value) :
    Calls Tryz.prog 72 #[r, .iface 88 (.pointer (some ⟨pb, 0, none⟩)), .pointer (some ⟨nb, 0, none⟩), ctx] w fun e w' => e = .returned (.tuple #[]) ∧ Kept [] w w' := by
  have hn1 := nilA_ObjectField pb
  have c0 := h.c0
  obtain ⟨ml1, ml2, ml3⟩ := h.ml
  unfold maxLen at ml2
  have H := Lib.hid h; clear h
  have HPB := Lib.hid hpb; clear hpb
  obtain ⟨NF, hNF⟩ : ∃ m, F.nf = m := ⟨_, rfl⟩
  rw [hNF] at c0 ml1 ml3
  have HNF := Lib.hid hNF; clear hNF
  go_enter Tryz.func72, Tryz.ntmps72
  go_wp2_with fail
  go_loopw [13] (fun i wr => ∃ k : Nat, k ≤ NF ∧ i = .int .i64 k ∧ Kept [] w wr) (fun i _ => NF - (intOf i).toNat)
  case atStart => exact ⟨0, Nat.zero_le _, rfl, Kept.refl _ _⟩
  case round =>
    obtain ⟨k, hk, rfl, hb⟩ := hrel
    have HB := Lib.hid hb; clear hb
    by_cases hlt : k < NF
    · have c0 := HB.out.cell c0 (by simp)
      have i1 : (0 : Int) ≤ (k : Int) := by omega
      have i2 : (k : Int) < (NF : Int) := by omega
      have hm1 := meth_ObjectField pb wr.drew (HPB.out.kept HB.out.drew (by simp))
      go_wp2_with fail
      go_still_tail 11, (by kernel_rfl)
      go_wp2_with fail
      refine (baseField_any _ base nb n P F Q v l (H.out.kept HB.out.drew) _ pb (HPB.out.kept HB.out.drew (by simp)) _ k (by rw [HNF.out]; exact hlt)).mono ?_
      rintro e w' ⟨rfl, k2⟩
      have K2 := Lib.hid (HB.out.drew.trans k2); clear k2
      go_wp2_with fail
      go_roundw
      case rel => exact ⟨k + 1, by omega, by go_num, K2.out⟩
      case measure => simp [intOf]; omega
    · obtain rfl : k = NF := by omega
      go_wp2_with fail
      go_end0
      exact ⟨rfl, HB.out⟩

set_option maxRecDepth 100000 in
set_option maxHeartbeats 8000000 in
theorem base_ObjectComp (w : World) (base nb n : Nat) (P : Pl) (F : Fls) (Q : Nat → Prop) (v : Nat × Nat → Value) (l : Nat × Nat → List FE) (h : OCN w base nb n P F Q v l) (hk : ∀ x, ocI P n F x → Kinds (l x)) (r : Value) (pb : Nat) (hpb : IsPass w pb) (ctx : Value) :
    Calls Tryz.prog 38 #[r, .iface 88 (.pointer (some ⟨pb, 0, none⟩)), .pointer (some ⟨nb, 0, none⟩), ctx] w fun e w' => e = .returned (.tuple #[]) ∧ Kept [] w w' := by
  have hn1 := nilA_Fodder pb
  have hn2 := nilA_ObjectFields pb
  have hn3 := nilA_ForSpec pb
  have H := Lib.hid h; clear h
  have HKD := Lib.hid hk; clear hk
  have HPB := Lib.hid hpb; clear hpb
  have hfs : ∀ w' r, Kept [] w w' → Calls Tryz.prog 71 #[r, .iface 88 (.pointer (some ⟨pb, 0, none⟩)), .pointer (some ⟨nb, 3, none⟩), ctx] w' fun e w'' => e = .returned (.tuple #[]) ∧ Kept [] w' w'' := fun w' r q => by
    have h' := H.out.kept q
    have hpos := h'.pos
    have := forSpec_any base n P v l pb ctx (n - 1) (by omega) w' r (HPB.out.kept q (by simp)) h'.ch (h'.chf HKD.out)
    rw [h'.b, h'.o] at this
    exact this
  have HFS := Lib.hid hfs; clear hfs
  go_enter Tryz.func38, Tryz.ntmps38
  have hm := meth_ObjectFields pb w.drew (HPB.out.kept (Kept.refl [] w).drew (by simp))
  go_wp2_with fail
  go_still_tail 9, (by kernel_rfl)
  go_wp2_with fail
  refine (base_ObjectFields _ base nb n P F Q v l (H.out.kept (Kept.refl [] w).drew) _ pb (HPB.out.kept (Kept.refl [] w).drew (by simp)) _).mono ?_
  rintro e w1 ⟨rfl, k⟩
  have k' := Kept.trans ((Kept.refl [] w).drew) k
  have K_w1 := Lib.hid k'; clear k' k hm
  have hm := meth_ForSpec pb w1.drew (HPB.out.kept K_w1.out.drew (by simp))
  go_wp2_with fail
  go_still_tail 9, (by kernel_rfl)
  go_wp2_with fail
  refine (HFS.out _ _ K_w1.out.drew).mono ?_
  rintro e w2 ⟨rfl, k⟩
  have k' := Kept.trans (K_w1.out.drew) k
  have K_w2 := Lib.hid k'; clear k' k hm
  have hm := meth_Fodder pb w2.drew (HPB.out.kept K_w2.out.drew (by simp))
  go_wp2_with fail
  go_still_tail 9, (by kernel_rfl)
  go_wp2_with fail
  refine (passFodder _ base _ pb nb (2) (HPB.out.kept K_w2.out.drew (by simp)) _ (v (n, 0)) (l (n, 0)) ((H.out.kept K_w2.out.drew).fam.fod _ (Or.inr (Or.inl rfl))) (H.out.kept K_w2.out.drew).cc).mono ?_
  rintro e w3 ⟨rfl, k⟩
  have k' := Kept.trans (K_w2.out.drew) k
  have K_w3 := Lib.hid k'; clear k' k hm
  go_wp2_with fail
  go_end0
  exact ⟨rfl, K_w3.out⟩
end Go.Proofs.YtgdipdbmllkckaaGreatFmt
