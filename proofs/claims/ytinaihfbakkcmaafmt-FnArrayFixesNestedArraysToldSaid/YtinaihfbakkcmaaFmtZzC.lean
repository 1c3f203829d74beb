/- The contract of n008_50's zzFodderCloneB1 at fodders without comments. -/
import Derived.Test.YtinaihfbakkcmaaFmtZzE
import Derived.Test.YtinaihfbakkcmaaFmtRmC
namespace Go.Proofs.YtinaihfbakkcmaaFmt
open Go.ChangeShapes Go.WideShapes Go.ChangeAt Go.RowKit

/-- The first m elements of l' are those of l, but for where their comments lie. -/
def UpTo (l l' : List FE) (m : Nat) : Prop := l'.length = l.length ∧ ∀ (j : Nat) x y, j < m → l[j]? = some x → l'[j]? = some y → SameE x y

theorem UpTo.put {l l' : List FE} {m : Nat} {x y : FE} (h : UpTo l l' m) (hm : m < l.length) (hx : l[m]? = some x) (hs : SameE x y) : UpTo l (l'.set m y) (m + 1) := by
  refine ⟨by simpa using h.1, fun j a b hj ha hb => ?_⟩
  by_cases e : j = m
  · subst e
    rw [List.getElem?_set_self (by rw [h.1]; exact hm)] at hb
    rw [hx] at ha
    simp only [Option.some.injEq] at ha hb
    subst ha hb
    exact hs
  · rw [List.getElem?_set_ne (Ne.symm e)] at hb
    exact h.2 j a b (by omega) ha hb

theorem UpTo.same {l l' : List FE} (h : UpTo l l' l.length) : SameL l l' := ⟨h.1.symm, fun j a b ha hb => h.2 j a b (List.getElem?_eq_some_iff.1 ha).1 ha hb⟩

set_option maxRecDepth 100000 in
set_option maxHeartbeats 4000000 in
theorem zzClone_any (w : World) (base : Nat) (v : Value) (l : List FE) (h : Fod w base v l) (hp : Plain l) (hlen : l.length ≤ 1048576) :
    Calls Tryf.prog 18 #[v] w fun e w' => ∃ v' l', e = .returned v' ∧ Fod w' w.heap.size v' l' ∧ SameL l l' ∧ Kept [] w w' := by
  have heq := fun (w : World) (a : Option Addr) (l c : Nat) => Lib.run_eql_slice_nil (P := Tryf.prog) w 29 50 a l c 0 0 Tryf.underlying29
  have hneq := fun (w : World) (a : Option Addr) (l c : Nat) => run_neq_slice_nil_any (P := Tryf.prog) w 47 9 a l c 0 0 Tryf.underlying47
  have hmk : ∀ w, (Instr.makeSlice 47 (.int .i64 0) (.int .i64 0)).run Tryf.prog w = .ok (.slice (some ⟨w.heap.size, 0, none⟩) 0 0) (w.alloc (.cells #[] 9)) := fun _ => by kernel_rfl
  obtain ⟨a, cap, rfl, hlc, hcm, ha⟩ := h.slice
  unfold maxLen at hcm
  cases a with
  | none =>
    have hl0 : l = [] := by
      rcases Nat.eq_zero_or_pos l.length with h0 | h0
      · exact List.length_eq_zero_iff.1 h0
      · obtain ⟨g, hg, _⟩ := ha 0 h0
        cases hg
    subst hl0
    clear ha hp h
    go_enter Tryf.func18, Tryf.ntmps18
    go_wp2
    go_ret
    exact ⟨.slice none 0 0, [], rfl, World.ownsRow_nil _ _ _ _, ⟨rfl, fun j a b ha => by simp at ha⟩, Kept.refl _ _⟩
  | some x =>
    obtain ⟨n, hn⟩ : ∃ n, l.length = n := ⟨_, rfl⟩
    have H := Lib.hid h; clear h
    have HP := Lib.hid hp; clear hp
    have HA := Lib.hid ha; clear ha
    rw [hn] at hlc hlen ⊢
    have HN := Lib.hid hn; clear hn
    obtain ⟨i0, hi, hz0, hz1, hz2⟩ := info_parts Tryf.infoFE
    go_enter Tryf.func18, Tryf.ntmps18
    go_wp2_with (at_make; refine wpList_make_full _ rfl _ _ 29 rfl w.heap.size 50 i0 _ 4 Tryf.underlying29 hi hz0 hz1 _ _ _ _ n rfl rfl rfl rfl ?b2 ?b3 (Nat.le_refl _) ?_)
    case b2 => rw [hz2]; omega
    case b3 => unfold maxLen; omega
    intro w1 hown hgrow
    have hf : ∃ l', UpTo l l' 0 ∧ Fod w1 w.heap.size (.slice (some ⟨w.heap.size, 0, none⟩) n n) l' := by
      refine ⟨List.replicate n FE.zero, ⟨by simp [HN.out], fun j x y hj => by omega⟩, ?_⟩
      unfold Fod
      rw [List.length_replicate, ← made_flat]
      exact hown
    have hb : Kept [] w w1 := (Kept.refl _ _).grown hgrow (by simp)
    clear hown hgrow hi hz0 hz1 hz2 heq
    obtain ⟨B, hB⟩ : ∃ B, w.heap.size = B := ⟨_, rfl⟩
    rw [hB] at hf ⊢
    have HBB := Lib.hid hB; clear hB
    have HF := Lib.hid hf; clear hf
    have HB := Lib.hid hb; clear hb
    go_wp2_with fail
    go_loopw [4] (fun i wr => ∃ m : Nat, m ≤ n ∧ i = .int .i64 m ∧ Hid (∃ l', UpTo l l' m ∧ Fod wr B (.slice (some ⟨B, 0, none⟩) n n) l') ∧ Hid (Kept [] w wr)) (fun i _ => n - (intOf i).toNat)
    case atStart => exact ⟨0, Nat.zero_le _, rfl, HF, HB⟩
    case round =>
      clear HF HB
      obtain ⟨m, hm, rfl, HF, HB⟩ := hrel
      by_cases hlt : m < n
      · obtain ⟨g, hg, hg1, hg2⟩ := HA.out m (by rw [HN.out]; exact hlt)
        obtain rfl : x = ⟨g, 0, none⟩ := by simpa using hg
        clear hg
        obtain ⟨e, he, c0, c1, c2, c3⟩ := (H.out.kept HB.out (by simp)).cells m (by rw [HN.out]; exact hlt)
        have hcl : e.cl = 0 := HP.out e (List.mem_of_getElem? he)
        obtain ⟨ea, el, ec, ek, eb, ei⟩ := e
        dsimp only at c0 c1 c2 c3 hcl
        subst hcl
        have HE := Lib.hid he; clear he
        obtain ⟨l', hu, hf⟩ := HF.out
        obtain ⟨z, hz, q0, q1, q2, q3⟩ := hf.cells m (by rw [hu.1, HN.out]; exact hlt)
        have f0 := hf.frozen (m * 4)
        have f1 := hf.frozen (m * 4 + 1)
        have f2 := hf.frozen (m * 4 + 2)
        have f3 := hf.frozen (m * 4 + 3)
        have hBl : B < wr.heap.size := by
          have := World.block_lt_of_cell? wr _ q0
          simpa using this
        have hput : ∀ (ca : Option Addr) (cc : Nat), Fod (put4 wr B m ⟨ca, 0, cc, ek, eb, ei⟩) B (.slice (some ⟨B, 0, none⟩) n n) (l'.set m ⟨ca, 0, cc, ek, eb, ei⟩) := fun ca cc => hf.put m _ (by rw [hu.1, HN.out]; exact hlt)
        have hkp : ∀ (ca : Option Addr) (cc : Nat), Kept [B] wr (put4 wr B m ⟨ca, 0, cc, ek, eb, ei⟩) := fun ca cc => (Kept.refl _ _).put (Or.inl (by simp)) _
        have hup : ∀ (ca : Option Addr) (cc : Nat), UpTo l (l'.set m ⟨ca, 0, cc, ek, eb, ei⟩) (m + 1) := fun ca cc => hu.put (by rw [HN.out]; exact hlt) HE.out ⟨rfl, rfl, rfl, rfl, rfl⟩
        have hwB : ∀ x ∈ [B], x ∈ ([] : List Nat) ∨ w.heap.size ≤ x := by intro x hx; simp at hx; exact Or.inr (by rw [HBB.out]; omega)
        unfold put4 at hput hkp
        dsimp only at hput hkp
        have HPU := Lib.hid hput; clear hput
        have HKP := Lib.hid hkp; clear hkp
        have HUP := Lib.hid hup; clear hup
        have HWB := Lib.hid hwB; clear hwB
        clear hz hf hu HF
        cases ea with
        | none =>
          go_wp2_with fail
          exact ⟨⟨m + 1, by omega, by go_num, Lib.hid ⟨_, HUP.out none 0, (HPU.out none 0).kept ((Kept.refl [] _).alloc _) (by simp)⟩, Lib.hid ((HB.out.then (HKP.out none 0) HWB.out).alloc _)⟩, by simp [intOf]; omega⟩
        | some y =>
          go_wp2_with fail
          refine wp_loop_rounds 1 ?_
          rw [rounds_succ]
          go_wp2_with fail
          exact ⟨⟨m + 1, by omega, by go_num, Lib.hid ⟨_, HUP.out _ 0, (HPU.out _ 0).kept (((Kept.refl [] _).alloc _).alloc _) (by simp)⟩, Lib.hid (((HB.out.then (HKP.out _ 0) HWB.out).alloc _).alloc _)⟩, by simp [intOf]; omega⟩
      · obtain rfl : m = n := by omega
        go_wp2_with fail
        go_ret
        obtain ⟨l', hu, hf⟩ := HF.out
        rw [HBB.out]
        exact ⟨_, l', rfl, hf, (HN.out ▸ hu : UpTo l l' l.length).same, HB.out⟩
end Go.Proofs.YtinaihfbakkcmaaFmt
