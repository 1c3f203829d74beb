/- Chains of locals in memory; the contracts of buildGroupAST, ZZB2buildGroupAST, ZZB2localBodyLocal, ZZB2elemAdjacent. -/
import Derived.Test.YtddcpnhpjgeldaaH1
import Derived.Test.YtddcpnhpjgeldaaG3
namespace Go.Proofs.Ytddcpnhpjgeldaa
attribute [local go_sem ↓] Go.wp_at_zero Go.wp_at_succ
open Go.ChangeShapes Go.WideShapes Go.ChangeAt Go.RowKit

def RI (_ : World) (cs : List Value) (y : IE) : Prop := cs = encI y
def RdI := Rd 14 RI
theorem RdI.kept0 {w w' : World} {a : Option Addr} {len cap : Nat} {ys : List IE} (h : RdI w a len cap ys) (hk : Kept [] w w') : RdI w' a len cap ys :=
  Rd.kept h hk (by simp) (fun _ _ h => h)
theorem RdI.row {w : World} {a : Option Addr} {len cap : Nat} {ys : List IE} (h : RdI w a len cap ys) (i : Nat) (hi : i < len) :
    ∃ b o y, ys[i]? = some y ∧ a = some ⟨b, o, none⟩ ∧ b < w.heap.size ∧ ∀ j, j < 14 → w.cell? ⟨b, o + i * 14 + j, none⟩ = (encI y)[j]? := by
  have hl : i < ys.length := by have := h.len; omega
  obtain ⟨b, o, cs, h1, h2, h3, h4, h5⟩ := h.at' i ys[i] (List.getElem?_eq_getElem hl)
  have h4' : cs = encI ys[i] := h4
  subst h4'
  exact ⟨b, o, ys[i], List.getElem?_eq_getElem hl, h1, h2, h5⟩
theorem OwnR.rdi {w : World} {base : Nat} {a : Option Addr} {n cap : Nat} {ys : List IE} (h : OwnR 70 14 encI w base (.slice a n cap) ys) : RdI w a n cap ys :=
  OwnR.rd h encI_len RI ys rfl (fun i y d h1 h2 => by rw [h1] at h2; obtain rfl : y = d := by simpa using h2
                                                      rfl)

theorem heap_new (w : World) (cs : Array Value) (t : TypeId) (n : Nat) (hn : n = w.heap.size) : (w.alloc (.cells cs t)).heap[n]? = some (.cells cs t (0, 0)) := by
  subst hn
  exact heap_alloc_new w _
/-- From p on stands a chain of locals of one bind each, with these variables and these fodders' codes; it ends at send. -/
def ChainL (w : World) (lo send : Nat) : Nat → List (ByteArray × List ZE) → Prop
  | p, [] => p = send
  | p, x :: r => lo ≤ p ∧ (∃ cs, w.heap[p]? = some (.cells cs 60 (0, 0))) ∧ ∃ bb q fv b l, w.cell? ⟨p, 0, none⟩ = some (.slice (some ⟨bb, 0, none⟩) 1 1) ∧ w.cell? ⟨bb, 3, none⟩ = some (.string x.1) ∧ w.cell? ⟨p, 2, none⟩ = some fv ∧ Fod w b fv l ∧ codes l = x.2 ∧
      w.cell? ⟨p, 1, none⟩ = some (.iface 34 (.pointer (some ⟨q, 0, none⟩))) ∧ ChainL w lo send q r
theorem ChainL.kept0 {w w' : World} {lo send : Nat} (k : Kept [] w w') (L : List (ByteArray × List ZE)) : ∀ p, ChainL w lo send p L → ChainL w' lo send p L := by
  induction L with
  | nil => intro p h; exact h
  | cons x r ih =>
    rintro p ⟨h0, ⟨bcs, hb⟩, bb, q, fv, b, l, h1, h2, h3, h4, h5, h6, h7⟩
    exact ⟨h0, ⟨bcs, k.heap hb (by simp)⟩, bb, q, fv, b, l, k.cell h1 (by simp), k.cell h2 (by simp), k.cell h3 (by simp), h4.kept k (by simp), h5, k.cell h6 (by simp), ih q h7⟩
theorem ChainL.app {w : World} {lo send q : Nat} (B : List (ByteArray × List ZE)) (hB : ChainL w lo send q B) (A : List (ByteArray × List ZE)) : ∀ p, ChainL w lo q p A → ChainL w lo send p (A ++ B) := by
  induction A with
  | nil => intro p h; obtain rfl : p = q := h; exact hB
  | cons x r ih =>
    rintro p ⟨h0, ⟨bcs, hb⟩, bb, q', fv, b, l, h1, h2, h3, h4, h5, h6, h7⟩
    exact ⟨h0, ⟨bcs, hb⟩, bb, q', fv, b, l, h1, h2, h3, h4, h5, h6, ih q' h7⟩
theorem ChainL.low {w : World} {lo lo' send : Nat} (hl : lo' ≤ lo) (L : List (ByteArray × List ZE)) : ∀ p, ChainL w lo send p L → ChainL w lo' send p L := by
  induction L with
  | nil => intro p h; exact h
  | cons x r ih =>
    rintro p ⟨h0, ⟨bcs, hb⟩, bb, q, fv, b, l, h1, h2, h3, h4, h5, h6, h7⟩
    exact ⟨Nat.le_trans hl h0, ⟨bcs, hb⟩, bb, q, fv, b, l, h1, h2, h3, h4, h5, h6, ih q h7⟩

/-- The fodder that opens the i-th local of a group. -/
def fvAt (gv : Value) (ys : List IE) (i : Nat) : Value := if i = 0 then gv else (ys.getD (i - 1) default).adj.val

set_option maxRecDepth 100000 in
set_option maxHeartbeats 4000000 in
theorem buildGroup_any (w : World) (a : Option Addr) (n c : Nat) (ys : List IE) (ga : Option Addr) (gn gc : Nat) (send : Nat) (L : List (ByteArray × List ZE)) (h : RdI w a n c ys) (hL : L.length = n)
    (hF : ∀ (i : Nat) y, ys[i]? = some y → ∃ cs b l, L[i]? = some (y.var, cs) ∧ Fod w b (fvAt (.slice ga gn gc) ys i) l ∧ codes l = cs) (hlen : n ≤ 1048577) :
    Calls Try.prog 34 #[.slice a n c, .iface 34 (.pointer (some ⟨send, 0, none⟩)), .slice ga gn gc] w fun e w' => ∃ p, e = .returned (.iface 34 (.pointer (some ⟨p, 0, none⟩))) ∧ ChainL w' w.heap.size send p L ∧ Kept [] w w' := by
  have hle := h.le
  have htop := h.top
  have hyl := h.len
  unfold maxLen at htop
  have HYL := Lib.hid hyl; clear hyl
  have H := Lib.hid h; clear h
  have HF := Lib.hid hF; clear hF
  have HLL := Lib.hid hL; clear hL
  go_enter Try.func34, Try.ntmps34
  go_wp2_with fail
  go_loopw [1, 7] (fun bv i wr => ∃ (k p : Nat) (x : Int), k ≤ n ∧ x = (k : Int) - 1 ∧ i = .int .i64 x ∧ bv = .iface 34 (.pointer (some ⟨p, 0, none⟩)) ∧ ChainL wr w.heap.size send p (L.drop k) ∧ Kept [] w wr) (fun _ i _ => (intOf i + 1).toNat)
  case atStart => exact ⟨n, send, _, Nat.le_refl _, rfl, rfl, rfl, by rw [List.drop_eq_nil_iff.2 (by rw [HLL.out]; exact Nat.le_refl _)]; rfl, Kept.refl _ _⟩
  case round =>
    obtain ⟨k, p, x, hk, hx, rfl, rfl, hc, hb⟩ := hrel
    have HB := Lib.hid hb; clear hb
    have HC := Lib.hid hc; clear hc
    by_cases hk0 : k = 0
    · subst hk0
      have hx0 : x < 0 := by omega
      clear hx
      go_wp2_with fail
      go_ret
      exact ⟨p, rfl, by have := HC.out; rwa [List.drop_zero] at this, HB.out⟩
    · obtain ⟨j, rfl⟩ : ∃ j, k = j + 1 := ⟨k - 1, by omega⟩
      obtain rfl : x = (j : Int) := by omega
      clear hx hk0
      obtain ⟨b, o, y, hy, rfl, hbl, hcc⟩ := (H.out.kept0 HB.out).row j (by omega)
      obtain ⟨cs, fb, fl, hLj, hfd, hfc⟩ := HF.out j y hy
      have hdr : L.drop j = (y.var, cs) :: L.drop (j + 1) := by
        obtain ⟨h1, h2⟩ := List.getElem?_eq_some_iff.1 hLj
        rw [List.drop_eq_getElem_cons h1, h2]
      have HD := Lib.hid hdr; clear hdr hLj hy
      have HFC := Lib.hid hfc; clear hfc
      obtain ⟨⟨fa, fn, fcc⟩, key, var, imp⟩ := y
      dsimp only at HD
      have e0 := hcc 0 (by omega)
      have e1 := hcc 1 (by omega)
      have e2 := hcc 2 (by omega)
      have e3 := hcc 3 (by omega)
      have e4 := hcc 4 (by omega)
      have e5 := hcc 5 (by omega)
      have e6 := hcc 6 (by omega)
      have e7 := hcc 7 (by omega)
      have e8 := hcc 8 (by omega)
      have e9 := hcc 9 (by omega)
      have e10 := hcc 10 (by omega)
      have e11 := hcc 11 (by omega)
      have e12 := hcc 12 (by omega)
      have e13 := hcc 13 (by omega)
      clear hcc
      simp only [encI, Trip.val, Nat.add_zero, List.getElem?_cons_succ, List.getElem?_cons_zero] at e0 e1 e2 e3 e4 e5 e6 e7 e8 e9 e10 e11 e12 e13
      have i1 : (0 : Int) ≤ (j : Int) := by omega
      have i2 : (j : Int) < (n : Int) := by omega
      have f3 : wr.cell? ⟨b, o + j * 14 + 2 + 1, none⟩ = _ := e3
      have f4 : wr.cell? ⟨b, o + j * 14 + 2 + 2, none⟩ = _ := e4
      have f5 : wr.cell? ⟨b, o + j * 14 + 2 + 3, none⟩ = _ := e5
      have f6 : wr.cell? ⟨b, o + j * 14 + 2 + 4, none⟩ = _ := e6
      have f7 : wr.cell? ⟨b, o + j * 14 + 2 + 5, none⟩ = _ := e7
      have f8 : wr.cell? ⟨b, o + j * 14 + 2 + 6, none⟩ = _ := e8
      have f9 : wr.cell? ⟨b, o + j * 14 + 2 + 7, none⟩ = _ := e9
      have f10 : wr.cell? ⟨b, o + j * 14 + 2 + 8, none⟩ = _ := e10
      have f11 : wr.cell? ⟨b, o + j * 14 + 2 + 9, none⟩ = _ := e11
      have f12 : wr.cell? ⟨b, o + j * 14 + 2 + 10, none⟩ = _ := e12
      have f13 : wr.cell? ⟨b, o + j * 14 + 2 + 11, none⟩ = _ := e13
      by_cases hj0 : j = 0
      · subst hj0
        have hfd0 : Fod w fb (.slice ga gn gc) fl := hfd
        have HFD := Lib.hid hfd0; clear hfd hfd0
        go_wp2_with fail
        refine ⟨⟨0, wr.heap.size + 1, _, by omega, ?_, rfl, rfl, ?_, (HB.out.alloc _).alloc _⟩, ?_⟩
        · first | omega | (unfold wrap64; omega)
        · rw [HD.out]
          have HQ := Kept.refl [] wr
          refine ⟨Nat.le_trans HB.out.size (by omega), ⟨_, heap_new (wr.alloc _) _ _ _ (by simp)⟩, wr.heap.size, p, .slice ga gn gc, fb, fl, cell_new (wr.alloc _) _ _ _ (by simp) 0, ?_, cell_new (wr.alloc _) _ _ _ (by simp) 2, ?_, HFC.out, cell_new (wr.alloc _) _ _ _ (by simp) 1, ?_⟩
          · exact ((Kept.refl [] _).alloc _).cell (cell_new wr _ _ _ rfl 3) (by simp)
          · exact HFD.out.kept ((HB.out.alloc _).alloc _) (by simp)
          · exact ChainL.kept0 (((Kept.refl [] wr).alloc _).alloc _) _ _ HC.out
        · simp only [intOf]; omega
      · obtain ⟨q, hq⟩ : ∃ q : Nat, (j : Int) - 1 = q := ⟨j - 1, by omega⟩
        obtain ⟨b', o', y', hy', hx', -, hcc'⟩ := (H.out.kept0 HB.out).row q (by omega)
        obtain ⟨rfl, rfl⟩ : b = b' ∧ o = o' := by simpa using hx'
        clear hx'
        have d0 := hcc' 0 (by omega)
        clear hcc'
        obtain ⟨⟨ya, yn, yc⟩, ykey, yvar, yimp⟩ := y'
        simp only [encI, Trip.val, Nat.add_zero, List.getElem?_cons_zero] at d0
        have hfd0 : Fod w fb (.slice ya yn yc) fl := by
          have e : fvAt (.slice ga gn gc) ys j = .slice ya yn yc := by
            unfold fvAt
            rw [if_neg hj0, show j - 1 = q by omega, List.getD_eq_getElem?_getD, hy']
            rfl
          rw [← e]
          exact hfd
        have HFD := Lib.hid hfd0; clear hfd hfd0 hy'
        have i3 : (0 : Int) ≤ (q : Int) := by omega
        have i4 : (q : Int) < (n : Int) := by omega
        have hj0' : ((j : Int) == 0) = false := by simpa using hj0
        go_wp2_with fail
        refine ⟨⟨j, wr.heap.size + 1, _, by omega, ?_, rfl, rfl, ?_, (HB.out.alloc _).alloc _⟩, ?_⟩
        · first | omega | (unfold wrap64; omega)
        · rw [HD.out]
          have HQ := Kept.refl [] wr
          refine ⟨Nat.le_trans HB.out.size (by omega), ⟨_, heap_new (wr.alloc _) _ _ _ (by simp)⟩, wr.heap.size, p, .slice ya yn yc, fb, fl, cell_new (wr.alloc _) _ _ _ (by simp) 0, ?_, cell_new (wr.alloc _) _ _ _ (by simp) 2, ?_, HFC.out, cell_new (wr.alloc _) _ _ _ (by simp) 1, ?_⟩
          · exact ((Kept.refl [] _).alloc _).cell (cell_new wr _ _ _ rfl 3) (by simp)
          · exact HFD.out.kept ((HB.out.alloc _).alloc _) (by simp)
          · exact ChainL.kept0 (((Kept.refl [] wr).alloc _).alloc _) _ _ HC.out
        · simp only [intOf]; omega

set_option maxRecDepth 100000 in
set_option maxHeartbeats 4000000 in
theorem buildZ_any (w : World) (a : Option Addr) (n c : Nat) (ys : List IE) (ga : Option Addr) (gn gc : Nat) (send : Nat) (L : List (ByteArray × List ZE)) (h : RdI w a n c ys) (hL : L.length = n)
    (hF : ∀ (i : Nat) y, ys[i]? = some y → ∃ cs b l, L[i]? = some (y.var, cs) ∧ Fod w b (fvAt (.slice ga gn gc) ys i) l ∧ codes l = cs) (hlen : n ≤ 1048577) :
    Calls Try.prog 19 #[.slice a n c, .pointer (some ⟨send, 0, none⟩), .slice ga gn gc] w fun e w' => ∃ p, e = .returned (.pointer (some ⟨p, 0, none⟩)) ∧ ChainL w' w.heap.size send p L ∧ Kept [] w w' := by
  have HC := Lib.hid (buildGroup_any w a n c ys ga gn gc send L h hL hF hlen)
  clear h hF
  go_enter Try.func19, Try.ntmps19
  go_wp2_with fail
  refine HC.out.mono ?_
  rintro e w1 ⟨p, rfl, hc, k1⟩
  have HCH := Lib.hid hc; clear hc
  have K1 := Lib.hid k1; clear k1
  have ta_y := fun w : World => ta_yes_Local (.pointer (some ⟨p, 0, none⟩)) 47 w
  go_wp2_with fail
  go_ret
  exact ⟨p, rfl, HCH.out, K1.out⟩

set_option maxRecDepth 100000 in
theorem bodyLocal_any (w : World) (p q : Nat) (h : w.cell? ⟨p, 1, none⟩ = some (.iface 34 (.pointer (some ⟨q, 0, none⟩)))) :
    Calls Try.prog 36 #[.pointer (some ⟨p, 0, none⟩)] w fun e w' => e = .returned (.pointer (some ⟨q, 0, none⟩)) ∧ w = w' := by
  have ta_y := fun w : World => ta_yes_Local (.pointer (some ⟨q, 0, none⟩)) 47 w
  go_enter Try.func36, Try.ntmps36
  go_wp2_with fail
  go_ret
  exact ⟨rfl, rfl⟩

set_option maxRecDepth 100000 in
theorem elemAdj_any (w : World) (v0 v1 v2 v3 v4 v5 v6 v7 v8 v9 v10 v11 v12 v13 : Value) :
    Calls Try.prog 22 #[.agg #[v0, v1, v2, v3, v4, v5, v6, v7, v8, v9, v10, v11, v12, v13]] w fun e w' => e = .returned v0 ∧ Kept [] w w' := by
  go_enter Try.func22, Try.ntmps22
  go_wp2_with fail
  go_ret
  exact ⟨rfl, (Kept.refl _ _).alloc _⟩
end Go.Proofs.Ytddcpnhpjgeldaa
