/- FnRemovePlusRewriteTable: what its walks share. -/
import Derived.Test.YtaedhbpfmjiheaaFmtRvL
import Derived.Test.YtaedhbpfmjiheaaFmtRvM
import Derived.LaidEql
namespace Go.Proofs.YtaedhbpfmjiheaaFmt
open Go.ChangeShapes Go.WideShapes Go.ChangeAt Go.RowKit

set_option maxRecDepth 100000 in
theorem node_iface : ∃ ms, Tryf.prog.underlying 23 = some (.interface ms) := ⟨_, Tryf.underlying23⟩
theorem neqI (w : World) (tp te : TypeId) (a : Addr) (hp : Tryf.prog.underlying tp = some (.pointer te)) (h1 : (Tryf.prog.info? tp).map (·.comparable) = some true) (h2 : (Tryf.prog.info? te).map (fun _ => true) = some true) :
    (binOp .neq 23 (.iface tp (.pointer (some a))) (.iface tp (.pointer (some a)))).run Tryf.prog w = .ok (.bool false) w := by
  obtain ⟨ms, hi⟩ := node_iface
  obtain ⟨i, hinfo, hc⟩ := Option.map_eq_some_iff.1 h1
  obtain ⟨j, hte, _⟩ := Option.map_eq_some_iff.1 h2
  simp only [binOp]
  simp [Op.equal, Op.maxDepth, run_equalIn_iface_ptr_same w 9998 a hi hp hinfo hc hte]
theorem neqP (w : World) (tp te : TypeId) (a : Addr) (hp : Tryf.prog.underlying tp = some (.pointer te)) (h2 : (Tryf.prog.info? te).map (fun _ => true) = some true) :
    (binOp .neq tp (.pointer (some a)) (.pointer (some a))).run Tryf.prog w = .ok (.bool false) w := by
  obtain ⟨j, hte, _⟩ := Option.map_eq_some_iff.1 h2
  have h : ∀ d : Nat, (Op.equalIn (d + 1) tp (.pointer (some a)) (.pointer (some a))).run Tryf.prog w = .ok true w := fun d => by
    simp [Op.equalIn, run_underlying hp, sizeOf, typeInfo, hte, run_sameAddr_same]
  simp only [binOp]
  simp [Op.equal, Op.maxDepth, h 9999]
theorem zzFodder_at (w : World) (n : Nat) (A k : Int) (hn : n ≤ 4096) (hA : A = (n : Int) - 1) : Calls Tryf.prog 5 #[.int .i64 (n : Int), .int .i64 A, .int .i64 k] w fun e w' => ∃ v l, e = .returned v ∧ Fod w' w.heap.size v l ∧ Bu n ((n : Int) - 1) k l ∧ Kept [] w w' := by
  subst hA
  exact zzFodder_any w n _ k hn
theorem zzBlanks_bu {w : World} {base : Nat} {v : Value} {l : List FE} {n : Nat} {pos k : Int} (h : Fod w base v l) (bu : Bu n pos k l) (hn : n ≤ 4096) (hp : 0 < n → ∃ p : Nat, p < n ∧ pos = (p : Int)) (hk : 0 ≤ k ∧ k ≤ 2) : Calls Tryf.prog 7 #[v] w fun e w' => e = .returned (.int .i64 (bB n k)) ∧ w' = w := by
  have := zzBlanks_any w base v l h bu.small (by rw [bu.len]; omega)
  rwa [(bu.sums hp hk).1] at this
theorem zzComments_bu {w : World} {base : Nat} {v : Value} {l : List FE} {n : Nat} {pos k : Int} (h : Fod w base v l) (bu : Bu n pos k l) (hn : n ≤ 4096) (hp : 0 < n → ∃ p : Nat, p < n ∧ pos = (p : Int)) (hk : 0 ≤ k ∧ k ≤ 2) : Calls Tryf.prog 9 #[v] w fun e w' => e = .returned (.int .i64 (bC n k)) ∧ w' = w := by
  have := zzComments_any w base v l h (by rw [bu.len]; omega)
  rwa [(bu.sums hp hk).2] at this
theorem bB_in (n : Nat) (k : Int) : 0 ≤ bB n k ∧ bB n k ≤ n := by
  unfold bB
  split <;> omega
theorem bC_in (n : Nat) (k : Int) : 0 ≤ bC n k ∧ bC n k ≤ 1 := by
  unfold bC
  split <;> omega
theorem three {w : World} (x y z : Obj) : (((w.alloc x).alloc y).alloc z).heap[w.heap.size]? = some x ∧ (((w.alloc x).alloc y).alloc z).heap[w.heap.size + 1]? = some y ∧ (((w.alloc x).alloc y).alloc z).heap[w.heap.size + 1 + 1]? = some z := by
  have e1 := (((Kept.refl [] _).alloc y).alloc z).heap (heap_alloc_new w x) (by simp)
  have e2 := ((Kept.refl [] _).alloc z).heap (heap_alloc_new (w.alloc x) y) (by simp)
  have e3 := heap_alloc_new ((w.alloc x).alloc y) z
  simp only [World.size_alloc] at e2 e3
  exact ⟨e1, e2, e3⟩
theorem El.clear {n : Nat} {pos k : Int} {l : List FE} (h : Bu n pos k l) (hk : 0 ≤ k ∧ k ≤ 2) : ∀ x, l[0]? = some x → x.k = 0 → x.cl = 0 := fun x hx hk0 => by
  have he := h.el 0 x hx
  generalize hkk : (if ((0 : Nat) : Int) = pos then k else 0) = kk at he
  have hr : 0 ≤ kk ∧ kk ≤ 2 := by rw [← hkk]; split <;> omega
  have := he.kind hr
  have h1 : kk = 0 := by omega
  subst h1
  exact (he.k0 (by omega) (by omega)).1
end Go.Proofs.YtaedhbpfmjiheaaFmt
