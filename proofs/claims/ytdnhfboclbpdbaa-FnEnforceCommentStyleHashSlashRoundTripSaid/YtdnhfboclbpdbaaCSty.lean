/- The walk of the law FnEnforceCommentStyleHashSlashRoundTrip: it returns true at every string, kind and flag; nothing that was there is written. -/
import Derived.Test.YtdnhfboclbpdbaaCom
import Derived.WalkSpells
namespace Go.Proofs.Ytdnhfboclbpdbaa
open Go.ChangeShapes Go.WideShapes Go.ChangeAt Go.RowKit

set_option maxHeartbeats 400000 in
theorem cs_inter (bc be : Nat) (w : World) (c1 : w.cell? ⟨be, 1, none⟩ = some (.int .i64 1)) :
    Calls Try.prog 42 #[.pointer (some ⟨bc, 0, none⟩), .nilIface, .pointer (some ⟨be, 0, none⟩), .nilIface] w fun e w' =>
      e = .returned (.tuple #[]) ∧ w = w' := by
  go_enter Try.func42, Try.ntmps42
  go_wp2
  go_end0
  exact ⟨rfl, rfl⟩

set_option maxHeartbeats 400000 in
theorem cs_hash (bc be bs : Nat) (w : World) (kind : Int) (s r : ByteArray) (sn : Bool) (hk : (kind != 1) = true) (hs2 : 2 ≤ s.size) (hsm : s.size ≤ 4194304) (h0 : s[0].toNat = 47)
    (hr : s.extract 2 s.size = r)
    (c0 : w.cell? ⟨be, 0, none⟩ = some (.slice (some ⟨bs, 0, none⟩) 1 1)) (c1 : w.cell? ⟨be, 1, none⟩ = some (.int .i64 kind))
    (c3 : w.cell? ⟨bc, 3, none⟩ = some (.int .i64 0)) (c12 : w.cell? ⟨bc, 12, none⟩ = some (.bool sn)) (cs : w.cell? ⟨bs, 0, none⟩ = some (.string s))
    (fs : w.frozen? ⟨bs, 0, none⟩ = false) (fc : w.frozen? ⟨bc, 12, none⟩ = false) (_hne : bs ≠ bc) :
    Calls Try.prog 42 #[.pointer (some ⟨bc, 0, none⟩), .nilIface, .pointer (some ⟨be, 0, none⟩), .nilIface] w fun e w' =>
      e = .returned (.tuple #[]) ∧ (w.setCell ⟨bs, 0, none⟩ (.string (⟨#[35]⟩ ++ r))).setCell ⟨bc, 12, none⟩ (.bool true) = w' := by
  have HR := Lib.hid hr; clear hr
  go_enter Try.func42, Try.ntmps42
  go_wp2
  go_end0
  rw [HR.out]
  exact ⟨rfl, rfl⟩

set_option maxHeartbeats 400000 in
theorem cs_slash (bc be bs : Nat) (w : World) (kind : Int) (s r : ByteArray) (sn : Bool) (hk : (kind != 1) = true) (hs1 : 1 ≤ s.size) (hsm : s.size ≤ 4194304) (h0 : s[0].toNat = 35)
    (hr : s.extract 1 s.size = r) (hsn : sn = false → ∀ h : 1 < s.size, ((s[1].toNat : Int) == 33) = false)
    (c0 : w.cell? ⟨be, 0, none⟩ = some (.slice (some ⟨bs, 0, none⟩) 1 1)) (c1 : w.cell? ⟨be, 1, none⟩ = some (.int .i64 kind))
    (c3 : w.cell? ⟨bc, 3, none⟩ = some (.int .i64 1)) (c12 : w.cell? ⟨bc, 12, none⟩ = some (.bool sn)) (cs : w.cell? ⟨bs, 0, none⟩ = some (.string s))
    (fs : w.frozen? ⟨bs, 0, none⟩ = false) (fc : w.frozen? ⟨bc, 12, none⟩ = false) (_hne : bs ≠ bc) :
    Calls Try.prog 42 #[.pointer (some ⟨bc, 0, none⟩), .nilIface, .pointer (some ⟨be, 0, none⟩), .nilIface] w fun e w' =>
      e = .returned (.tuple #[]) ∧ (w.setCell ⟨bs, 0, none⟩ (.string (⟨#[47, 47]⟩ ++ r))).setCell ⟨bc, 12, none⟩ (.bool true) = w' := by
  have HR := Lib.hid hr; clear hr
  cases sn
  · by_cases h1 : 1 < s.size
    · have h33 := hsn rfl h1
      clear hsn
      go_enter Try.func42, Try.ntmps42
      go_wp2
      go_end0
      rw [HR.out]
      exact ⟨rfl, rfl⟩
    · clear hsn
      go_enter Try.func42, Try.ntmps42
      go_wp2
      go_end0
      rw [HR.out]
      exact ⟨rfl, rfl⟩
  · clear hsn
    go_enter Try.func42, Try.ntmps42
    go_wp2
    go_end0
    rw [HR.out]
    exact ⟨rfl, rfl⟩

theorem pre_size (p r : ByteArray) : (p ++ r).size = p.size + r.size := ByteArray.size_append
theorem pre_extract (p r : ByteArray) (n : Nat) (h : n = p.size) : (p ++ r).extract n (p ++ r).size = r := by
  subst h
  rw [pre_size]
  exact ByteArray.extract_append_eq_right rfl rfl
theorem pre_slash (r : ByteArray) (h : 0 < ((⟨#[47, 47]⟩ : ByteArray) ++ r).size) : ((⟨#[47, 47]⟩ : ByteArray) ++ r)[0].toNat = 47 := by
  rw [ByteArray.getElem_append_left (by decide)]; rfl
theorem pre_hash (r : ByteArray) (h : 0 < ((⟨#[35]⟩ : ByteArray) ++ r).size) : ((⟨#[35]⟩ : ByteArray) ++ r)[0].toNat = 35 := by
  rw [ByteArray.getElem_append_left (by decide)]; rfl

set_option maxHeartbeats 400000 in
theorem zzBytes_CSty (w : World) (s : ByteArray) (k : Int) (b : Bool) (h : s.size ≤ 9223372036854775807) :
    Calls Try.prog 40 #[.string s, .int .i64 k, .bool b] w (SomeBool w) := by
  go_enter Try.func40, Try.ntmps40
  go_wp2
  all_goals
    go_ret
    exact ⟨_, rfl, rfl⟩

set_option maxHeartbeats 400000 in
theorem newCS (w : World) (st : Int) (sn : Bool) :
    Calls Try.prog 41 #[.int .i64 st, .bool sn] w fun e w' => e = .returned (.pointer (some ⟨w.heap.size, 0, none⟩)) ∧
      w.alloc (.cells #[.int .i64 0, .int .i64 0, .int .i64 0, .int .i64 st, .bool false, .bool false, .bool false, .bool false, .bool false, .bool false, .bool false, .bool false, .bool sn] 75) = w' := by
  go_enter Try.func41, Try.ntmps41
  go_wp2
  go_ret
  exact ⟨rfl, rfl⟩

/-- What the law's rest needs to know of its strings. -/
structure Strs0 (a0 : ByteArray) (a2 : Bool) : Prop where
  q1 : ((⟨#[47, 47]⟩ : ByteArray) ++ a0).size = 2 + a0.size
  q2 : ((⟨#[35]⟩ : ByteArray) ++ a0).size = 1 + a0.size
  q3 : ((⟨#[47, 47]⟩ : ByteArray) ++ a0).extract 2 ((⟨#[47, 47]⟩ : ByteArray) ++ a0).size = a0
  q4 : ((⟨#[35]⟩ : ByteArray) ++ a0).extract 1 ((⟨#[35]⟩ : ByteArray) ++ a0).size = a0
  qs : a2 = false → ∀ h : 1 < ((⟨#[35]⟩ : ByteArray) ++ a0).size, ((((⟨#[35]⟩ : ByteArray) ++ a0)[1].toNat : Int) == 33) = false

set_option maxRecDepth 100000 in
set_option maxHeartbeats 2000000 in
theorem cs_walk_f0i (a0 : ByteArray)  (h2 : ¬ 1048576 < a0.size) (h0 : 0 < a0.size) (h33 : ((a0[0].toNat : Int) == 33) = false)   (w : World) :
    Calls Try.prog 11 #[.string a0, .int .i64 1, .bool false] w fun e w' => e = .returned (.bool true) ∧ Grown w w' := by
  go_enter Try.func11, Try.ntmps11
  go_wp2_with fail
  refine (zzBytes_CSty _ _ _ _ (by omega)).mono ?_
  rintro e w' ⟨b, rfl, rfl⟩
  cases b
  · go_wp2_with fail
    go_ret
    exact ⟨rfl, Grown.refl _⟩
  go_wp2_with fail
  refine (newCS _ _ _).mono ?_
  rintro e w' ⟨rfl, rfl⟩
  go_wp2_with fail
  refine (cs_inter _ _ _ (by go_simp)).mono ?_
  rintro e w' ⟨rfl, rfl⟩
  go_wp2_with fail
  refine (newCS _ _ _).mono ?_
  rintro e w' ⟨rfl, rfl⟩
  go_wp2_with fail
  refine (cs_inter _ _ _ (by go_simp)).mono ?_
  rintro e w' ⟨rfl, rfl⟩
  go_wp2_with fail
  refine (newCS _ _ _).mono ?_
  rintro e w' ⟨rfl, rfl⟩
  go_wp2_with fail
  refine (cs_inter _ _ _ (by go_simp)).mono ?_
  rintro e w' ⟨rfl, rfl⟩
  go_wp2_with fail
  refine (newCS _ _ _).mono ?_
  rintro e w' ⟨rfl, rfl⟩
  go_wp2_with fail
  refine (cs_inter _ _ _ (by go_simp)).mono ?_
  rintro e w' ⟨rfl, rfl⟩
  go_wp2_with fail
  go_ret
  exact ⟨rfl, by repeat (first | exact Grown.refl _ | apply Grown.drew | apply Grown.alloc)⟩

set_option maxRecDepth 100000 in
set_option maxHeartbeats 2000000 in
theorem cs_walk_f0o (a0 : ByteArray) (a1 : Int) (h2 : ¬ 1048576 < a0.size) (h0 : 0 < a0.size) (h33 : ((a0[0].toNat : Int) == 33) = false) (hk' : (a1 != 1) = true) (q : Strs0 a0 false) (w : World) :
    Calls Try.prog 11 #[.string a0, .int .i64 a1, .bool false] w fun e w' => e = .returned (.bool true) ∧ Grown w w' := by
  have Q1 := Lib.hid q.q1
  have Q2 := Lib.hid q.q2
  have Q3 := Lib.hid q.q3
  have Q4 := Lib.hid q.q4
  have G1 := Lib.hid (pre_slash a0)
  have G2 := Lib.hid (pre_hash a0)
  go_enter Try.func11, Try.ntmps11
  go_wp2_with fail
  refine (zzBytes_CSty _ _ _ _ (by omega)).mono ?_
  rintro e w' ⟨b, rfl, rfl⟩
  cases b
  · go_wp2_with fail
    go_ret
    exact ⟨rfl, Grown.refl _⟩
  go_wp2_with fail
  refine (newCS _ _ _).mono ?_
  rintro e w' ⟨rfl, rfl⟩
  go_wp2_with fail
  have t1 : 2 ≤ ((⟨#[47, 47]⟩ : ByteArray) ++ a0).size := by rw [Q1.out]; omega
  have u1 : ((⟨#[47, 47]⟩ : ByteArray) ++ a0).size ≤ 4194304 := by rw [Q1.out]; omega
  refine (cs_hash (w.heap.size + 1 + 1) (w.heap.size + 1) w.heap.size _ a1 ((⟨#[47, 47]⟩ : ByteArray) ++ a0) a0 false hk' t1 u1 (G1.out _) Q3.out ?_ ?_ ?_ ?_ ?_ ?_ ?_ ?_).mono ?_
  · go_simp
  · go_simp
  · go_simp
  · go_simp
  · go_simp
  · go_simp
  · go_simp
  · omega
  clear t1 u1
  rintro e w' ⟨rfl, rfl⟩
  go_wp2_with fail
  refine (newCS _ _ _).mono ?_
  rintro e w' ⟨rfl, rfl⟩
  go_wp2_with fail
  have t2 : 1 ≤ ((⟨#[35]⟩ : ByteArray) ++ a0).size := by rw [Q2.out]; omega
  have u2 : ((⟨#[35]⟩ : ByteArray) ++ a0).size ≤ 4194304 := by rw [Q2.out]; omega
  refine (cs_slash (w.heap.size + 1 + 1 + 1) (w.heap.size + 1) w.heap.size _ a1 ((⟨#[35]⟩ : ByteArray) ++ a0) a0 false hk' t2 u2 (G2.out _) Q4.out q.qs ?_ ?_ ?_ ?_ ?_ ?_ ?_ ?_).mono ?_
  · go_simp
  · go_simp
  · go_simp
  · go_simp
  · go_simp
  · go_simp
  · go_simp
  · omega
  clear t2 u2
  rintro e w' ⟨rfl, rfl⟩
  go_wp2_with fail
  refine (newCS _ _ _).mono ?_
  rintro e w' ⟨rfl, rfl⟩
  go_wp2_with fail
  have t3 : 1 ≤ ((⟨#[35]⟩ : ByteArray) ++ a0).size := by rw [Q2.out]; omega
  have u3 : ((⟨#[35]⟩ : ByteArray) ++ a0).size ≤ 4194304 := by rw [Q2.out]; omega
  refine (cs_slash (w.heap.size + 1 + 1 + 1 + 1 + 1 + 1) (w.heap.size + 1 + 1 + 1 + 1 + 1) (w.heap.size + 1 + 1 + 1 + 1) _ a1 ((⟨#[35]⟩ : ByteArray) ++ a0) a0 false hk' t3 u3 (G2.out _) Q4.out q.qs ?_ ?_ ?_ ?_ ?_ ?_ ?_ ?_).mono ?_
  · go_simp
  · go_simp
  · go_simp
  · go_simp
  · go_simp
  · go_simp
  · go_simp
  · omega
  clear t3 u3
  rintro e w' ⟨rfl, rfl⟩
  go_wp2_with fail
  refine (newCS _ _ _).mono ?_
  rintro e w' ⟨rfl, rfl⟩
  go_wp2_with fail
  have t4 : 2 ≤ ((⟨#[47, 47]⟩ : ByteArray) ++ a0).size := by rw [Q1.out]; omega
  have u4 : ((⟨#[47, 47]⟩ : ByteArray) ++ a0).size ≤ 4194304 := by rw [Q1.out]; omega
  refine (cs_hash (w.heap.size + 1 + 1 + 1 + 1 + 1 + 1 + 1) (w.heap.size + 1 + 1 + 1 + 1 + 1) (w.heap.size + 1 + 1 + 1 + 1) _ a1 ((⟨#[47, 47]⟩ : ByteArray) ++ a0) a0 false hk' t4 u4 (G1.out _) Q3.out ?_ ?_ ?_ ?_ ?_ ?_ ?_ ?_).mono ?_
  · go_simp
  · go_simp
  · go_simp
  · go_simp
  · go_simp
  · go_simp
  · go_simp
  · omega
  clear t4 u4
  rintro e w' ⟨rfl, rfl⟩
  go_wp2_with fail
  go_ret
  exact ⟨rfl, by repeat (first | exact Grown.refl _ | apply Grown.drew | apply Grown.alloc)⟩

set_option maxRecDepth 100000 in
set_option maxHeartbeats 2000000 in
theorem cs_walk_f1i (a0 : ByteArray)  (h2 : ¬ 1048576 < a0.size) (h0 : ¬ 0 < a0.size)   (w : World) :
    Calls Try.prog 11 #[.string a0, .int .i64 1, .bool false] w fun e w' => e = .returned (.bool true) ∧ Grown w w' := by
  go_enter Try.func11, Try.ntmps11
  go_wp2_with fail
  refine (zzBytes_CSty _ _ _ _ (by omega)).mono ?_
  rintro e w' ⟨b, rfl, rfl⟩
  cases b
  · go_wp2_with fail
    go_ret
    exact ⟨rfl, Grown.refl _⟩
  go_wp2_with fail
  refine (newCS _ _ _).mono ?_
  rintro e w' ⟨rfl, rfl⟩
  go_wp2_with fail
  refine (cs_inter _ _ _ (by go_simp)).mono ?_
  rintro e w' ⟨rfl, rfl⟩
  go_wp2_with fail
  refine (newCS _ _ _).mono ?_
  rintro e w' ⟨rfl, rfl⟩
  go_wp2_with fail
  refine (cs_inter _ _ _ (by go_simp)).mono ?_
  rintro e w' ⟨rfl, rfl⟩
  go_wp2_with fail
  refine (newCS _ _ _).mono ?_
  rintro e w' ⟨rfl, rfl⟩
  go_wp2_with fail
  refine (cs_inter _ _ _ (by go_simp)).mono ?_
  rintro e w' ⟨rfl, rfl⟩
  go_wp2_with fail
  refine (newCS _ _ _).mono ?_
  rintro e w' ⟨rfl, rfl⟩
  go_wp2_with fail
  refine (cs_inter _ _ _ (by go_simp)).mono ?_
  rintro e w' ⟨rfl, rfl⟩
  go_wp2_with fail
  go_ret
  exact ⟨rfl, by repeat (first | exact Grown.refl _ | apply Grown.drew | apply Grown.alloc)⟩

set_option maxRecDepth 100000 in
set_option maxHeartbeats 2000000 in
theorem cs_walk_f1o (a0 : ByteArray) (a1 : Int) (h2 : ¬ 1048576 < a0.size) (h0 : ¬ 0 < a0.size) (hk' : (a1 != 1) = true) (q : Strs0 a0 false) (w : World) :
    Calls Try.prog 11 #[.string a0, .int .i64 a1, .bool false] w fun e w' => e = .returned (.bool true) ∧ Grown w w' := by
  have Q1 := Lib.hid q.q1
  have Q2 := Lib.hid q.q2
  have Q3 := Lib.hid q.q3
  have Q4 := Lib.hid q.q4
  have G1 := Lib.hid (pre_slash a0)
  have G2 := Lib.hid (pre_hash a0)
  go_enter Try.func11, Try.ntmps11
  go_wp2_with fail
  refine (zzBytes_CSty _ _ _ _ (by omega)).mono ?_
  rintro e w' ⟨b, rfl, rfl⟩
  cases b
  · go_wp2_with fail
    go_ret
    exact ⟨rfl, Grown.refl _⟩
  go_wp2_with fail
  refine (newCS _ _ _).mono ?_
  rintro e w' ⟨rfl, rfl⟩
  go_wp2_with fail
  have t1 : 2 ≤ ((⟨#[47, 47]⟩ : ByteArray) ++ a0).size := by rw [Q1.out]; omega
  have u1 : ((⟨#[47, 47]⟩ : ByteArray) ++ a0).size ≤ 4194304 := by rw [Q1.out]; omega
  refine (cs_hash (w.heap.size + 1 + 1) (w.heap.size + 1) w.heap.size _ a1 ((⟨#[47, 47]⟩ : ByteArray) ++ a0) a0 false hk' t1 u1 (G1.out _) Q3.out ?_ ?_ ?_ ?_ ?_ ?_ ?_ ?_).mono ?_
  · go_simp
  · go_simp
  · go_simp
  · go_simp
  · go_simp
  · go_simp
  · go_simp
  · omega
  clear t1 u1
  rintro e w' ⟨rfl, rfl⟩
  go_wp2_with fail
  refine (newCS _ _ _).mono ?_
  rintro e w' ⟨rfl, rfl⟩
  go_wp2_with fail
  have t2 : 1 ≤ ((⟨#[35]⟩ : ByteArray) ++ a0).size := by rw [Q2.out]; omega
  have u2 : ((⟨#[35]⟩ : ByteArray) ++ a0).size ≤ 4194304 := by rw [Q2.out]; omega
  refine (cs_slash (w.heap.size + 1 + 1 + 1) (w.heap.size + 1) w.heap.size _ a1 ((⟨#[35]⟩ : ByteArray) ++ a0) a0 false hk' t2 u2 (G2.out _) Q4.out q.qs ?_ ?_ ?_ ?_ ?_ ?_ ?_ ?_).mono ?_
  · go_simp
  · go_simp
  · go_simp
  · go_simp
  · go_simp
  · go_simp
  · go_simp
  · omega
  clear t2 u2
  rintro e w' ⟨rfl, rfl⟩
  go_wp2_with fail
  refine (newCS _ _ _).mono ?_
  rintro e w' ⟨rfl, rfl⟩
  go_wp2_with fail
  have t3 : 1 ≤ ((⟨#[35]⟩ : ByteArray) ++ a0).size := by rw [Q2.out]; omega
  have u3 : ((⟨#[35]⟩ : ByteArray) ++ a0).size ≤ 4194304 := by rw [Q2.out]; omega
  refine (cs_slash (w.heap.size + 1 + 1 + 1 + 1 + 1 + 1) (w.heap.size + 1 + 1 + 1 + 1 + 1) (w.heap.size + 1 + 1 + 1 + 1) _ a1 ((⟨#[35]⟩ : ByteArray) ++ a0) a0 false hk' t3 u3 (G2.out _) Q4.out q.qs ?_ ?_ ?_ ?_ ?_ ?_ ?_ ?_).mono ?_
  · go_simp
  · go_simp
  · go_simp
  · go_simp
  · go_simp
  · go_simp
  · go_simp
  · omega
  clear t3 u3
  rintro e w' ⟨rfl, rfl⟩
  go_wp2_with fail
  refine (newCS _ _ _).mono ?_
  rintro e w' ⟨rfl, rfl⟩
  go_wp2_with fail
  have t4 : 2 ≤ ((⟨#[47, 47]⟩ : ByteArray) ++ a0).size := by rw [Q1.out]; omega
  have u4 : ((⟨#[47, 47]⟩ : ByteArray) ++ a0).size ≤ 4194304 := by rw [Q1.out]; omega
  refine (cs_hash (w.heap.size + 1 + 1 + 1 + 1 + 1 + 1 + 1) (w.heap.size + 1 + 1 + 1 + 1 + 1) (w.heap.size + 1 + 1 + 1 + 1) _ a1 ((⟨#[47, 47]⟩ : ByteArray) ++ a0) a0 false hk' t4 u4 (G1.out _) Q3.out ?_ ?_ ?_ ?_ ?_ ?_ ?_ ?_).mono ?_
  · go_simp
  · go_simp
  · go_simp
  · go_simp
  · go_simp
  · go_simp
  · go_simp
  · omega
  clear t4 u4
  rintro e w' ⟨rfl, rfl⟩
  go_wp2_with fail
  go_ret
  exact ⟨rfl, by repeat (first | exact Grown.refl _ | apply Grown.drew | apply Grown.alloc)⟩

set_option maxRecDepth 100000 in
set_option maxHeartbeats 2000000 in
theorem cs_walk_ti (a0 : ByteArray)  (h2 : ¬ 1048576 < a0.size)    (w : World) :
    Calls Try.prog 11 #[.string a0, .int .i64 1, .bool true] w fun e w' => e = .returned (.bool true) ∧ Grown w w' := by
  go_enter Try.func11, Try.ntmps11
  go_wp2_with fail
  refine (zzBytes_CSty _ _ _ _ (by omega)).mono ?_
  rintro e w' ⟨b, rfl, rfl⟩
  cases b
  · go_wp2_with fail
    go_ret
    exact ⟨rfl, Grown.refl _⟩
  go_wp2_with fail
  refine (newCS _ _ _).mono ?_
  rintro e w' ⟨rfl, rfl⟩
  go_wp2_with fail
  refine (cs_inter _ _ _ (by go_simp)).mono ?_
  rintro e w' ⟨rfl, rfl⟩
  go_wp2_with fail
  refine (newCS _ _ _).mono ?_
  rintro e w' ⟨rfl, rfl⟩
  go_wp2_with fail
  refine (cs_inter _ _ _ (by go_simp)).mono ?_
  rintro e w' ⟨rfl, rfl⟩
  go_wp2_with fail
  refine (newCS _ _ _).mono ?_
  rintro e w' ⟨rfl, rfl⟩
  go_wp2_with fail
  refine (cs_inter _ _ _ (by go_simp)).mono ?_
  rintro e w' ⟨rfl, rfl⟩
  go_wp2_with fail
  refine (newCS _ _ _).mono ?_
  rintro e w' ⟨rfl, rfl⟩
  go_wp2_with fail
  refine (cs_inter _ _ _ (by go_simp)).mono ?_
  rintro e w' ⟨rfl, rfl⟩
  go_wp2_with fail
  go_ret
  exact ⟨rfl, by repeat (first | exact Grown.refl _ | apply Grown.drew | apply Grown.alloc)⟩

set_option maxRecDepth 100000 in
set_option maxHeartbeats 2000000 in
theorem cs_walk_to (a0 : ByteArray) (a1 : Int) (h2 : ¬ 1048576 < a0.size)  (hk' : (a1 != 1) = true) (q : Strs0 a0 true) (w : World) :
    Calls Try.prog 11 #[.string a0, .int .i64 a1, .bool true] w fun e w' => e = .returned (.bool true) ∧ Grown w w' := by
  have Q1 := Lib.hid q.q1
  have Q2 := Lib.hid q.q2
  have Q3 := Lib.hid q.q3
  have Q4 := Lib.hid q.q4
  have G1 := Lib.hid (pre_slash a0)
  have G2 := Lib.hid (pre_hash a0)
  go_enter Try.func11, Try.ntmps11
  go_wp2_with fail
  refine (zzBytes_CSty _ _ _ _ (by omega)).mono ?_
  rintro e w' ⟨b, rfl, rfl⟩
  cases b
  · go_wp2_with fail
    go_ret
    exact ⟨rfl, Grown.refl _⟩
  go_wp2_with fail
  refine (newCS _ _ _).mono ?_
  rintro e w' ⟨rfl, rfl⟩
  go_wp2_with fail
  have t1 : 2 ≤ ((⟨#[47, 47]⟩ : ByteArray) ++ a0).size := by rw [Q1.out]; omega
  have u1 : ((⟨#[47, 47]⟩ : ByteArray) ++ a0).size ≤ 4194304 := by rw [Q1.out]; omega
  refine (cs_hash (w.heap.size + 1 + 1) (w.heap.size + 1) w.heap.size _ a1 ((⟨#[47, 47]⟩ : ByteArray) ++ a0) a0 false hk' t1 u1 (G1.out _) Q3.out ?_ ?_ ?_ ?_ ?_ ?_ ?_ ?_).mono ?_
  · go_simp
  · go_simp
  · go_simp
  · go_simp
  · go_simp
  · go_simp
  · go_simp
  · omega
  clear t1 u1
  rintro e w' ⟨rfl, rfl⟩
  go_wp2_with fail
  refine (newCS _ _ _).mono ?_
  rintro e w' ⟨rfl, rfl⟩
  go_wp2_with fail
  have t2 : 1 ≤ ((⟨#[35]⟩ : ByteArray) ++ a0).size := by rw [Q2.out]; omega
  have u2 : ((⟨#[35]⟩ : ByteArray) ++ a0).size ≤ 4194304 := by rw [Q2.out]; omega
  refine (cs_slash (w.heap.size + 1 + 1 + 1) (w.heap.size + 1) w.heap.size _ a1 ((⟨#[35]⟩ : ByteArray) ++ a0) a0 true hk' t2 u2 (G2.out _) Q4.out q.qs ?_ ?_ ?_ ?_ ?_ ?_ ?_ ?_).mono ?_
  · go_simp
  · go_simp
  · go_simp
  · go_simp
  · go_simp
  · go_simp
  · go_simp
  · omega
  clear t2 u2
  rintro e w' ⟨rfl, rfl⟩
  go_wp2_with fail
  refine (newCS _ _ _).mono ?_
  rintro e w' ⟨rfl, rfl⟩
  go_wp2_with fail
  have t3 : 1 ≤ ((⟨#[35]⟩ : ByteArray) ++ a0).size := by rw [Q2.out]; omega
  have u3 : ((⟨#[35]⟩ : ByteArray) ++ a0).size ≤ 4194304 := by rw [Q2.out]; omega
  refine (cs_slash (w.heap.size + 1 + 1 + 1 + 1 + 1 + 1) (w.heap.size + 1 + 1 + 1 + 1 + 1) (w.heap.size + 1 + 1 + 1 + 1) _ a1 ((⟨#[35]⟩ : ByteArray) ++ a0) a0 true hk' t3 u3 (G2.out _) Q4.out q.qs ?_ ?_ ?_ ?_ ?_ ?_ ?_ ?_).mono ?_
  · go_simp
  · go_simp
  · go_simp
  · go_simp
  · go_simp
  · go_simp
  · go_simp
  · omega
  clear t3 u3
  rintro e w' ⟨rfl, rfl⟩
  go_wp2_with fail
  refine (newCS _ _ _).mono ?_
  rintro e w' ⟨rfl, rfl⟩
  go_wp2_with fail
  have t4 : 2 ≤ ((⟨#[47, 47]⟩ : ByteArray) ++ a0).size := by rw [Q1.out]; omega
  have u4 : ((⟨#[47, 47]⟩ : ByteArray) ++ a0).size ≤ 4194304 := by rw [Q1.out]; omega
  refine (cs_hash (w.heap.size + 1 + 1 + 1 + 1 + 1 + 1 + 1) (w.heap.size + 1 + 1 + 1 + 1 + 1) (w.heap.size + 1 + 1 + 1 + 1) _ a1 ((⟨#[47, 47]⟩ : ByteArray) ++ a0) a0 false hk' t4 u4 (G1.out _) Q3.out ?_ ?_ ?_ ?_ ?_ ?_ ?_ ?_).mono ?_
  · go_simp
  · go_simp
  · go_simp
  · go_simp
  · go_simp
  · go_simp
  · go_simp
  · omega
  clear t4 u4
  rintro e w' ⟨rfl, rfl⟩
  go_wp2_with fail
  go_ret
  exact ⟨rfl, by repeat (first | exact Grown.refl _ | apply Grown.drew | apply Grown.alloc)⟩

namespace fnEnforceCommentStyleHashSlashRoundTrip
set_option linter.unusedVariables false
set_option maxRecDepth 100000 in
set_option maxHeartbeats 2000000 in
theorem walk (a0 : ByteArray) (a1 : Int) (a2 : Bool) (w0 : a0.size ≤ maxLen) (w1 : (Lit.int .i64 a1).wf = true) (w : World) :
    Calls Try.prog 11 #[.string a0, .int .i64 a1, .bool a2] w fun e w' => e = .returned (.bool true) ∧ Grown w w' := by
  unfold maxLen at w0
  by_cases h2 : 1048576 < a0.size
  · go_enter Try.func11, Try.ntmps11
    go_wp2_with fail
    refine (zzBytes_CSty _ _ _ _ w0).mono ?_
    rintro e w' ⟨b, rfl, rfl⟩
    cases b
    · go_wp2_with fail
      go_ret
      exact ⟨rfl, Grown.refl _⟩
    · go_wp2_with fail
      go_ret
      exact ⟨rfl, Grown.refl _⟩
  by_cases hbang : a2 = false ∧ ∃ h : 0 < a0.size, ((a0[0].toNat : Int) == 33) = true
  · obtain ⟨rfl, h, h33⟩ := hbang
    go_enter Try.func11, Try.ntmps11
    go_wp2_with fail
    refine (zzBytes_CSty _ _ _ _ w0).mono ?_
    rintro e w' ⟨b, rfl, rfl⟩
    cases b
    · go_wp2_with fail
      go_ret
      exact ⟨rfl, Grown.refl _⟩
    · go_wp2_with fail
      go_ret
      exact ⟨rfl, Grown.refl _⟩
  have hsn : a2 = false → ∀ h : 0 < a0.size, ((a0[0].toNat : Int) == 33) = false := by
    intro ha h
    cases hx : ((a0[0].toNat : Int) == 33)
    · rfl
    · exact absurd ⟨ha, h, hx⟩ hbang
  have q2 : ((⟨#[35]⟩ : ByteArray) ++ a0).size = 1 + a0.size := pre_size _ _
  have q : Strs0 a0 a2 := by
    refine ⟨pre_size _ _, q2, pre_extract _ _ 2 rfl, pre_extract _ _ 1 rfl, fun ha h => ?_⟩
    have h0 : 0 < a0.size := by omega
    rw [ByteArray.getElem_append_right (by simp [ByteArray.size])]
    exact hsn ha h0
  by_cases hk : a1 = 1
  · subst hk
    cases a2
    · by_cases h0 : 0 < a0.size
      · exact cs_walk_f0i a0 h2 h0 (hsn rfl h0) w
      · exact cs_walk_f1i a0 h2 h0 w
    · exact cs_walk_ti a0 h2 w
  · have hk' : (a1 != 1) = true := by simpa using hk
    cases a2
    · by_cases h0 : 0 < a0.size
      · exact cs_walk_f0o a0 a1 h2 h0 (hsn rfl h0) hk' q w
      · exact cs_walk_f1o a0 a1 h2 h0 hk' q w
    · exact cs_walk_to a0 a1 h2 hk' q w
end fnEnforceCommentStyleHashSlashRoundTrip
end Go.Proofs.Ytdnhfboclbpdbaa
