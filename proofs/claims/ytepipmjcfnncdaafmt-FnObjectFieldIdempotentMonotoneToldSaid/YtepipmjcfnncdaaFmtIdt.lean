/- The contracts of the parser's IsValidIdentifier and its callees, and of n008_125's zzIsIdent: both say whether a text is an identifier. -/
import Derived.Test.YtepipmjcfnncdaaFmtCom
import Derived.Laws.RangeAny
import Derived.Handy
namespace Go.Proofs.YtepipmjcfnncdaaFmt
open Go.ChangeShapes Go.WideShapes Go.ChangeAt Go.RowKit

def upB (c : Int) : Bool := decide (65 ≤ c) && decide (c ≤ 90)
def loB (c : Int) : Bool := decide (97 ≤ c) && decide (c ≤ 122)
def nuB (c : Int) : Bool := decide (48 ≤ c) && decide (c ≤ 57)
def firstB (c : Int) : Bool := upB c || loB c || (c == 95)
def idB (c : Int) : Bool := firstB c || nuB c

theorem upB_any (w : World) (c : Int) : Calls Tryf.prog 104 #[.int .i32 c] w fun e w' => e = .returned (.bool (upB c)) ∧ w = w' := by
  by_cases h1 : 65 ≤ c <;> by_cases h2 : c ≤ 90
  all_goals
    have e : upB c = (decide (65 ≤ c) && decide (c ≤ 90)) := rfl
    rw [e]
    clear e
    go_enter Tryf.func104, Tryf.ntmps104
    go_wp2
    go_ret
    exact ⟨by simp [*], rfl⟩

theorem loB_any (w : World) (c : Int) : Calls Tryf.prog 105 #[.int .i32 c] w fun e w' => e = .returned (.bool (loB c)) ∧ w = w' := by
  by_cases h1 : 97 ≤ c <;> by_cases h2 : c ≤ 122
  all_goals
    have e : loB c = (decide (97 ≤ c) && decide (c ≤ 122)) := rfl
    rw [e]
    clear e
    go_enter Tryf.func105, Tryf.ntmps105
    go_wp2
    go_ret
    exact ⟨by simp [*], rfl⟩

theorem nuB_any (w : World) (c : Int) : Calls Tryf.prog 106 #[.int .i32 c] w fun e w' => e = .returned (.bool (nuB c)) ∧ w = w' := by
  by_cases h1 : 48 ≤ c <;> by_cases h2 : c ≤ 57
  all_goals
    have e : nuB c = (decide (48 ≤ c) && decide (c ≤ 57)) := rfl
    rw [e]
    clear e
    go_enter Tryf.func106, Tryf.ntmps106
    go_wp2
    go_ret
    exact ⟨by simp [*], rfl⟩

theorem firstB_any (w : World) (c : Int) : Calls Tryf.prog 96 #[.int .i32 c] w fun e w' => e = .returned (.bool (firstB c)) ∧ w = w' := by
  obtain ⟨u, hu⟩ : ∃ u, upB c = u := ⟨_, rfl⟩
  obtain ⟨l, hl⟩ : ∃ l, loB c = l := ⟨_, rfl⟩
  have e : firstB c = (u || l || (c == 95)) := by rw [← hu, ← hl]; rfl
  have HU := Lib.hid hu; clear hu
  have HL := Lib.hid hl; clear hl
  rw [e]
  clear e
  go_enter Tryf.func96, Tryf.ntmps96
  go_wp2_with fail
  refine (upB_any _ c).mono ?_
  rintro e w' ⟨rfl, rfl⟩
  rw [HU.out]
  cases u
  · go_wp2_with fail
    refine (loB_any _ c).mono ?_
    rintro e w' ⟨rfl, rfl⟩
    rw [HL.out]
    cases l
    all_goals
      go_wp2_with fail
      go_ret
      exact ⟨by simp, rfl⟩
  · go_wp2_with fail
    go_ret
    exact ⟨by simp, rfl⟩

theorem idB_any (w : World) (c : Int) : Calls Tryf.prog 97 #[.int .i32 c] w fun e w' => e = .returned (.bool (idB c)) ∧ w = w' := by
  obtain ⟨u, hu⟩ : ∃ u, firstB c = u := ⟨_, rfl⟩
  obtain ⟨l, hl⟩ : ∃ l, nuB c = l := ⟨_, rfl⟩
  have e : idB c = (u || l) := by rw [← hu, ← hl]; rfl
  have HU := Lib.hid hu; clear hu
  have HL := Lib.hid hl; clear hl
  rw [e]
  clear e
  go_enter Tryf.func97, Tryf.ntmps97
  go_wp2_with fail
  refine (firstB_any _ c).mono ?_
  rintro e w' ⟨rfl, rfl⟩
  rw [HU.out]
  cases u
  · go_wp2_with fail
    refine (nuB_any _ c).mono ?_
    rintro e w' ⟨rfl, rfl⟩
    rw [HL.out]
    go_wp2_with fail
    go_ret
    exact ⟨by simp, rfl⟩
  · go_wp2_with fail
    go_ret
    exact ⟨by simp, rfl⟩

/-- The reserved words. -/
def words : List (List UInt8) := [[97, 115, 115, 101, 114, 116], [101, 108, 115, 101], [101, 114, 114, 111, 114], [102, 97, 108, 115, 101], [102, 111, 114], [102, 117, 110, 99, 116, 105, 111, 110], [105, 102], [105, 109, 112, 111, 114, 116], [105, 109, 112, 111, 114, 116, 115, 116, 114], [105, 109, 112, 111, 114, 116, 98, 105, 110], [105, 110], [108, 111, 99, 97, 108], [110, 117, 108, 108], [115, 101, 108, 102], [115, 117, 112, 101, 114], [116, 97, 105, 108, 115, 116, 114, 105, 99, 116], [116, 104, 101, 110], [116, 114, 117, 101]]
def kwB (s : ByteArray) : Bool := decide (s.toList ∈ words)

set_option maxRecDepth 100000 in
set_option maxHeartbeats 4000000 in
theorem zzIsKeyword_any (w : World) (s : ByteArray) : Calls Tryf.prog 69 #[.string s] w fun e w' => e = .returned (.bool (kwB s)) ∧ w = w' := by
  by_cases h : s.toList ∈ words
  · have e : kwB s = true := by simp [kwB, h]
    rw [e]
    clear e
    simp only [words, List.mem_cons, List.not_mem_nil, or_false] at h
    rcases h with h | h | h | h | h | h | h | h | h | h | h | h | h | h | h | h | h | h
    all_goals
      go_enter Tryf.func69, Tryf.ntmps69
      go_wp2
      go_ret
      exact ⟨rfl, rfl⟩
  · have e : kwB s = false := by simp [kwB, h]
    rw [e]
    clear e
    simp only [words, List.mem_cons, List.not_mem_nil, or_false, not_or] at h
    simp only [← beq_eq_false_iff_ne] at h
    obtain ⟨h0, h1, h2, h3, h4, h5, h6, h7, h8, h9, h10, h11, h12, h13, h14, h15, h16, h17⟩ := h
    go_enter Tryf.func69, Tryf.ntmps69
    go_wp2
    go_ret
    exact ⟨rfl, rfl⟩

set_option maxRecDepth 100000 in
set_option maxHeartbeats 4000000 in
theorem tokenKind_any (w : World) (s : ByteArray) : Calls Tryf.prog 98 #[.string s] w fun e w' => (∃ t : Int, e = .returned (.int .i64 t) ∧ (t == 10) = !kwB s) ∧ w = w' := by
  by_cases h : s.toList ∈ words
  · have e : kwB s = true := by simp [kwB, h]
    rw [e]
    clear e
    simp only [words, List.mem_cons, List.not_mem_nil, or_false] at h
    rcases h with h | h | h | h | h | h | h | h | h | h | h | h | h | h | h | h | h | h
    all_goals
      go_enter Tryf.func98, Tryf.ntmps98
      go_wp2
      go_ret
      exact ⟨⟨_, rfl, rfl⟩, rfl⟩
  · have e : kwB s = false := by simp [kwB, h]
    rw [e]
    clear e
    simp only [words, List.mem_cons, List.not_mem_nil, or_false, not_or] at h
    simp only [← beq_eq_false_iff_ne] at h
    obtain ⟨h0, h1, h2, h3, h4, h5, h6, h7, h8, h9, h10, h11, h12, h13, h14, h15, h16, h17⟩ := h
    go_enter Tryf.func98, Tryf.ntmps98
    go_wp2
    go_ret
    exact ⟨⟨_, rfl, rfl⟩, rfl⟩
/-- May the byte at j stand there? -/
def okAt (s : ByteArray) (j : Nat) : Bool := if j = 0 then firstB ((s.get! j).toNat : Int) else idB ((s.get! j).toNat : Int)
def upTo (s : ByteArray) (k : Nat) : Bool := (List.range k).all (okAt s)
/-- Is it an identifier? -/
def identB (s : ByteArray) : Bool := (s.size != 0) && (upTo s s.size && !kwB s)

theorem upTo_succ (s : ByteArray) (k : Nat) : upTo s (k + 1) = (upTo s k && okAt s k) := by
  unfold upTo
  rw [List.range_succ, List.all_append]
  simp
theorem identB_no (s : ByteArray) (k : Nat) (h : k < s.size) (ho : okAt s k = false) : identB s = false := by
  unfold identB
  have : upTo s s.size = false := by
    unfold upTo
    rw [List.all_eq_false]
    exact ⟨k, List.mem_range.2 h, by simp [ho]⟩
  simp [this]
theorem identB_yes (s : ByteArray) (h : s.size ≠ 0) (hu : upTo s s.size = true) : identB s = !kwB s := by
  unfold identB
  simp [hu, h]
theorem okAt_at (s : ByteArray) (k : Nat) (h : k < s.size) : okAt s k = if k = 0 then firstB ((s[k]'h).toNat : Int) else idB ((s[k]'h).toNat : Int) := by
  unfold okAt
  have := get_at s k h
  rw [Nat.add_zero] at this
  rw [this]
theorem firstB_high (c : Int) (h : 128 ≤ c) : firstB c = false := by
  unfold firstB upB loB
  simp
  omega
theorem idB_high (c : Int) (h : 128 ≤ c) : idB c = false := by
  unfold idB nuB
  rw [firstB_high c h]
  simp
  omega

set_option maxRecDepth 100000 in
set_option maxHeartbeats 4000000 in
theorem isValid_any (w : World) (s : ByteArray) (hs : s.size ≤ 1048576) : Calls Tryf.prog 84 #[.string s] w fun e w' => e = .returned (.bool (identB s)) ∧ Kept [] w w' := by
  by_cases h0 : s.size = 0
  · have e : identB s = false := by unfold identB; simp [h0]
    rw [e]
    clear e
    have h1 : ((s.size : Int) == 0) = true := by simp [h0]
    go_enter Tryf.func84, Tryf.ntmps84
    go_wp2
    go_ret
    exact ⟨rfl, Kept.refl _ _⟩
  · have hz0 : ((s.size : Int) == 0) = false := by simp [h0]
    go_enter Tryf.func84, Tryf.ntmps84
    go_wp2_with fail
    go_loopw [2] (fun v wr => ∃ k : Nat, k ≤ s.size ∧ v = .bool false ∧ wr = w.iter s k ∧ upTo s k = true) (fun _ wr => s.size - wr.iterPos w.heap.size)
    case atStart => exact ⟨0, Nat.zero_le _, rfl, rfl, rfl⟩
    case round =>
      obtain ⟨k, hk, rfl, rfl, hu⟩ := hrel
      have HU := Lib.hid hu; clear hu
      by_cases hlt : k < s.size
      · have hok := okAt_at s k hlt
        have hno := identB_no s k hlt
        have HNO := Lib.hid hno; clear hno
        by_cases ha : (s[k]'hlt).toNat < 128
        · have hnx := fun ty => run_next_ascii (P := Tryf.prog) w s k ty hlt ha
          obtain ⟨c, hc⟩ : ∃ c : Int, ((s[k]'hlt).toNat : Int) = c := ⟨_, rfl⟩
          rw [hc] at hok
          have hnx' : ∀ ty, (Instr.next (.pointer (some ⟨w.heap.size, 0, none⟩)) true ty).run Tryf.prog (w.iter s k) = .ok (.tuple #[.bool true, .int .i64 k, .int .i32 c]) (w.iter s (k + 1)) := by
            intro ty; rw [hnx ty, hc]
          clear hnx hc ha
          by_cases h00 : k = 0
          · subst h00
            rw [if_pos rfl] at hok
            obtain ⟨f, hf⟩ : ∃ f, firstB c = f := ⟨_, rfl⟩
            rw [hf] at hok
            have HF := Lib.hid hf; clear hf
            have HOK := Lib.hid hok; clear hok
            go_wp2_with fail
            refine (firstB_any _ c).mono ?_
            rintro e w' ⟨rfl, rfl⟩
            rw [HF.out]
            cases f
            · go_wp2_with fail
              go_ret
              exact ⟨by rw [HNO.out HOK.out]; rfl, (Kept.refl [] w).alloc _⟩
            · go_wp2_with fail
              go_roundw
              case rel => exact ⟨1, by omega, rfl, rfl, by rw [upTo_succ, HU.out, HOK.out]; rfl⟩
              case measure => simp; omega
          · rw [if_neg h00] at hok
            have hz : ((k : Int) == 0) = false := by simp [h00]
            obtain ⟨f, hf⟩ : ∃ f, idB c = f := ⟨_, rfl⟩
            rw [hf] at hok
            have HF := Lib.hid hf; clear hf
            have HOK := Lib.hid hok; clear hok
            go_wp2_with fail
            refine (idB_any _ c).mono ?_
            rintro e w' ⟨rfl, rfl⟩
            rw [HF.out]
            cases f
            · go_wp2_with fail
              go_ret
              exact ⟨by rw [HNO.out HOK.out]; rfl, (Kept.refl [] w).alloc _⟩
            · go_wp2_with fail
              go_roundw
              case rel => exact ⟨k + 1, by omega, rfl, rfl, by rw [upTo_succ, HU.out, HOK.out]; rfl⟩
              case measure => simp; omega
        · have hbad : okAt s k = false := by
            rw [hok]
            split
            · exact firstB_high _ (by omega)
            · exact idB_high _ (by omega)
          have hd := decode_high s k hlt (by omega)
          have hnx := fun ty => run_next_any (P := Tryf.prog) w s k ty hlt
          obtain ⟨c, hc⟩ : ∃ c : Int, (((Utf8.decode s k).1 : Nat) : Int) = c := ⟨_, rfl⟩
          obtain ⟨m, hm⟩ : ∃ m : Nat, k + (Utf8.decode s k).2 = m := ⟨_, rfl⟩
          have hc1 : 128 ≤ c := by omega
          have hnx' : ∀ ty, (Instr.next (.pointer (some ⟨w.heap.size, 0, none⟩)) true ty).run Tryf.prog (w.iter s k) = .ok (.tuple #[.bool true, .int .i64 k, .int .i32 c]) (w.iter s m) := by
            intro ty; rw [hnx ty, hc, hm]
          have HBAD := Lib.hid hbad; clear hbad
          clear hnx hc hm hd ha hok
          by_cases h00 : k = 0
          · subst h00
            go_wp2_with fail
            refine (firstB_any _ c).mono ?_
            rintro e w' ⟨rfl, rfl⟩
            rw [firstB_high c hc1]
            go_wp2_with fail
            go_ret
            exact ⟨by rw [HNO.out HBAD.out]; rfl, (Kept.refl [] w).alloc _⟩
          · have hz : ((k : Int) == 0) = false := by simp [h00]
            go_wp2_with fail
            refine (idB_any _ c).mono ?_
            rintro e w' ⟨rfl, rfl⟩
            rw [idB_high c hc1]
            go_wp2_with fail
            go_ret
            exact ⟨by rw [HNO.out HBAD.out]; rfl, (Kept.refl [] w).alloc _⟩
      · obtain rfl : k = s.size := by omega
        have hnx := fun ty => run_next_end (P := Tryf.prog) w s s.size ty (by omega)
        go_wp2_with fail
        refine (tokenKind_any _ s).mono ?_
        rintro e w' ⟨⟨t, rfl, ht⟩, rfl⟩
        have HT := Lib.hid ht; clear ht
        go_wp2_with fail
        go_ret
        exact ⟨by rw [identB_yes s h0 HU.out, ← HT.out]; rfl, (Kept.refl [] w).alloc _⟩
end Go.Proofs.YtepipmjcfnncdaaFmt
