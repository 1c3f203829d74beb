/- The contracts of containsNewline and hasNewLines: each answers whether some element's kind is not interstitial, and writes nothing that was there. -/
import Derived.Test.YtecldheglbojaaaCom
namespace Go.Proofs.Ytecldheglbojaaa
open Go.ChangeShapes Go.WideShapes Go.ChangeAt Go.RowKit

set_option maxHeartbeats 400000 in
theorem containsNewline_any (w : World) (base : Nat) (v : Value) (l : List FE) (h : Fod w base v l) :
    Calls Try.prog 18 #[v] w fun e w' => e = .returned (.bool (anyNL l)) ∧ Below w.heap.size w w' := by
  obtain ⟨a, cap, rfl, hlc, hcm, ha⟩ := h.slice
  unfold maxLen at hcm
  go_enter Try.func18, Try.ntmps18
  go_wp2
  go_loopw [7] (fun i wr => ∃ k : Nat, k ≤ l.length ∧ i = .int .i64 k ∧ anyNL (l.take k) = false ∧ Below w.heap.size w wr) (fun i _ => l.length - (intOf i).toNat)
  case atStart => exact ⟨0, Nat.zero_le _, rfl, rfl, Below.refl _ _⟩
  case round =>
    obtain ⟨k, hk, rfl, hf, hb⟩ := hrel
    by_cases hlt : k < l.length
    · obtain ⟨g, rfl, hg1, hg2⟩ := ha k hlt
      have h' := h.below hb (Nat.le_refl _)
      obtain ⟨e, he, c0, c1, c2, c3⟩ := h'.cells k hlt
      have HF := Lib.hid hf; clear hf
      have H := Lib.hid h; clear h
      have H' := Lib.hid h'; clear h'
      have HE := Lib.hid he; clear he
      clear ha
      have hs := hb.size
      go_wp2
      · go_ret
        rename_i hne
        exact ⟨by rw [anyNL_hit l k e HE.out hne]; rfl, hb.alloc hs _⟩
      · go_roundw
        case rel =>
          rename_i hne
          exact ⟨k + 1, by omega, by go_num, by rw [anyNL_take l k e HE.out, HF.out]; simpa using hne, hb.alloc hs _⟩
        case measure => simp [intOf]; omega
    · have hk' : k = l.length := by omega
      rw [hk', List.take_length] at hf
      have HF := Lib.hid hf; clear hf hk'
      go_wp2
      go_ret
      exact ⟨by rw [HF.out]; rfl, hb⟩

set_option maxHeartbeats 400000 in
theorem hasNewLines_any (w : World) (base : Nat) (p : Option Addr) (v : Value) (l : List FE) (h : Fod w base v l) :
    Calls Try.prog 17 #[.pointer p, v] w fun e w' => e = .returned (.bool (anyNL l)) ∧ Below w.heap.size w w' := by
  obtain ⟨a, cap, rfl, hlc, hcm, ha⟩ := h.slice
  unfold maxLen at hcm
  go_enter Try.func17, Try.ntmps17
  go_wp2
  go_loopw [9] (fun i wr => ∃ k : Nat, k ≤ l.length ∧ i = .int .i64 k ∧ anyNL (l.take k) = false ∧ Below w.heap.size w wr) (fun i _ => l.length - (intOf i).toNat)
  case atStart => exact ⟨0, Nat.zero_le _, rfl, rfl, Below.refl _ _⟩
  case round =>
    obtain ⟨k, hk, rfl, hf, hb⟩ := hrel
    by_cases hlt : k < l.length
    · obtain ⟨g, rfl, hg1, hg2⟩ := ha k hlt
      have h' := h.below hb (Nat.le_refl _)
      obtain ⟨e, he, c0, c1, c2, c3⟩ := h'.cells k hlt
      have HF := Lib.hid hf; clear hf
      have H := Lib.hid h; clear h
      have H' := Lib.hid h'; clear h'
      have HE := Lib.hid he; clear he
      clear ha
      have hs := hb.size
      go_wp2
      · go_ret
        rename_i hne
        exact ⟨by rw [anyNL_hit l k e HE.out hne]; rfl, hb.alloc hs _⟩
      · go_roundw
        case rel =>
          rename_i hne
          exact ⟨k + 1, by omega, by go_num, by rw [anyNL_take l k e HE.out, HF.out]; simpa using hne, hb.alloc hs _⟩
        case measure => simp [intOf]; omega
    · have hk' : k = l.length := by omega
      rw [hk', List.take_length] at hf
      have HF := Lib.hid hf; clear hf hk'
      go_wp2
      go_ret
      exact ⟨by rw [HF.out]; rfl, hb⟩
end Go.Proofs.Ytecldheglbojaaa
