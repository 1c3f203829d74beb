/- The contract of n008_125's zzIsIdent: it says whether a text is an identifier. -/
import Derived.Test.YtepipmjcfnncdaaFmtIdt
namespace Go.Proofs.YtepipmjcfnncdaaFmt
open Go.ChangeShapes Go.WideShapes Go.ChangeAt Go.RowKit

set_option maxRecDepth 100000 in
set_option maxHeartbeats 4000000 in
theorem zzIsIdent_any (w : World) (s : ByteArray) (hs : s.size ≤ 1048576) : Calls Tryf.prog 17 #[.string s] w fun e w' => e = .returned (.bool (identB s)) ∧ w = w' := by
  by_cases h0 : s.size = 0
  · have e : identB s = false := by unfold identB; simp [h0]
    rw [e]
    clear e
    have h1 : ((s.size : Int) == 0) = true := by simp [h0]
    go_enter Tryf.func17, Tryf.ntmps17
    go_wp2
    go_ret
    exact ⟨rfl, rfl⟩
  · have hz0 : ((s.size : Int) == 0) = false := by simp [h0]
    go_enter Tryf.func17, Tryf.ntmps17
    go_wp2_with fail
    go_loop [3] (fun i => ∃ k : Nat, k ≤ s.size ∧ i = .int .i64 k ∧ upTo s k = true) (fun i => s.size - (intOf i).toNat)
    case atStart => exact ⟨0, Nat.zero_le _, rfl, rfl⟩
    case round =>
      obtain ⟨k, hk, rfl, hu⟩ := hrel
      have HU := Lib.hid hu; clear hu
      by_cases hlt : k < s.size
      · have hok := okAt_at s k hlt
        have HOK := Lib.hid hok; clear hok
        have hno := identB_no s k hlt
        have HNO := Lib.hid hno; clear hno
        have hb : (s[k]'hlt).toNat < 256 := (s[k]'hlt).toNat_lt
        have hcl : (0 ≤ (s[k]'hlt).toNat ∧ (s[k]'hlt).toNat ≤ 47) ∨ (48 ≤ (s[k]'hlt).toNat ∧ (s[k]'hlt).toNat ≤ 57) ∨ (58 ≤ (s[k]'hlt).toNat ∧ (s[k]'hlt).toNat ≤ 64) ∨ (65 ≤ (s[k]'hlt).toNat ∧ (s[k]'hlt).toNat ≤ 90) ∨ (91 ≤ (s[k]'hlt).toNat ∧ (s[k]'hlt).toNat ≤ 94) ∨ (95 ≤ (s[k]'hlt).toNat ∧ (s[k]'hlt).toNat ≤ 95) ∨ (96 ≤ (s[k]'hlt).toNat ∧ (s[k]'hlt).toNat ≤ 96) ∨ (97 ≤ (s[k]'hlt).toNat ∧ (s[k]'hlt).toNat ≤ 122) ∨ (123 ≤ (s[k]'hlt).toNat ∧ (s[k]'hlt).toNat ≤ 255) := by omega
        rcases hcl with hcl | hcl | hcl | hcl | hcl | hcl | hcl | hcl | hcl <;> by_cases hz : k = 0
        · obtain rfl : k = 0 := hz
          have f0 : ¬ 97 ≤ ((s[0]'hlt).toNat : Int) := by omega
          have f1 : ((s[0]'hlt).toNat : Int) ≤ 122 := by omega
          have f2 : ¬ 65 ≤ ((s[0]'hlt).toNat : Int) := by omega
          have f3 : ((s[0]'hlt).toNat : Int) ≤ 90 := by omega
          have f4 : ¬ 48 ≤ ((s[0]'hlt).toNat : Int) := by omega
          have f5 : ((s[0]'hlt).toNat : Int) ≤ 57 := by omega
          have f7 : (((s[0]'hlt).toNat : Int) == 95) = false := by simp; omega
          have hr : okAt s 0 = false := by
            rw [HOK.out, if_pos rfl]
            unfold firstB upB loB
            simp
            omega
          have HR := Lib.hid hr; clear hr
          go_wp2
          go_ret
          exact ⟨by rw [HNO.out HR.out]; rfl, rfl⟩
        · have hz1 : ((k : Int) == 0) = false := by simp [hz]
          have f0 : ¬ 97 ≤ ((s[k]'hlt).toNat : Int) := by omega
          have f1 : ((s[k]'hlt).toNat : Int) ≤ 122 := by omega
          have f2 : ¬ 65 ≤ ((s[k]'hlt).toNat : Int) := by omega
          have f3 : ((s[k]'hlt).toNat : Int) ≤ 90 := by omega
          have f4 : ¬ 48 ≤ ((s[k]'hlt).toNat : Int) := by omega
          have f5 : ((s[k]'hlt).toNat : Int) ≤ 57 := by omega
          have f7 : (((s[k]'hlt).toNat : Int) == 95) = false := by simp; omega
          have hr : okAt s k = false := by
            rw [HOK.out, if_neg hz]
            unfold idB nuB firstB upB loB
            simp
            omega
          have HR := Lib.hid hr; clear hr
          go_wp2
          go_ret
          exact ⟨by rw [HNO.out HR.out]; rfl, rfl⟩
        · obtain rfl : k = 0 := hz
          have f0 : ¬ 97 ≤ ((s[0]'hlt).toNat : Int) := by omega
          have f1 : ((s[0]'hlt).toNat : Int) ≤ 122 := by omega
          have f2 : ¬ 65 ≤ ((s[0]'hlt).toNat : Int) := by omega
          have f3 : ((s[0]'hlt).toNat : Int) ≤ 90 := by omega
          have f4 : 48 ≤ ((s[0]'hlt).toNat : Int) := by omega
          have f5 : ((s[0]'hlt).toNat : Int) ≤ 57 := by omega
          have f7 : (((s[0]'hlt).toNat : Int) == 95) = false := by simp; omega
          have hr : okAt s 0 = false := by
            rw [HOK.out, if_pos rfl]
            unfold firstB upB loB
            simp
            omega
          have HR := Lib.hid hr; clear hr
          go_wp2
          go_ret
          exact ⟨by rw [HNO.out HR.out]; rfl, rfl⟩
        · have hz1 : ((k : Int) == 0) = false := by simp [hz]
          have f0 : ¬ 97 ≤ ((s[k]'hlt).toNat : Int) := by omega
          have f1 : ((s[k]'hlt).toNat : Int) ≤ 122 := by omega
          have f2 : ¬ 65 ≤ ((s[k]'hlt).toNat : Int) := by omega
          have f3 : ((s[k]'hlt).toNat : Int) ≤ 90 := by omega
          have f4 : 48 ≤ ((s[k]'hlt).toNat : Int) := by omega
          have f5 : ((s[k]'hlt).toNat : Int) ≤ 57 := by omega
          have f7 : (((s[k]'hlt).toNat : Int) == 95) = false := by simp; omega
          have hr : okAt s k = true := by
            rw [HOK.out, if_neg hz]
            unfold idB nuB firstB upB loB
            simp
            omega
          have HR := Lib.hid hr; clear hr
          go_wp2
          go_round
          case rel => exact ⟨k + 1, by omega, by go_num, by rw [upTo_succ, HU.out, HR.out]; rfl⟩
          case measure => simp [intOf]; omega
        · obtain rfl : k = 0 := hz
          have f0 : ¬ 97 ≤ ((s[0]'hlt).toNat : Int) := by omega
          have f1 : ((s[0]'hlt).toNat : Int) ≤ 122 := by omega
          have f2 : ¬ 65 ≤ ((s[0]'hlt).toNat : Int) := by omega
          have f3 : ((s[0]'hlt).toNat : Int) ≤ 90 := by omega
          have f4 : 48 ≤ ((s[0]'hlt).toNat : Int) := by omega
          have f5 : ¬ ((s[0]'hlt).toNat : Int) ≤ 57 := by omega
          have f7 : (((s[0]'hlt).toNat : Int) == 95) = false := by simp; omega
          have hr : okAt s 0 = false := by
            rw [HOK.out, if_pos rfl]
            unfold firstB upB loB
            simp
            omega
          have HR := Lib.hid hr; clear hr
          go_wp2
          go_ret
          exact ⟨by rw [HNO.out HR.out]; rfl, rfl⟩
        · have hz1 : ((k : Int) == 0) = false := by simp [hz]
          have f0 : ¬ 97 ≤ ((s[k]'hlt).toNat : Int) := by omega
          have f1 : ((s[k]'hlt).toNat : Int) ≤ 122 := by omega
          have f2 : ¬ 65 ≤ ((s[k]'hlt).toNat : Int) := by omega
          have f3 : ((s[k]'hlt).toNat : Int) ≤ 90 := by omega
          have f4 : 48 ≤ ((s[k]'hlt).toNat : Int) := by omega
          have f5 : ¬ ((s[k]'hlt).toNat : Int) ≤ 57 := by omega
          have f7 : (((s[k]'hlt).toNat : Int) == 95) = false := by simp; omega
          have hr : okAt s k = false := by
            rw [HOK.out, if_neg hz]
            unfold idB nuB firstB upB loB
            simp
            omega
          have HR := Lib.hid hr; clear hr
          go_wp2
          go_ret
          exact ⟨by rw [HNO.out HR.out]; rfl, rfl⟩
        · obtain rfl : k = 0 := hz
          have f0 : ¬ 97 ≤ ((s[0]'hlt).toNat : Int) := by omega
          have f1 : ((s[0]'hlt).toNat : Int) ≤ 122 := by omega
          have f2 : 65 ≤ ((s[0]'hlt).toNat : Int) := by omega
          have f3 : ((s[0]'hlt).toNat : Int) ≤ 90 := by omega
          have f4 : 48 ≤ ((s[0]'hlt).toNat : Int) := by omega
          have f5 : ¬ ((s[0]'hlt).toNat : Int) ≤ 57 := by omega
          have f7 : (((s[0]'hlt).toNat : Int) == 95) = false := by simp; omega
          have hr : okAt s 0 = true := by
            rw [HOK.out, if_pos rfl]
            unfold firstB upB loB
            simp
            omega
          have HR := Lib.hid hr; clear hr
          go_wp2
          go_round
          case rel => exact ⟨0 + 1, by omega, by go_num, by rw [upTo_succ, HU.out, HR.out]; rfl⟩
          case measure => simp [intOf]; omega
        · have hz1 : ((k : Int) == 0) = false := by simp [hz]
          have f0 : ¬ 97 ≤ ((s[k]'hlt).toNat : Int) := by omega
          have f1 : ((s[k]'hlt).toNat : Int) ≤ 122 := by omega
          have f2 : 65 ≤ ((s[k]'hlt).toNat : Int) := by omega
          have f3 : ((s[k]'hlt).toNat : Int) ≤ 90 := by omega
          have f4 : 48 ≤ ((s[k]'hlt).toNat : Int) := by omega
          have f5 : ¬ ((s[k]'hlt).toNat : Int) ≤ 57 := by omega
          have f7 : (((s[k]'hlt).toNat : Int) == 95) = false := by simp; omega
          have hr : okAt s k = true := by
            rw [HOK.out, if_neg hz]
            unfold idB nuB firstB upB loB
            simp
            omega
          have HR := Lib.hid hr; clear hr
          go_wp2
          go_round
          case rel => exact ⟨k + 1, by omega, by go_num, by rw [upTo_succ, HU.out, HR.out]; rfl⟩
          case measure => simp [intOf]; omega
        · obtain rfl : k = 0 := hz
          have f0 : ¬ 97 ≤ ((s[0]'hlt).toNat : Int) := by omega
          have f1 : ((s[0]'hlt).toNat : Int) ≤ 122 := by omega
          have f2 : 65 ≤ ((s[0]'hlt).toNat : Int) := by omega
          have f3 : ¬ ((s[0]'hlt).toNat : Int) ≤ 90 := by omega
          have f4 : 48 ≤ ((s[0]'hlt).toNat : Int) := by omega
          have f5 : ¬ ((s[0]'hlt).toNat : Int) ≤ 57 := by omega
          have f7 : (((s[0]'hlt).toNat : Int) == 95) = false := by simp; omega
          have hr : okAt s 0 = false := by
            rw [HOK.out, if_pos rfl]
            unfold firstB upB loB
            simp
            omega
          have HR := Lib.hid hr; clear hr
          go_wp2
          go_ret
          exact ⟨by rw [HNO.out HR.out]; rfl, rfl⟩
        · have hz1 : ((k : Int) == 0) = false := by simp [hz]
          have f0 : ¬ 97 ≤ ((s[k]'hlt).toNat : Int) := by omega
          have f1 : ((s[k]'hlt).toNat : Int) ≤ 122 := by omega
          have f2 : 65 ≤ ((s[k]'hlt).toNat : Int) := by omega
          have f3 : ¬ ((s[k]'hlt).toNat : Int) ≤ 90 := by omega
          have f4 : 48 ≤ ((s[k]'hlt).toNat : Int) := by omega
          have f5 : ¬ ((s[k]'hlt).toNat : Int) ≤ 57 := by omega
          have f7 : (((s[k]'hlt).toNat : Int) == 95) = false := by simp; omega
          have hr : okAt s k = false := by
            rw [HOK.out, if_neg hz]
            unfold idB nuB firstB upB loB
            simp
            omega
          have HR := Lib.hid hr; clear hr
          go_wp2
          go_ret
          exact ⟨by rw [HNO.out HR.out]; rfl, rfl⟩
        · obtain rfl : k = 0 := hz
          have f0 : ¬ 97 ≤ ((s[0]'hlt).toNat : Int) := by omega
          have f1 : ((s[0]'hlt).toNat : Int) ≤ 122 := by omega
          have f2 : 65 ≤ ((s[0]'hlt).toNat : Int) := by omega
          have f3 : ¬ ((s[0]'hlt).toNat : Int) ≤ 90 := by omega
          have f4 : 48 ≤ ((s[0]'hlt).toNat : Int) := by omega
          have f5 : ¬ ((s[0]'hlt).toNat : Int) ≤ 57 := by omega
          have f7 : (((s[0]'hlt).toNat : Int) == 95) = true := by simp; omega
          have hr : okAt s 0 = true := by
            rw [HOK.out, if_pos rfl]
            unfold firstB upB loB
            simp
            omega
          have HR := Lib.hid hr; clear hr
          go_wp2
          go_round
          case rel => exact ⟨0 + 1, by omega, by go_num, by rw [upTo_succ, HU.out, HR.out]; rfl⟩
          case measure => simp [intOf]; omega
        · have hz1 : ((k : Int) == 0) = false := by simp [hz]
          have f0 : ¬ 97 ≤ ((s[k]'hlt).toNat : Int) := by omega
          have f1 : ((s[k]'hlt).toNat : Int) ≤ 122 := by omega
          have f2 : 65 ≤ ((s[k]'hlt).toNat : Int) := by omega
          have f3 : ¬ ((s[k]'hlt).toNat : Int) ≤ 90 := by omega
          have f4 : 48 ≤ ((s[k]'hlt).toNat : Int) := by omega
          have f5 : ¬ ((s[k]'hlt).toNat : Int) ≤ 57 := by omega
          have f7 : (((s[k]'hlt).toNat : Int) == 95) = true := by simp; omega
          have hr : okAt s k = true := by
            rw [HOK.out, if_neg hz]
            unfold idB nuB firstB upB loB
            simp
            omega
          have HR := Lib.hid hr; clear hr
          go_wp2
          go_round
          case rel => exact ⟨k + 1, by omega, by go_num, by rw [upTo_succ, HU.out, HR.out]; rfl⟩
          case measure => simp [intOf]; omega
        · obtain rfl : k = 0 := hz
          have f0 : ¬ 97 ≤ ((s[0]'hlt).toNat : Int) := by omega
          have f1 : ((s[0]'hlt).toNat : Int) ≤ 122 := by omega
          have f2 : 65 ≤ ((s[0]'hlt).toNat : Int) := by omega
          have f3 : ¬ ((s[0]'hlt).toNat : Int) ≤ 90 := by omega
          have f4 : 48 ≤ ((s[0]'hlt).toNat : Int) := by omega
          have f5 : ¬ ((s[0]'hlt).toNat : Int) ≤ 57 := by omega
          have f7 : (((s[0]'hlt).toNat : Int) == 95) = false := by simp; omega
          have hr : okAt s 0 = false := by
            rw [HOK.out, if_pos rfl]
            unfold firstB upB loB
            simp
            omega
          have HR := Lib.hid hr; clear hr
          go_wp2
          go_ret
          exact ⟨by rw [HNO.out HR.out]; rfl, rfl⟩
        · have hz1 : ((k : Int) == 0) = false := by simp [hz]
          have f0 : ¬ 97 ≤ ((s[k]'hlt).toNat : Int) := by omega
          have f1 : ((s[k]'hlt).toNat : Int) ≤ 122 := by omega
          have f2 : 65 ≤ ((s[k]'hlt).toNat : Int) := by omega
          have f3 : ¬ ((s[k]'hlt).toNat : Int) ≤ 90 := by omega
          have f4 : 48 ≤ ((s[k]'hlt).toNat : Int) := by omega
          have f5 : ¬ ((s[k]'hlt).toNat : Int) ≤ 57 := by omega
          have f7 : (((s[k]'hlt).toNat : Int) == 95) = false := by simp; omega
          have hr : okAt s k = false := by
            rw [HOK.out, if_neg hz]
            unfold idB nuB firstB upB loB
            simp
            omega
          have HR := Lib.hid hr; clear hr
          go_wp2
          go_ret
          exact ⟨by rw [HNO.out HR.out]; rfl, rfl⟩
        · obtain rfl : k = 0 := hz
          have f0 : 97 ≤ ((s[0]'hlt).toNat : Int) := by omega
          have f1 : ((s[0]'hlt).toNat : Int) ≤ 122 := by omega
          have f2 : 65 ≤ ((s[0]'hlt).toNat : Int) := by omega
          have f3 : ¬ ((s[0]'hlt).toNat : Int) ≤ 90 := by omega
          have f4 : 48 ≤ ((s[0]'hlt).toNat : Int) := by omega
          have f5 : ¬ ((s[0]'hlt).toNat : Int) ≤ 57 := by omega
          have f7 : (((s[0]'hlt).toNat : Int) == 95) = false := by simp; omega
          have hr : okAt s 0 = true := by
            rw [HOK.out, if_pos rfl]
            unfold firstB upB loB
            simp
            omega
          have HR := Lib.hid hr; clear hr
          go_wp2
          go_round
          case rel => exact ⟨0 + 1, by omega, by go_num, by rw [upTo_succ, HU.out, HR.out]; rfl⟩
          case measure => simp [intOf]; omega
        · have hz1 : ((k : Int) == 0) = false := by simp [hz]
          have f0 : 97 ≤ ((s[k]'hlt).toNat : Int) := by omega
          have f1 : ((s[k]'hlt).toNat : Int) ≤ 122 := by omega
          have f2 : 65 ≤ ((s[k]'hlt).toNat : Int) := by omega
          have f3 : ¬ ((s[k]'hlt).toNat : Int) ≤ 90 := by omega
          have f4 : 48 ≤ ((s[k]'hlt).toNat : Int) := by omega
          have f5 : ¬ ((s[k]'hlt).toNat : Int) ≤ 57 := by omega
          have f7 : (((s[k]'hlt).toNat : Int) == 95) = false := by simp; omega
          have hr : okAt s k = true := by
            rw [HOK.out, if_neg hz]
            unfold idB nuB firstB upB loB
            simp
            omega
          have HR := Lib.hid hr; clear hr
          go_wp2
          go_round
          case rel => exact ⟨k + 1, by omega, by go_num, by rw [upTo_succ, HU.out, HR.out]; rfl⟩
          case measure => simp [intOf]; omega
        · obtain rfl : k = 0 := hz
          have f0 : 97 ≤ ((s[0]'hlt).toNat : Int) := by omega
          have f1 : ¬ ((s[0]'hlt).toNat : Int) ≤ 122 := by omega
          have f2 : 65 ≤ ((s[0]'hlt).toNat : Int) := by omega
          have f3 : ¬ ((s[0]'hlt).toNat : Int) ≤ 90 := by omega
          have f4 : 48 ≤ ((s[0]'hlt).toNat : Int) := by omega
          have f5 : ¬ ((s[0]'hlt).toNat : Int) ≤ 57 := by omega
          have f7 : (((s[0]'hlt).toNat : Int) == 95) = false := by simp; omega
          have hr : okAt s 0 = false := by
            rw [HOK.out, if_pos rfl]
            unfold firstB upB loB
            simp
            omega
          have HR := Lib.hid hr; clear hr
          go_wp2
          go_ret
          exact ⟨by rw [HNO.out HR.out]; rfl, rfl⟩
        · have hz1 : ((k : Int) == 0) = false := by simp [hz]
          have f0 : 97 ≤ ((s[k]'hlt).toNat : Int) := by omega
          have f1 : ¬ ((s[k]'hlt).toNat : Int) ≤ 122 := by omega
          have f2 : 65 ≤ ((s[k]'hlt).toNat : Int) := by omega
          have f3 : ¬ ((s[k]'hlt).toNat : Int) ≤ 90 := by omega
          have f4 : 48 ≤ ((s[k]'hlt).toNat : Int) := by omega
          have f5 : ¬ ((s[k]'hlt).toNat : Int) ≤ 57 := by omega
          have f7 : (((s[k]'hlt).toNat : Int) == 95) = false := by simp; omega
          have hr : okAt s k = false := by
            rw [HOK.out, if_neg hz]
            unfold idB nuB firstB upB loB
            simp
            omega
          have HR := Lib.hid hr; clear hr
          go_wp2
          go_ret
          exact ⟨by rw [HNO.out HR.out]; rfl, rfl⟩
      · obtain rfl : k = s.size := by omega
        go_wp2_with fail
        refine (zzIsKeyword_any _ s).mono ?_
        rintro e w' ⟨rfl, rfl⟩
        go_wp2_with fail
        go_ret
        exact ⟨by rw [identB_yes s h0 HU.out]; rfl, rfl⟩
end Go.Proofs.YtepipmjcfnncdaaFmt
