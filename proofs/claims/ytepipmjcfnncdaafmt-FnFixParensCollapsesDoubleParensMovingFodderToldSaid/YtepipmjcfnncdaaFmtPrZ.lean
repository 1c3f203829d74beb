/- The contract of n008_102's zzBytes_FnFixParensCollapsesDoubleParensMovingFodder. -/
import Derived.Test.YtepipmjcfnncdaaFmtInt
namespace Go.Proofs.YtepipmjcfnncdaaFmt
open Go.ChangeShapes Go.WideShapes Go.ChangeAt Go.RowKit

/-- No string, and not their number, is over 2^20. -/
def SmallS (len : Nat) (ss : List ByteArray) : Prop := len ≤ 1048576 ∧ ∀ (j : Nat) s, j < len → ss[j]? = some s → s.size ≤ 1048576
def SmallT (k : Nat) (ss : List ByteArray) : Prop := ∀ (j : Nat) s, j < k → ss[j]? = some s → s.size ≤ 1048576
theorem SmallT.step {k : Nat} {ss : List ByteArray} {t : ByteArray} (h : SmallT k ss) (ht : ss.getD k ByteArray.empty = t) (hs : t.size ≤ 1048576) : SmallT (k + 1) ss := by
  intro j s hj hx
  by_cases hjk : j < k
  · exact h j s hjk hx
  · obtain rfl : j = k := by omega
    rw [List.getD_eq_getElem?_getD, hx] at ht
    simp at ht
    subst ht
    exact hs
/-- It returns a bool that, if true, says P, and leaves the world alone. -/
def TellsW (P : Prop) (w : World) (e : Ending) (w' : World) : Prop := ∃ b : Bool, e = .returned (.bool b) ∧ w = w' ∧ (b = true → P)

set_option maxRecDepth 100000 in
set_option maxHeartbeats 8000000 in
theorem zzBytes_Pr (w : World) (id : ByteArray) (hid : id.size ≤ maxLen) (aa : Option Addr) (lena capa : Nat) (sa : List ByteArray) (ab : Option Addr) (lenb capb : Nat) (sb : List ByteArray) (ac : Option Addr) (lenc capc : Nat) (sc : List ByteArray) (ad : Option Addr) (lend capd : Nat) (sd : List ByteArray) (ae : Option Addr) (lene cape : Nat) (se : List ByteArray) (ha : IsStrs w aa lena capa sa) (hb : IsStrs w ab lenb capb sb) (hc : IsStrs w ac lenc capc sc) (hd : IsStrs w ad lend capd sd) (he : IsStrs w ae lene cape se) :
    Calls Tryf.prog 40 #[.string id, .slice aa lena capa, .slice ab lenb capb, .slice ac lenc capc, .slice ad lend capd, .slice ae lene cape] w (TellsW (id.size ≤ 1048576 ∧ SmallS lena sa ∧ SmallS lenb sb ∧ SmallS lenc sc ∧ SmallS lend sd ∧ SmallS lene se) w) := by
  unfold maxLen at hid
  obtain ⟨la, ta, za, -, ea⟩ := ha.open
  have Ea := Lib.hid ea; clear ea
  have Za := Lib.hid za; clear za ha
  obtain ⟨lb, tb, zb, -, eb⟩ := hb.open
  have Eb := Lib.hid eb; clear eb
  have Zb := Lib.hid zb; clear zb hb
  obtain ⟨lc, tc, zc, -, ec⟩ := hc.open
  have Ec := Lib.hid ec; clear ec
  have Zc := Lib.hid zc; clear zc hc
  obtain ⟨ld, td, zd, -, ed⟩ := hd.open
  have Ed := Lib.hid ed; clear ed
  have Zd := Lib.hid zd; clear zd hd
  obtain ⟨le, te, ze, -, ee⟩ := he.open
  have Ee := Lib.hid ee; clear ee
  have Ze := Lib.hid ze; clear ze he
  unfold maxLen at ta tb tc td te
  by_cases hi : 1048576 < id.size
  · go_enter Tryf.func40, Tryf.ntmps40
    go_wp2_with fail
    go_ret
    exact ⟨false, rfl, rfl, by simp⟩
  by_cases hA : 1048576 < lena
  · go_enter Tryf.func40, Tryf.ntmps40
    go_wp2_with fail
    all_goals
      go_ret
      exact ⟨false, rfl, rfl, by simp⟩
  go_enter Tryf.func40, Tryf.ntmps40
  go_wp2_with fail
  all_goals first
    | (go_ret; exact ⟨false, rfl, rfl, by simp⟩)
    | skip
  go_loop [13, 14] (fun c i => ∃ (k : Nat) (n : Int), k ≤ lena ∧ i = .int .i64 k ∧ c = .int .i64 n ∧ SmallT k sa) (fun _ i => lena - (intOf i).toNat)
  case atStart => exact ⟨0, _, Nat.zero_le _, rfl, rfl, fun j s hj => by omega⟩
  case round =>
    obtain ⟨k, n, hk, rfl, rfl, hs⟩ := hrel
    have HS := Lib.hid hs; clear hs
    by_cases hlt : k < lena
    · obtain ⟨b, o, rfl, hbl, hc⟩ := Ea.out k hlt
      have c0 := hc k (by omega)
      obtain ⟨t, ht⟩ : ∃ t, sa.getD k ByteArray.empty = t := ⟨_, rfl⟩
      rw [ht] at c0
      have HT := Lib.hid ht; clear ht hc
      by_cases hts : 1048576 < t.size
      · go_wp2_with fail
        go_ret
        exact ⟨false, rfl, rfl, by simp⟩
      have hst := HS.out.step HT.out (by omega)
      have HST := Lib.hid hst; clear hst HT
      go_wp2_with fail
      all_goals first
        | (go_ret; exact ⟨false, rfl, rfl, by simp⟩)
        | exact ⟨⟨k + 1, _, by omega, by go_num, rfl, HST.out⟩, by simp [intOf]; omega⟩
    · obtain rfl : k = lena := by omega
      have Da := Lib.hid HS.out; clear HS hlt hk
      by_cases hb2 : 1048576 < lenb
      · go_wp2_with fail
        all_goals
          go_ret
          exact ⟨false, rfl, rfl, by simp⟩
      go_wp2_with fail
      all_goals first
        | (go_ret; exact ⟨false, rfl, rfl, by simp⟩)
        | skip
      go_loop [13, 15] (fun c i => ∃ (k : Nat) (n : Int), k ≤ lenb ∧ i = .int .i64 k ∧ c = .int .i64 n ∧ SmallT k sb) (fun _ i => lenb - (intOf i).toNat)
      case atStart => exact ⟨0, _, Nat.zero_le _, rfl, rfl, fun j s hj => by omega⟩
      case round =>
        obtain ⟨k, n, hk, rfl, rfl, hs⟩ := hrel
        have HS := Lib.hid hs; clear hs
        by_cases hlt : k < lenb
        · obtain ⟨b, o, rfl, hbl, hc⟩ := Eb.out k hlt
          have c0 := hc k (by omega)
          obtain ⟨t, ht⟩ : ∃ t, sb.getD k ByteArray.empty = t := ⟨_, rfl⟩
          rw [ht] at c0
          have HT := Lib.hid ht; clear ht hc
          by_cases hts : 1048576 < t.size
          · go_wp2_with fail
            go_ret
            exact ⟨false, rfl, rfl, by simp⟩
          have hst := HS.out.step HT.out (by omega)
          have HST := Lib.hid hst; clear hst HT
          go_wp2_with fail
          all_goals first
            | (go_ret; exact ⟨false, rfl, rfl, by simp⟩)
            | exact ⟨⟨k + 1, _, by omega, by go_num, rfl, HST.out⟩, by simp [intOf]; omega⟩
        · obtain rfl : k = lenb := by omega
          have Db := Lib.hid HS.out; clear HS hlt hk
          by_cases hc2 : 1048576 < lenc
          · go_wp2_with fail
            all_goals
              go_ret
              exact ⟨false, rfl, rfl, by simp⟩
          go_wp2_with fail
          all_goals first
            | (go_ret; exact ⟨false, rfl, rfl, by simp⟩)
            | skip
          go_loop [13, 16] (fun c i => ∃ (k : Nat) (n : Int), k ≤ lenc ∧ i = .int .i64 k ∧ c = .int .i64 n ∧ SmallT k sc) (fun _ i => lenc - (intOf i).toNat)
          case atStart => exact ⟨0, _, Nat.zero_le _, rfl, rfl, fun j s hj => by omega⟩
          case round =>
            obtain ⟨k, n, hk, rfl, rfl, hs⟩ := hrel
            have HS := Lib.hid hs; clear hs
            by_cases hlt : k < lenc
            · obtain ⟨b, o, rfl, hbl, hc⟩ := Ec.out k hlt
              have c0 := hc k (by omega)
              obtain ⟨t, ht⟩ : ∃ t, sc.getD k ByteArray.empty = t := ⟨_, rfl⟩
              rw [ht] at c0
              have HT := Lib.hid ht; clear ht hc
              by_cases hts : 1048576 < t.size
              · go_wp2_with fail
                go_ret
                exact ⟨false, rfl, rfl, by simp⟩
              have hst := HS.out.step HT.out (by omega)
              have HST := Lib.hid hst; clear hst HT
              go_wp2_with fail
              all_goals first
                | (go_ret; exact ⟨false, rfl, rfl, by simp⟩)
                | exact ⟨⟨k + 1, _, by omega, by go_num, rfl, HST.out⟩, by simp [intOf]; omega⟩
            · obtain rfl : k = lenc := by omega
              have Dc := Lib.hid HS.out; clear HS hlt hk
              by_cases hd2 : 1048576 < lend
              · go_wp2_with fail
                all_goals
                  go_ret
                  exact ⟨false, rfl, rfl, by simp⟩
              go_wp2_with fail
              all_goals first
                | (go_ret; exact ⟨false, rfl, rfl, by simp⟩)
                | skip
              go_loop [13, 17] (fun c i => ∃ (k : Nat) (n : Int), k ≤ lend ∧ i = .int .i64 k ∧ c = .int .i64 n ∧ SmallT k sd) (fun _ i => lend - (intOf i).toNat)
              case atStart => exact ⟨0, _, Nat.zero_le _, rfl, rfl, fun j s hj => by omega⟩
              case round =>
                obtain ⟨k, n, hk, rfl, rfl, hs⟩ := hrel
                have HS := Lib.hid hs; clear hs
                by_cases hlt : k < lend
                · obtain ⟨b, o, rfl, hbl, hc⟩ := Ed.out k hlt
                  have c0 := hc k (by omega)
                  obtain ⟨t, ht⟩ : ∃ t, sd.getD k ByteArray.empty = t := ⟨_, rfl⟩
                  rw [ht] at c0
                  have HT := Lib.hid ht; clear ht hc
                  by_cases hts : 1048576 < t.size
                  · go_wp2_with fail
                    go_ret
                    exact ⟨false, rfl, rfl, by simp⟩
                  have hst := HS.out.step HT.out (by omega)
                  have HST := Lib.hid hst; clear hst HT
                  go_wp2_with fail
                  all_goals first
                    | (go_ret; exact ⟨false, rfl, rfl, by simp⟩)
                    | exact ⟨⟨k + 1, _, by omega, by go_num, rfl, HST.out⟩, by simp [intOf]; omega⟩
                · obtain rfl : k = lend := by omega
                  have Dd := Lib.hid HS.out; clear HS hlt hk
                  by_cases he2 : 1048576 < lene
                  · go_wp2_with fail
                    all_goals
                      go_ret
                      exact ⟨false, rfl, rfl, by simp⟩
                  go_wp2_with fail
                  all_goals first
                    | (go_ret; exact ⟨false, rfl, rfl, by simp⟩)
                    | skip
                  go_loop [13, 18] (fun c i => ∃ (k : Nat) (n : Int), k ≤ lene ∧ i = .int .i64 k ∧ c = .int .i64 n ∧ SmallT k se) (fun _ i => lene - (intOf i).toNat)
                  case atStart => exact ⟨0, _, Nat.zero_le _, rfl, rfl, fun j s hj => by omega⟩
                  case round =>
                    obtain ⟨k, n, hk, rfl, rfl, hs⟩ := hrel
                    have HS := Lib.hid hs; clear hs
                    by_cases hlt : k < lene
                    · obtain ⟨b, o, rfl, hbl, hc⟩ := Ee.out k hlt
                      have c0 := hc k (by omega)
                      obtain ⟨t, ht⟩ : ∃ t, se.getD k ByteArray.empty = t := ⟨_, rfl⟩
                      rw [ht] at c0
                      have HT := Lib.hid ht; clear ht hc
                      by_cases hts : 1048576 < t.size
                      · go_wp2_with fail
                        go_ret
                        exact ⟨false, rfl, rfl, by simp⟩
                      have hst := HS.out.step HT.out (by omega)
                      have HST := Lib.hid hst; clear hst HT
                      go_wp2_with fail
                      all_goals first
                        | (go_ret; exact ⟨false, rfl, rfl, by simp⟩)
                        | exact ⟨⟨k + 1, _, by omega, by go_num, rfl, HST.out⟩, by simp [intOf]; omega⟩
                    · obtain rfl : k = lene := by omega
                      have De := Lib.hid HS.out; clear HS hlt hk
                      go_wp2_with fail
                      go_ret
                      exact ⟨true, rfl, rfl, fun _ => ⟨by omega, ⟨by omega, Da.out⟩, ⟨by omega, Db.out⟩, ⟨by omega, Dc.out⟩, ⟨by omega, Dd.out⟩, ⟨by omega, De.out⟩⟩⟩
end Go.Proofs.YtepipmjcfnncdaaFmt
