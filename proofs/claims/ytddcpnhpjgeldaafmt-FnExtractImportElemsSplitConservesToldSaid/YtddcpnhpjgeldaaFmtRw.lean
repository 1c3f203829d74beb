/- Rows of rows of codes that came in. -/
import Derived.Test.YtddcpnhpjgeldaaFmtRd
namespace Go.Proofs.YtddcpnhpjgeldaaFmt
open Go.ChangeShapes Go.WideShapes Go.ChangeAt Go.RowKit
theorem open_rows {H : Type} {enc : TypeId × Value → H} {w : World} {fuel : Nat} {a : Option Addr} {len cap : Nat} {x : DataW H × List MemPlace}
    (h : DataW.trod enc Tryf.prog w 0 (fun _ => true) true fuel 23 [.slice a len cap] = some x) : ∃ ds, RdR w a len cap ds := by
  obtain ⟨ds, hds⟩ := open_sl (c := 1) Tryf.underlying23 (by kernel_rfl) (by omega) RRow read_row h
  exact ⟨_, hds.rd⟩
end Go.Proofs.YtddcpnhpjgeldaaFmt
