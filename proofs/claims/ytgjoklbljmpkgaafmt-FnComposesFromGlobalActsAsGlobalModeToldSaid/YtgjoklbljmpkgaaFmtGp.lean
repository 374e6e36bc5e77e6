/-
  The contract of the pragma, as ZZrun wants it. Conditions: each theorem's own.
-/
import Derived.Test.YtgjoklbljmpkgaaFmtGn
import Derived.Test.YtgjoklbljmpkgaaFmtGm
namespace Go.Proofs.YtgjoklbljmpkgaaFmt
open Go.RowKit Go.Lib Go.ChangeMaps
theorem H13_of : H13 := by
  intro B pc ws ns fg ml w hW hK hT hws hwl hP hn4
  refine (hc13 B pc ws ns fg ml w hW hK hT hws hwl hP hn4).mono ?_
  rintro e w' ⟨a1, a2, a3, a4, a5⟩
  exact ⟨a1, a2, a3, a4, a5⟩
end Go.Proofs.YtgjoklbljmpkgaaFmt
