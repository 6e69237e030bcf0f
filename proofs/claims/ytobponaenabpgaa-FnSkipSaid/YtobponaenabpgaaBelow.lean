/- Two steps of 'nothing that was there has been written' make one. -/
import Derived.Below
namespace Go.Proofs.Ytobponaenabpgaa.Sv
open Go.RowKit
theorem below_two {w a b : World} (h : Below w.heap.size w a) (k : Below a.heap.size a b) : Below w.heap.size w b := h.trans (k.mono h.size)
end Go.Proofs.Ytobponaenabpgaa.Sv
