/- What the tables of cosines and sines hold, evaluated by the kernel (lines 12 to 17 of the long block). No program is named here. -/
import Derived.Test.YtbcjhkncifckiaaDoorHk
namespace Go.Proofs.YtbcjhkncifckiaaDoor
open Ieee Go Go.RowKit Go.Proofs En Fl
set_option maxRecDepth 100000
theorem t36_12 : ∀ i, i < 6 → ∀ j, j < 36 → okP (cosP 4586449032370930823 4625759767262920704 (12 + i) j) (cosS 4586449032370930823 ((2 * j + 19) * (2 * (12 + i) + 1))) = true := by decide +kernel
end Go.Proofs.YtbcjhkncifckiaaDoor
