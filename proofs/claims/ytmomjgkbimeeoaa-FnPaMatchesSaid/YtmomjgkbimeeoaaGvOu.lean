/- json-patch: values as plain data handed back (paOut). -/
import Derived.Test.YtmomjgkbimeeoaaGvIn
namespace Go.Proofs.Ytmomjgkbimeeoaa.G
set_option linter.unusedVariables false
set_option linter.unusedSimpArgs false
open Go.RowKit Go.Proofs.YtmomjgkbimeeoaaW.PrintWords

theorem nd_ret25 {fn : Func} {tmps : Array Value} {W : World} {hh : Nat} {c0 c1 c2 c3 : Value} (hfn : fn.results = #[.cell 2 25]) (h2 : tmps.getD 2 undef = .pointer (some ⟨hh, 0, none⟩)) (hg : W.heap[hh]? = some (.cells #[c0, c1, c2, c3] 25)) :
    (results fn tmps).run Try.prog W = .ok (.agg #[c0, c1, c2, c3]) W := by
  exact results_cell_row hfn tmps W hh 25 #[c0, c1, c2, c3] (0, 0) _ h2 hg Try.underlying25 rfl (by kernel_rfl)
end Go.Proofs.Ytmomjgkbimeeoaa.G
