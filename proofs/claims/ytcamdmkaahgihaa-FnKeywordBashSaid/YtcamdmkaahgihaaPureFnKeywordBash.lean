/- The call returns true at every whole number: each of the six further reserved words of bash is a keyword; conditions: none. -/
import Derived.Test.YtcamdmkaahgihaaPFnKeywordBashx1
namespace Go.Proofs.Ytcamdmkaahgihaa.Pure
open Go.RowKit Go.Proofs.Ytcamdmkaahgihaa.PFnKeywordBash Go.Proofs.YtcamdmkaahgihaaW.PrintWords Go.Proofs.YtcamdmkaahgihaaW.PrintLast

theorem FnKeywordBash : laws_FnKeywordBash.Pure := by
  intro n _
  unfold laws_FnKeywordBash.f
  by_cases h0 : n < 0
  · simp [h0]
  · by_cases h6 : n ≥ 6
    · simp [h0, h6]
    · have hn : n = 0 ∨ n = 1 ∨ n = 2 ∨ n = 3 ∨ n = 4 ∨ n = 5 := by omega
      rcases hn with rfl | rfl | rfl | rfl | rfl | rfl <;> decide +kernel

end Go.Proofs.Ytcamdmkaahgihaa.Pure
