import Derived.Test.Qxb6000759aFacts
namespace Go.Proofs.Qxb6000759a.fnPlainTagDigitLedNonIntegers
open Facts (and_mk)

set_option maxHeartbeats 4000000 in
/-- The row's closed facts, one at a time. -/
theorem closed : joinedFacts Try.prog 8 Try.f8 Rows.fnPlainTagDigitLedNonIntegersSpec Rows.fnPlainTagDigitLedNonIntegersRow = true := by
  unfold joinedFacts
  refine (and_mk (and_mk (and_mk (and_mk (and_mk (and_mk (and_mk (and_mk (and_mk (and_mk (and_mk (and_mk (and_mk (and_mk (and_mk (and_mk (and_mk (and_mk (and_mk (and_mk (and_mk (and_mk (and_mk (and_mk (and_mk (and_mk (and_mk (and_mk (and_mk (and_mk (and_mk ?f1 ?f2) ?f3) ?f4) ?f5) ?f6) ?f7) ?f8) ?f9) ?f10) ?f11) ?f12) ?f13) ?f14) ?f15) ?f16) ?f17) ?f18) ?f19) ?f20) ?f21) ?f22) ?f23) ?f24) ?f25) Facts.mayEnter) ?g27) ?g28) ?f29) ?f30) ?f31) ?f32)
  case g27 => rw [Facts.liftsFinal]; kernel_rfl
  case g28 => rw [Facts.make]; kernel_rfl
  all_goals (as_aux_lemma => kernel_rfl)

end Go.Proofs.Qxb6000759a.fnPlainTagDigitLedNonIntegers
