/- The proof of laws.FnP224Verify, text 30 of 36. Conditions: none. -/
import Derived.Test.YtmogojlijkddpaaGreatT21
noncomputable section

set_option maxRecDepth 100000
namespace Go.Proofs.YtmogojlijkddpaaGreat
open Go.Vm
theorem grq_chk0 : chkCode (twoG 0 (grqC 0).start) (grqC 0) [(0, grqLk)] = true := by kernel_rfl
open Go.Vm
theorem grq_chk14 : chkCode (twoG 14 (grqC 14).start) (grqC 14) [(0, grqLk)] = true := by kernel_rfl
open Go.Vm
theorem grq_chk28 : chkCode (twoG 28 (grqC 28).start) (grqC 28) [(0, grqLk)] = true := by kernel_rfl
open Go.Vm
theorem grq_chk42 : chkCode (twoG 42 (grqC 42).start) (grqC 42) [(0, grqLk)] = true := by kernel_rfl
end Go.Proofs.YtmogojlijkddpaaGreat
end
