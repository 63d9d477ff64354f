/- The proof of laws.FnP224Verify, text 23 of 36. Conditions: none. -/
import Derived.Test.YtmogojlijkddpaaGreatT17
import Derived.Test.YtmogojlijkddpaaGreatT21
noncomputable section

set_option maxRecDepth 100000
namespace Go.Proofs.YtmogojlijkddpaaGreat
open Go.Vm
theorem sbm_chk : chkFn (execCall EK2 3000 132 sbS.args sbS.start) sbS [(0, sbLk)] = true := by kernel_rfl
end Go.Proofs.YtmogojlijkddpaaGreat
end
