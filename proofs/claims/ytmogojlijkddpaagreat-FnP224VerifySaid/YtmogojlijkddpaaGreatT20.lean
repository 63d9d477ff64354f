/- The proof of laws.FnP224Verify, text 21 of 36. Conditions: none. -/
import Derived.Test.YtmogojlijkddpaaGreatT19
noncomputable section

set_option maxRecDepth 100000
namespace Go.Proofs.YtmogojlijkddpaaGreat
open Go.Vm
theorem case_chk1 : cases1.all caseB = true := by kernel_rfl
theorem case_chk2 : cases2.all caseB = true := by kernel_rfl
theorem case_chk3 : cases3.all caseB = true := by kernel_rfl
theorem case_chk4 : cases4.all caseB = true := by kernel_rfl
theorem case_chk5 : cases5.all caseB = true := by kernel_rfl
theorem case_chk6 : cases6.all caseB = true := by kernel_rfl
theorem case_chk7 : cases7.all caseB = true := by kernel_rfl
theorem case_chk8 : cases8.all caseB = true := by kernel_rfl
theorem law_chk : chkFn (execCall EW 3000 3 lawS.args lawS.start) lawS lawDs = true := by kernel_rfl
theorem law_own : (match lawS.spec lawS.args lawS.start with | some [(.bexp (.cmp .eql (.var 114) (.const 1)), S)] => S.wr.isEmpty && (match S.cons with | [.ext 102 [.var 114]] => true | _ => false) | _ => false) = true := by kernel_rfl
end Go.Proofs.YtmogojlijkddpaaGreat
end
