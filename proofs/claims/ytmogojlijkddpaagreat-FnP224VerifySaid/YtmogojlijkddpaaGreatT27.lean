/- The proof of laws.FnP224Verify, text 28 of 36. Conditions: none. -/
import Derived.Test.YtmogojlijkddpaaGreatT21
noncomputable section

set_option maxRecDepth 100000
namespace Go.Proofs.YtmogojlijkddpaaGreat
open Go.Vm
theorem grp_chk0 : chkCode (sevenR (grpC 0).start) (grpC 0) [(0, grpLk)] = true := by kernel_rfl
open Go.Vm
theorem grp_chk7 : chkCode (sevenR (grpC 7).start) (grpC 7) [(0, grpLk)] = true := by kernel_rfl
open Go.Vm
theorem grp_chk14 : chkCode (sevenR (grpC 14).start) (grpC 14) [(0, grpLk)] = true := by kernel_rfl
open Go.Vm
theorem grp_chk21 : chkCode (sevenR (grpC 21).start) (grpC 21) [(0, grpLk)] = true := by kernel_rfl
open Go.Vm
theorem grp_chk28 : chkCode (sevenR (grpC 28).start) (grpC 28) [(0, grpLk)] = true := by kernel_rfl
open Go.Vm
theorem grp_chk35 : chkCode (sevenR (grpC 35).start) (grpC 35) [(0, grpLk)] = true := by kernel_rfl
open Go.Vm
theorem grp_chk42 : chkCode (sevenR (grpC 42).start) (grpC 42) [(0, grpLk)] = true := by kernel_rfl
open Go.Vm
theorem grp_chk49 : chkCode (sevenR (grpC 49).start) (grpC 49) [(0, grpLk)] = true := by kernel_rfl
end Go.Proofs.YtmogojlijkddpaaGreat
end
