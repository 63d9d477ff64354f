/- The proof of laws.FnP224Verify, text 25 of 36. Conditions: none. -/
import Derived.Test.YtmogojlijkddpaaGreatT17
noncomputable section

set_option maxRecDepth 100000
namespace Go.Proofs.YtmogojlijkddpaaGreat
theorem row_chk14 : rowB 14 1 = true := by kernel_rfl
theorem row_chk15 : rowB 15 1 = true := by kernel_rfl
theorem row_chk16 : rowB 16 1 = true := by kernel_rfl
theorem row_chk17 : rowB 17 1 = true := by kernel_rfl
theorem row_chk18 : rowB 18 1 = true := by kernel_rfl
theorem row_chk19 : rowB 19 1 = true := by kernel_rfl
theorem row_chk20 : rowB 20 1 = true := by kernel_rfl
theorem row_chk21 : rowB 21 1 = true := by kernel_rfl
theorem row_chk22 : rowB 22 1 = true := by kernel_rfl
theorem row_chk23 : rowB 23 1 = true := by kernel_rfl
theorem row_chk24 : rowB 24 1 = true := by kernel_rfl
theorem row_chk25 : rowB 25 1 = true := by kernel_rfl
theorem row_chk26 : rowB 26 1 = true := by kernel_rfl
theorem row_chk27 : rowB 27 1 = true := by kernel_rfl
end Go.Proofs.YtmogojlijkddpaaGreat
end
