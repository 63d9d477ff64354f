/- The proof of laws.FnP224Verify, text 24 of 36. Conditions: none. -/
import Derived.Test.YtmogojlijkddpaaGreatT17
noncomputable section

set_option maxRecDepth 100000
namespace Go.Proofs.YtmogojlijkddpaaGreat
theorem row_chk0 : rowB 0 1 = true := by kernel_rfl
theorem row_chk1 : rowB 1 1 = true := by kernel_rfl
theorem row_chk2 : rowB 2 1 = true := by kernel_rfl
theorem row_chk3 : rowB 3 1 = true := by kernel_rfl
theorem row_chk4 : rowB 4 1 = true := by kernel_rfl
theorem row_chk5 : rowB 5 1 = true := by kernel_rfl
theorem row_chk6 : rowB 6 1 = true := by kernel_rfl
theorem row_chk7 : rowB 7 1 = true := by kernel_rfl
theorem row_chk8 : rowB 8 1 = true := by kernel_rfl
theorem row_chk9 : rowB 9 1 = true := by kernel_rfl
theorem row_chk10 : rowB 10 1 = true := by kernel_rfl
theorem row_chk11 : rowB 11 1 = true := by kernel_rfl
theorem row_chk12 : rowB 12 1 = true := by kernel_rfl
theorem row_chk13 : rowB 13 1 = true := by kernel_rfl
end Go.Proofs.YtmogojlijkddpaaGreat
end
