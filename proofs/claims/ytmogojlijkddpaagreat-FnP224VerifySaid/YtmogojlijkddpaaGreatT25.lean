/- The proof of laws.FnP224Verify, text 26 of 36. Conditions: none. -/
import Derived.Test.YtmogojlijkddpaaGreatT17
noncomputable section

set_option maxRecDepth 100000
namespace Go.Proofs.YtmogojlijkddpaaGreat
theorem row_chk28 : rowB 28 1 = true := by kernel_rfl
theorem row_chk29 : rowB 29 1 = true := by kernel_rfl
theorem row_chk30 : rowB 30 1 = true := by kernel_rfl
theorem row_chk31 : rowB 31 1 = true := by kernel_rfl
theorem row_chk32 : rowB 32 1 = true := by kernel_rfl
theorem row_chk33 : rowB 33 1 = true := by kernel_rfl
theorem row_chk34 : rowB 34 1 = true := by kernel_rfl
theorem row_chk35 : rowB 35 1 = true := by kernel_rfl
theorem row_chk36 : rowB 36 1 = true := by kernel_rfl
theorem row_chk37 : rowB 37 1 = true := by kernel_rfl
theorem row_chk38 : rowB 38 1 = true := by kernel_rfl
theorem row_chk39 : rowB 39 1 = true := by kernel_rfl
theorem row_chk40 : rowB 40 1 = true := by kernel_rfl
theorem row_chk41 : rowB 41 1 = true := by kernel_rfl
end Go.Proofs.YtmogojlijkddpaaGreat
end
