/- The proof of laws.FnP224Verify, text 27 of 36. Conditions: none. -/
import Derived.Test.YtmogojlijkddpaaGreatT17
noncomputable section

set_option maxRecDepth 100000
namespace Go.Proofs.YtmogojlijkddpaaGreat
theorem row_chk42 : rowB 42 1 = true := by kernel_rfl
theorem row_chk43 : rowB 43 1 = true := by kernel_rfl
theorem row_chk44 : rowB 44 1 = true := by kernel_rfl
theorem row_chk45 : rowB 45 1 = true := by kernel_rfl
theorem row_chk46 : rowB 46 1 = true := by kernel_rfl
theorem row_chk47 : rowB 47 1 = true := by kernel_rfl
theorem row_chk48 : rowB 48 1 = true := by kernel_rfl
theorem row_chk49 : rowB 49 1 = true := by kernel_rfl
theorem row_chk50 : rowB 50 1 = true := by kernel_rfl
theorem row_chk51 : rowB 51 1 = true := by kernel_rfl
theorem row_chk52 : rowB 52 1 = true := by kernel_rfl
theorem row_chk53 : rowB 53 1 = true := by kernel_rfl
theorem row_chk54 : rowB 54 1 = true := by kernel_rfl
theorem row_chk55 : rowB 55 1 = true := by kernel_rfl
end Go.Proofs.YtmogojlijkddpaaGreat
end
