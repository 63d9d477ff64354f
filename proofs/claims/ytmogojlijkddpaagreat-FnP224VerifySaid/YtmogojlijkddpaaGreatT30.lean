/- The proof of laws.FnP224Verify, text 31 of 36. Conditions: none. -/
import Derived.Test.YtmogojlijkddpaaGreatT22
import Derived.Test.YtmogojlijkddpaaGreatT28
import Derived.Test.YtmogojlijkddpaaGreatT29
noncomputable section

set_option maxRecDepth 100000
namespace Go.Proofs.YtmogojlijkddpaaGreat
open Go.Vm
variable {X : Tk}
theorem grq_of (_ : FO X) {i : Nat} (h1 : RunSp Tryz.prog X genB (grpC i).spec) (h2 : RunSp Tryz.prog X genB (grpC (i + 7)).spec) (hc : chkCode (twoG i (grqC i).start) (grqC i) [(0, grqLk)] = true) : RunSp Tryz.prog X genB (grqC i).spec := runs_sum (runs_seq h1 h2) hc fun d hd => by
  simp only [List.mem_singleton] at hd
  subst hd
  exact grq_end i
theorem loopAll2_ok (h : FO X) : LoopSp Tryz.prog X genB loopAll2 :=
  runs_loop (grq_of h (grp_of h grp_chk0) (grp_of h grp_chk7) grq_chk0) (runs_loop (grq_of h (grp_of h grp_chk14) (grp_of h grp_chk21) grq_chk14) (runs_loop (grq_of h (grp_of h grp_chk28) (grp_of h grp_chk35) grq_chk28) (runs_loop (grq_of h (grp_of h grp_chk42) (grp_of h grp_chk49) grq_chk42) (runs_loop (oneR_ok h) loop_none))))
theorem sp141b_ok (h : FO X) : SpecOK Tryz.prog X 141 sp141b := run_spec (EJ'_ok h) Tryz.func141 (by kernel_rfl) (blk_bok gt_nodup (by rw [gblk0_eq]; exact block_loop (loopAll2_ok h)))
theorem specK2_ok (h : FO X) : ∀ f sp, specK2 f = some sp -> FnOK Tryz.prog f /\ SpecOK Tryz.prog X f sp := fun f sp hs => by
  unfold specK2 at hs
  split at hs
  · simp only [Option.some.injEq] at hs; subst hs; exact ⟨fn_ok Tryz.func141 (by kernel_rfl) (by kernel_rfl), sp141b_ok h⟩
  · simp only [Option.some.injEq] at hs; subst hs; exact ⟨fn_ok Tryz.func129 (by kernel_rfl) (by kernel_rfl), (addQ_ok h.toFK).or (addP_ok h.toFK)⟩
  · exact specJ'_ok h f sp hs
theorem EK2_ok (h : FO X) : EnvOK Tryz.prog X EK2 := mkEnv_ok mixed_ok tys2_ok fns_ok names_ok ext0_ok (specK2_ok h)
theorem sbm_ok (h : FQ X) : SpecOK Tryz.prog X 132 sbS.spec := fn_sum (EK2_ok h.toFO) sbm_chk (one_ds (sb_end h))
end Go.Proofs.YtmogojlijkddpaaGreat
end
