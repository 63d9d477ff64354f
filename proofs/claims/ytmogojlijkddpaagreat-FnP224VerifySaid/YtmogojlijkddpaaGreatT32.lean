/- The proof of laws.FnP224Verify, text 33 of 36. Conditions: none. -/
import Derived.Test.YtmogojlijkddpaaGreatT19
import Derived.Test.YtmogojlijkddpaaGreatT31
noncomputable section

set_option maxRecDepth 100000
namespace Go.Proofs.YtmogojlijkddpaaGreat
open Go.Vm
variable {X : Tk}
theorem asg0_chk : chkFn (execCall EN1 3000 68 asgS0.args asgS0.start) asgS0 [(0, ⟨[], [], [], []⟩)] = true := by kernel_rfl
theorem asg1_chk : chkFn (execCall EN1 3000 68 asgS1.args asgS1.start) asgS1 [(0, ⟨[], [], [], []⟩)] = true := by kernel_rfl
theorem asg_ok (h : FR X) : SpecOK Tryz.prog X 68 (firstSp [asgS0, asgS1]) := SpecOK.first fun s hs => by
  simp only [List.mem_cons, List.not_mem_nil, or_false] at hs
  rcases hs with rfl | rfl
  · exact fn_sum (EN1_ok h.toFP) asg0_chk (none_end rfl rfl)
  · exact fn_sum (EN1_ok h.toFP) asg1_chk (none_end rfl rfl)
def specN2 (f : FuncId) : Option (Fs) := match f with | 50 => some (nsbS2.tighten [W4, List.replicate 4 W64]).spec | 53 => some nbyS.spec | 68 => some (firstSp [asgS0, asgS1]) | 70 => some nizS.spec | 74 => some (firstSp nsoSs) | 75 => some neqS.spec | f => specN1 f
theorem specN2_ok (h : FR X) : ∀ f sp, specN2 f = some sp -> FnOK Tryz.prog f /\ SpecOK Tryz.prog X f sp := fun f sp hs => by
  unfold specN2 at hs
  split at hs
  · simp only [Option.some.injEq] at hs; subst hs; exact ⟨fn_ok Tryz.func50 (by kernel_rfl) (by kernel_rfl), nsbT_ok h⟩
  · simp only [Option.some.injEq] at hs; subst hs; exact ⟨fn_ok Tryz.func53 (by kernel_rfl) (by kernel_rfl), nby_ok h⟩
  · simp only [Option.some.injEq] at hs; subst hs; exact ⟨fn_ok Tryz.func68 (by kernel_rfl) (by kernel_rfl), asg_ok h⟩
  · simp only [Option.some.injEq] at hs; subst hs; exact ⟨fn_ok Tryz.func70 (by kernel_rfl) (by kernel_rfl), niz_ok h⟩
  · simp only [Option.some.injEq] at hs; subst hs; exact ⟨fn_ok Tryz.func74 (by kernel_rfl) (by kernel_rfl), nso_ok h⟩
  · simp only [Option.some.injEq] at hs; subst hs; exact ⟨fn_ok Tryz.func75 (by kernel_rfl) (by kernel_rfl), neq_ok h⟩
  · exact specN1_ok h.toFP f sp hs
def EN2 : Env := mkEnv Tryz.prog tyTree2 fnTree ext0 specN2
theorem EN2_ok (h : FR X) : EnvOK Tryz.prog X EN2 := mkEnv_ok mixed_ok tys2_ok fns_ok names_ok ext0_ok (specN2_ok h)
theorem nmu_chk : chkFn (execCall EN2 3000 73 nmuS.args nmuS.start) nmuS [(0, nmuLk)] = true := by kernel_rfl
theorem nmu_ok (h : FS X) : SpecOK Tryz.prog X 73 (nmuS.tighten [W4]).spec :=
  (fn_sum (EN2_ok h.toFR) nmu_chk (one_ds (nmu_end h))).tight rfl fun i o w h1 h2 => by
    match i, h1, h2 with
    | 0, h1, h2 =>
      cases h1; cases h2
      refine tight_of rfl (fun x hx σ hp => ?_) (List.cons_ne_nil _ _)
      cases List.mem_singleton.1 hx
      exact Eq.mp (by kernel_rfl) ((h.nmu _).1 hp).1
    | n + 1, h1, h2 => simp at h2
end Go.Proofs.YtmogojlijkddpaaGreat
end
