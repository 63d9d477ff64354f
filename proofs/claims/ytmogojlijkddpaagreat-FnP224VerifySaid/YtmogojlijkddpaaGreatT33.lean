/- The proof of laws.FnP224Verify, text 34 of 36. Conditions: none. -/
import Derived.Test.YtmogojlijkddpaaGreatT32
noncomputable section

set_option maxRecDepth 100000
namespace Go.Vm
def selS (k : Nat) : Sm := { bd := List.replicate 64 W64 ++ [(0, 255), (0, 4), (0, 28), (0, 28), (0, 2), (0, 2)], args := [.ptr 0 0, .int .u64 (.const k), .ptr 2 0, .int .i64 (.const 0), .ptr 33 0, .ptr 34 0, .slice 35 0 28 28, .slice 36 0 2 2, .int .u8 (.var 64), .int .i64 (.var 65), .int .i64 (.var 66), .int .i64 (.var 67), .int .i64 (.var 68), .int .i64 (.var 69)], mem := [natB 1 4, limbV 0, ⟨153, (List.range 15).map (fun j => .ptr (3 + 2 * j) 0), true⟩] ++ ((List.range 15).flatMap fun j => [natB (4 + 2 * j) 4, limbV (4 + 4 * j)]) ++ [⟨113, [], false⟩, ⟨118, [], false⟩, ⟨5, [], false⟩, ⟨3, [], false⟩], al := [], outs := [{ nbd := [], val := .tup [.ptr 0 0, .int .u64 (.const k), .ptr 2 0, .ptr 33 0, .ptr 34 0, .slice 35 0 28 28, .slice 36 0 2 2, .int .u8 (.var 64), .int .i64 (.var 65), .int .i64 (.var 66), .int .i64 (.var 67), .int .i64 (.var 68), .int .i64 (.var 69)], writes := [(1, limbC (4 * k))], news := [], post := [] }] }
def selC (k : Nat) : CSm := { core := selS k, nt := 142, tin := [11, 16, 9, 112, 0, 3, 75, 81, 13, 15, 76, 77, 82, 83], kinds := [(.normal, [11, 16, 9, 0, 3, 75, 81, 13, 15, 76, 77, 82, 83])] }
def selSp (S : St) : Option (List (Out × St)) :=
  match S.tmps.get (path 16) with
  | some (.int _ (.const (.ofNat k))) => if k < 16 then (selC k).spec S else none
  | _ => none
end Go.Vm
namespace Go.Proofs.YtmogojlijkddpaaGreat
open Go.Vm
variable {X : Tk}
def selB (k : Nat) : Bool := chkCode (exec EN2 3000 (fun _ => none) (blkAt (bodyOf Tryz.f92) 6) (selC k).start) (selC k) [(0, ⟨[], [], [], []⟩)]
theorem sel_chk0 : selB 0 = true := by kernel_rfl
theorem sel_chk1 : selB 1 = true := by kernel_rfl
theorem sel_chk2 : selB 2 = true := by kernel_rfl
theorem sel_chk3 : selB 3 = true := by kernel_rfl
theorem sel_chk4 : selB 4 = true := by kernel_rfl
theorem sel_chk5 : selB 5 = true := by kernel_rfl
theorem sel_chk6 : selB 6 = true := by kernel_rfl
theorem sel_chk7 : selB 7 = true := by kernel_rfl
theorem sel_chk8 : selB 8 = true := by kernel_rfl
theorem sel_chk9 : selB 9 = true := by kernel_rfl
theorem sel_chk10 : selB 10 = true := by kernel_rfl
theorem sel_chk11 : selB 11 = true := by kernel_rfl
theorem sel_chk12 : selB 12 = true := by kernel_rfl
theorem sel_chk13 : selB 13 = true := by kernel_rfl
theorem sel_chk14 : selB 14 = true := by kernel_rfl
theorem sel_chk15 : selB 15 = true := by kernel_rfl
theorem sel_chk : ∀ k, k < 16 -> selB k = true
  | 0, _ => sel_chk0
  | 1, _ => sel_chk1
  | 2, _ => sel_chk2
  | 3, _ => sel_chk3
  | 4, _ => sel_chk4
  | 5, _ => sel_chk5
  | 6, _ => sel_chk6
  | 7, _ => sel_chk7
  | 8, _ => sel_chk8
  | 9, _ => sel_chk9
  | 10, _ => sel_chk10
  | 11, _ => sel_chk11
  | 12, _ => sel_chk12
  | 13, _ => sel_chk13
  | 14, _ => sel_chk14
  | 15, _ => sel_chk15
  | n + 16, h => absurd h (by omega)
theorem sel_ok (h : FR X) : CodeSp Tryz.prog X (blkAt (bodyOf Tryz.f92) 6) selSp := fun S ls hs => by
  unfold selSp at hs
  split at hs
  · split at hs
    · rename_i k _ hk
      have hc := sel_chk k hk
      unfold selB at hc
      exact code_by (EN2_ok h) (BOK_none _) hc (fun d hd => by
        simp only [List.mem_singleton] at hd
        subst hd
        exact endP_none _ rfl rfl) S ls hs
    · cases hs
  · cases hs
theorem exp_nodup : nodupB ((blocksOf (bodyOf Tryz.f92)).map (·.1)) = true := by kernel_rfl
theorem exp_chk : chkFn (execFn EN2 3000 (blockB 6 selSp) Tryz.f92 expS2.args expS2.start) expS2 [(0, ninLk)] = true := by kernel_rfl
theorem exp_ok (h : FS X) : SpecOK Tryz.prog X 92 expS2.spec := fn_sumB (EN2_ok h.toFR) Tryz.func92 (by kernel_rfl) (blk_bok exp_nodup (sel_ok h.toFR)) exp_chk (one_ds (exp_end h))
def specN3 (f : FuncId) : Option (Fs) := match f with | 92 => some expS2.spec | f => specN2 f
theorem specN3_ok (h : FS X) : ∀ f sp, specN3 f = some sp -> FnOK Tryz.prog f /\ SpecOK Tryz.prog X f sp := fun f sp hs => by
  unfold specN3 at hs
  split at hs
  · simp only [Option.some.injEq] at hs; subst hs; exact ⟨fn_ok Tryz.func92 (by kernel_rfl) (by kernel_rfl), exp_ok h⟩
  · exact specN2_ok h.toFR f sp hs
def EN3 : Env := mkEnv Tryz.prog tyTree2 fnTree ext0 specN3
theorem EN3_ok (h : FS X) : EnvOK Tryz.prog X EN3 := mkEnv_ok mixed_ok tys2_ok fns_ok names_ok ext0_ok (specN3_ok h)
theorem nin_chk : chkFn (execCall EN3 3000 72 ninS.args ninS.start) ninS [(0, ninLk2)] = true := by kernel_rfl
theorem nin_ok (h : FS X) : SpecOK Tryz.prog X 72 (ninS.tighten [W4]).spec :=
  (fn_sum (EN3_ok h) nin_chk (one_ds nin_end)).tight rfl fun i o w h1 h2 => by
    match i, h1, h2 with
    | 0, h1, h2 =>
      cases h1; cases h2
      refine tight_of rfl (fun x hx σ hp => ?_) (List.cons_ne_nil _ _)
      cases List.mem_singleton.1 hx
      exact Eq.mp (by kernel_rfl) ((h.nin _).1 hp).1
    | n + 1, h1, h2 => simp at h2
end Go.Proofs.YtmogojlijkddpaaGreat
end
