/- The proof of laws.FnP224Verify, text 29 of 36. Conditions: none. -/
import Derived.Test.YtmogojlijkddpaaGreatT23
import Derived.Test.YtmogojlijkddpaaGreatT24
import Derived.Test.YtmogojlijkddpaaGreatT25
import Derived.Test.YtmogojlijkddpaaGreatT26
import Derived.Test.YtmogojlijkddpaaGreatT27
noncomputable section

set_option maxRecDepth 100000
namespace Go.Proofs.YtmogojlijkddpaaGreat
open Go.Vm
variable {X : Tk}
theorem row_chks : ∀ i, i < 56 -> rowB i 1 = true
  | 0, _ => row_chk0
  | 1, _ => row_chk1
  | 2, _ => row_chk2
  | 3, _ => row_chk3
  | 4, _ => row_chk4
  | 5, _ => row_chk5
  | 6, _ => row_chk6
  | 7, _ => row_chk7
  | 8, _ => row_chk8
  | 9, _ => row_chk9
  | 10, _ => row_chk10
  | 11, _ => row_chk11
  | 12, _ => row_chk12
  | 13, _ => row_chk13
  | 14, _ => row_chk14
  | 15, _ => row_chk15
  | 16, _ => row_chk16
  | 17, _ => row_chk17
  | 18, _ => row_chk18
  | 19, _ => row_chk19
  | 20, _ => row_chk20
  | 21, _ => row_chk21
  | 22, _ => row_chk22
  | 23, _ => row_chk23
  | 24, _ => row_chk24
  | 25, _ => row_chk25
  | 26, _ => row_chk26
  | 27, _ => row_chk27
  | 28, _ => row_chk28
  | 29, _ => row_chk29
  | 30, _ => row_chk30
  | 31, _ => row_chk31
  | 32, _ => row_chk32
  | 33, _ => row_chk33
  | 34, _ => row_chk34
  | 35, _ => row_chk35
  | 36, _ => row_chk36
  | 37, _ => row_chk37
  | 38, _ => row_chk38
  | 39, _ => row_chk39
  | 40, _ => row_chk40
  | 41, _ => row_chk41
  | 42, _ => row_chk42
  | 43, _ => row_chk43
  | 44, _ => row_chk44
  | 45, _ => row_chk45
  | 46, _ => row_chk46
  | 47, _ => row_chk47
  | 48, _ => row_chk48
  | 49, _ => row_chk49
  | 50, _ => row_chk50
  | 51, _ => row_chk51
  | 52, _ => row_chk52
  | 53, _ => row_chk53
  | 54, _ => row_chk54
  | 55, _ => row_chk55
  | n + 56, h => absurd h (by omega)
theorem row_ok (h : FO X) {i : Nat} (hi : i < 56) : CodeSp Tryz.prog X (blkAt (bodyOf Tryz.f141) 1) (rowC i).spec := by
  have hc := row_chks i hi
  unfold rowB at hc
  rw [List.all_eq_true] at hc
  have := hc 0 (by simp)
  rw [Nat.add_zero] at this
  exact code_by (ES'_ok h.toFK) (BOK_none _) this (fun d hd => by
    simp only [List.mem_singleton] at hd
    subst hd
    exact row_end h.toFK h.row i)
theorem rows_ok (h : FO X) : CodeSp Tryz.prog X (blkAt (bodyOf Tryz.f141) 1) rowsSp := fun S ls hs => by
  unfold rowsSp at hs
  split at hs
  · split at hs
    · rename_i hi
      exact row_ok h hi S ls hs
    · cases hs
  · cases hs
theorem blk_bokC {P : Program} {k : Code} {id : Nat} {sp : Bs} (hn : nodupB ((blocksOf k).map (·.1)) = true) (h : CodeSp P X (blkAt k id) sp) : BOK P X (blockB id sp) k := by
  refine BOK_of fun i b hm sp' hs' => ?_
  unfold blockB at hs'
  split at hs'
  · rename_i hi
    simp only [Option.some.injEq] at hs'
    subst hi hs'
    have hf : (blocksOf k).find? (fun x => x.1 == i) = some (i, b) := by
      have hn := nodupB_spec hn
      generalize blocksOf k = l at hn hm
      induction l with
      | nil => simp at hm
      | cons x l ih =>
        simp only [List.map_cons, List.nodup_cons] at hn
        rcases List.mem_cons.1 hm with rfl | hm
        · simp
        · have : x.1 ≠ i := fun e => hn.1 (List.mem_map.2 ⟨_, hm, e.symm⟩)
          rw [List.find?_cons_of_neg (by simpa using this)]
          exact ih hn.2 hm
    unfold blkAt at h
    rw [hf] at h
    exact h
  · cases hs'
theorem oneR_ok (h : FO X) : RunSp Tryz.prog X genB oneR := runs_exec (EJ'_ok h) (blk_bokC gloop_nodup (by rw [<- gblk_eq]; exact rows_ok h))
theorem sevenR_ok (h : FO X) : RunSp Tryz.prog X genB sevenR :=
  have o := oneR_ok h
  runs_seq o (runs_seq o (runs_seq o (runs_seq o (runs_seq o (runs_seq o o)))))
theorem grp_of (h : FO X) {i : Nat} (hc : chkCode (sevenR (grpC i).start) (grpC i) [(0, grpLk)] = true) : RunSp Tryz.prog X genB (grpC i).spec := runs_sum (sevenR_ok h) hc fun d hd => by
  simp only [List.mem_singleton] at hd
  subst hd
  exact grp_end i
theorem loopAll_ok (h : FO X) : LoopSp Tryz.prog X genB loopAll :=
  runs_loop (grp_of h grp_chk0) (runs_loop (grp_of h grp_chk7) (runs_loop (grp_of h grp_chk14) (runs_loop (grp_of h grp_chk21) (runs_loop (grp_of h grp_chk28) (runs_loop (grp_of h grp_chk35) (runs_loop (grp_of h grp_chk42) (runs_loop (grp_of h grp_chk49) (runs_loop (oneR_ok h) loop_none))))))))
theorem sp141_ok (h : FO X) : SpecOK Tryz.prog X 141 sp141 := run_spec (EJ'_ok h) Tryz.func141 (by kernel_rfl) (blk_bok gt_nodup (by rw [gblk0_eq]; exact block_loop (loopAll_ok h)))
end Go.Proofs.YtmogojlijkddpaaGreat
end
