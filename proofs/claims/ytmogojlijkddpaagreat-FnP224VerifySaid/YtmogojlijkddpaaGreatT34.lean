/- The proof of laws.FnP224Verify, text 35 of 36. Conditions: none. -/
import Derived.Test.YtmogojlijkddpaaGreatT32
noncomputable section

set_option maxRecDepth 100000
namespace Go.Proofs.YtmogojlijkddpaaGreat
open Go.Vm
variable {X : Tk}
def htnC (a n : Nat) : Bool := (List.range n).all fun i => chkFn (execCall EN2 3000 71 (htnS.atL 9 (a + i)).args (htnS.atL 9 (a + i)).start) (htnS.atL 9 (a + i)) [(0, htnL (a + i))]
theorem htn_chk0 : htnC 1 10 = true := by kernel_rfl
theorem htn_chk1 : htnC 11 10 = true := by kernel_rfl
theorem htn_chk2 : htnC 21 10 = true := by kernel_rfl
theorem htn_chk3 : htnC 31 10 = true := by kernel_rfl
theorem htn_chk4 : htnC 41 10 = true := by kernel_rfl
theorem htn_chk5 : htnC 51 10 = true := by kernel_rfl
theorem htn_chk6 : htnC 61 10 = true := by kernel_rfl
theorem htn_chk7 : htnC 71 10 = true := by kernel_rfl
theorem htn_chk8 : htnC 81 10 = true := by kernel_rfl
theorem htn_chk9 : htnC 91 10 = true := by kernel_rfl
theorem htn_chk10 : htnC 101 10 = true := by kernel_rfl
theorem htn_chk11 : htnC 111 10 = true := by kernel_rfl
theorem htn_chk12 : htnC 121 10 = true := by kernel_rfl
theorem htn_chk13 : htnC 131 10 = true := by kernel_rfl
theorem htn_chk14 : htnC 141 10 = true := by kernel_rfl
theorem htn_chk15 : htnC 151 10 = true := by kernel_rfl
theorem htn_chk16 : htnC 161 10 = true := by kernel_rfl
theorem htn_chk17 : htnC 171 10 = true := by kernel_rfl
theorem htn_chk18 : htnC 181 10 = true := by kernel_rfl
theorem htn_chk19 : htnC 191 10 = true := by kernel_rfl
theorem htnC_spec {a n L : Nat} (h : htnC a n = true) (h1 : a <= L) (h2 : L < a + n) : chkFn (execCall EN2 3000 71 (htnS.atL 9 L).args (htnS.atL 9 L).start) (htnS.atL 9 L) [(0, htnL L)] = true := by
  have hc := List.all_eq_true.1 h (L - a) (List.mem_range.2 (by omega))
  rw [show a + (L - a) = L from by omega] at hc
  exact hc
theorem htn_chk {L : Nat} (h1 : 1 <= L) (h2 : L <= 200) : chkFn (execCall EN2 3000 71 (htnS.atL 9 L).args (htnS.atL 9 L).start) (htnS.atL 9 L) [(0, htnL L)] = true := by
  rcases (by omega : (1 <= L /\ L < 11) \/ (11 <= L /\ L < 21) \/ (21 <= L /\ L < 31) \/ (31 <= L /\ L < 41) \/ (41 <= L /\ L < 51) \/ (51 <= L /\ L < 61) \/ (61 <= L /\ L < 71) \/ (71 <= L /\ L < 81) \/ (81 <= L /\ L < 91) \/ (91 <= L /\ L < 101) \/ (101 <= L /\ L < 111) \/ (111 <= L /\ L < 121) \/ (121 <= L /\ L < 131) \/ (131 <= L /\ L < 141) \/ (141 <= L /\ L < 151) \/ (151 <= L /\ L < 161) \/ (161 <= L /\ L < 171) \/ (171 <= L /\ L < 181) \/ (181 <= L /\ L < 191) \/ (191 <= L /\ L < 201)) with h | h | h | h | h | h | h | h | h | h | h | h | h | h | h | h | h | h | h | h
  · exact htnC_spec htn_chk0 h.1 h.2
  · exact htnC_spec htn_chk1 h.1 h.2
  · exact htnC_spec htn_chk2 h.1 h.2
  · exact htnC_spec htn_chk3 h.1 h.2
  · exact htnC_spec htn_chk4 h.1 h.2
  · exact htnC_spec htn_chk5 h.1 h.2
  · exact htnC_spec htn_chk6 h.1 h.2
  · exact htnC_spec htn_chk7 h.1 h.2
  · exact htnC_spec htn_chk8 h.1 h.2
  · exact htnC_spec htn_chk9 h.1 h.2
  · exact htnC_spec htn_chk10 h.1 h.2
  · exact htnC_spec htn_chk11 h.1 h.2
  · exact htnC_spec htn_chk12 h.1 h.2
  · exact htnC_spec htn_chk13 h.1 h.2
  · exact htnC_spec htn_chk14 h.1 h.2
  · exact htnC_spec htn_chk15 h.1 h.2
  · exact htnC_spec htn_chk16 h.1 h.2
  · exact htnC_spec htn_chk17 h.1 h.2
  · exact htnC_spec htn_chk18 h.1 h.2
  · exact htnC_spec htn_chk19 h.1 h.2
theorem htn_ok {hs : List Int} (h : GS X hs) : SpecOK Tryz.prog X 71 (htnS.tighten [W4]).spec :=
  SpecOK.tight (bs := [W4]) (by
    refine long_fn (lo := 1) (hi := 200) (bh := 9) (EN2_ok h.toFR) (by kernel_rfl) rfl (fun l hl => by rw [h.long l hl]; exact h.hby) (fun L => [(0, htnL L)]) (fun L h1 h2 => htn_chk h1 h2) ?_
    intro l hl h1 h2 d hd o ho ρ hS hρ x hx
    simp only [List.mem_singleton] at hd
    subst hd
    have ho : htnS.outs[0]? = some o := ho
    simp only [htnS, List.getElem?_cons_zero, Option.some.injEq] at ho
    subst ho
    simp only [List.mem_singleton] at hx
    subst hx
    have hl' := h.long l hl
    subst hl'
    exact (h.htn _).2 (Eq.mp (by kernel_rfl) (htn_end h rfl hS hρ))) rfl fun i o w h1 h2 => by
    match i, h1, h2 with
    | 0, h1, h2 =>
      cases h1; cases h2
      refine tight_of rfl (fun x hx σ hp => ?_) (List.cons_ne_nil _ _)
      cases List.mem_singleton.1 hx
      exact Eq.mp (by kernel_rfl) ((h.htn _).1 hp).1
    | n + 1, h1, h2 => simp at h2
end Go.Proofs.YtmogojlijkddpaaGreat
end
