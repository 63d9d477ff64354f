/- For every input laws.FnP224Verify answers true, and each argument reads afterwards as it read before. Conditions: none. -/
import Derived.Test.YtmogojlijkddpaaGreatRows
import Derived.ProofKit
import Derived.Test.YtmogojlijkddpaaGreatT19
import Derived.Test.YtmogojlijkddpaaGreatT21
import Derived.Test.YtmogojlijkddpaaGreatT30
import Derived.Test.YtmogojlijkddpaaGreatT33
import Derived.Test.YtmogojlijkddpaaGreatT34
noncomputable section

set_option maxRecDepth 100000
namespace Go.Proofs.YtmogojlijkddpaaGreat
open Go.Vm
variable {X : Tk}
def specPV (f : FuncId) : Option (Fs) := match f with | 12 => some crvS.spec | 71 => some (htnS.tighten [W4]).spec | 72 => some (ninS.tighten [W4]).spec | 73 => some (nmuS.tighten [W4]).spec | 131 => some bxS.spec | 132 => some sbS.spec | 133 => some smS.spec | 134 => some spS.spec | f => specN2 f
theorem specPV_ok {hs : List Int} (h : GT X hs) : ∀ f sp, specPV f = some sp -> FnOK Tryz.prog f /\ SpecOK Tryz.prog X f sp := fun f sp hh => by
  unfold specPV at hh
  split at hh
  · simp only [Option.some.injEq] at hh; subst hh; exact ⟨fn_ok Tryz.func12 (by kernel_rfl) (by kernel_rfl), crv_ok⟩
  · simp only [Option.some.injEq] at hh; subst hh; exact ⟨fn_ok Tryz.func71 (by kernel_rfl) (by kernel_rfl), htn_ok h.toGS⟩
  · simp only [Option.some.injEq] at hh; subst hh; exact ⟨fn_ok Tryz.func72 (by kernel_rfl) (by kernel_rfl), nin_ok h.toFS⟩
  · simp only [Option.some.injEq] at hh; subst hh; exact ⟨fn_ok Tryz.func73 (by kernel_rfl) (by kernel_rfl), nmu_ok h.toFS⟩
  · simp only [Option.some.injEq] at hh; subst hh; exact ⟨fn_ok Tryz.func131 (by kernel_rfl) (by kernel_rfl), bx_ok h.toFN⟩
  · simp only [Option.some.injEq] at hh; subst hh; exact ⟨fn_ok Tryz.func132 (by kernel_rfl) (by kernel_rfl), sbm_ok h.toFQ⟩
  · simp only [Option.some.injEq] at hh; subst hh; exact ⟨fn_ok Tryz.func133 (by kernel_rfl) (by kernel_rfl), sm_ok h.toFL⟩
  · simp only [Option.some.injEq] at hh; subst hh; exact ⟨fn_ok Tryz.func134 (by kernel_rfl) (by kernel_rfl), sp_ok h.toFN⟩
  · exact specN2_ok h.toFR f sp hh
def EPV : Env := mkEnv Tryz.prog tyTree2 fnTree ext0 specPV
theorem EPV_ok {hs : List Int} (h : GT X hs) : EnvOK Tryz.prog X EPV := mkEnv_ok mixed_ok tys2_ok fns_ok names_ok ext0_ok (specPV_ok h)
theorem pv_chk : chkFn (execCall EPV 3000 6 pvS.args pvS.start) pvS pvDs = true := by kernel_rfl
theorem pv_ok {hs : List Int} (h : GT X hs) : SpecOK Tryz.prog X 6 pvS.spec := fn_sum (EPV_ok h) pv_chk (pv_ends h)
open Go.Vm Go.ChangeShapes Go.WideShapes Go.ChangeAt Go.RowKit
theorem own_knob : ownKnob Tryz.prog.godebug = none := by kernel_rfl
theorem laid_out : laidOutB Tryz.prog = true := by kernel_rfl
theorem cells_5 : Tryz.prog.cellsOf 5 = 1 := by kernel_rfl
theorem arg_any {H : Type} {enc : TypeId × Value -> H} {W : World} {base : Nat} {v : Value} {d : DataW H} {p : List MemPlace} (hval : Value.okWide Tryz.prog W .any base 22 v) (h : DataW.Trod enc Tryz.prog W 0 (fun _ => true) true 22 v d p) : ArgAny W v := by
  obtain ⟨a0, len, cap, rfl⟩ := okWide_slice Tryz.underlying22 hval
  obtain ⟨fuel, hf⟩ := h
  rcases open_ints Tryz.underlying22 Tryz.underlying5 cells_5 hf with ⟨hcs, _⟩ | ⟨a, len', cap', zs, hcs, _, hl, hm, hz, _, hcell, hwz⟩
  · simp [Value.cells] at hcs
    obtain ⟨rfl, rfl, rfl⟩ := hcs
    exact .inl rfl
  · simp [Value.cells] at hcs
    obtain ⟨rfl, rfl, rfl⟩ := hcs
    right
    simp only [if_true] at hz
    obtain ⟨blk, off, spot⟩ := a
    have hc : Cell.okWide Tryz.prog W .any base 22 (.slice (some ⟨blk, off, spot⟩) len cap) := by
      unfold Value.okWide at hval
      rw [Tryz.underlying22] at hval
      exact hval
    unfold Cell.okWide at hc
    rw [Tryz.underlying22] at hc
    have hc : Cell.ok Tryz.prog W .any base 22 (.slice (some ⟨blk, off, spot⟩) len cap) := hc
    unfold Cell.ok at hc
    rw [Tryz.underlying22] at hc
    obtain ⟨_, _, _, hspot, row, cells, hshape, _⟩ := hc
    have hspot : spot = none := hspot
    subst hspot
    unfold World.shape? at hshape
    split at hshape
    · rename_i arr elem fr hh
      have hh : W.heap[blk]? = some (.cells arr elem fr) := hh
      have hlen : (zs.take len).length = len := by rw [List.length_take]; omega
      have hbig : ((zs.take len).length : Int) <= bigL := by
        have hmax : maxLen <= 9223372036854775807 := by decide
        rw [hlen]
        unfold bigL
        omega
      refine ⟨zs.take len, ⟨blk, off, cap, arr, elem, fr, by rw [hlen], by omega, hh, fun i x hx => ?_⟩, hbig⟩
      have hi : i < len := by
        have := (List.getElem?_eq_some_iff.1 hx).1
        omega
      rw [List.getElem?_take, if_pos hi] at hx
      have hz' : zs.getD i 0 = x := by rw [List.getD_eq_getElem?_getD, hx]; rfl
      have hw := hwz x (List.mem_of_getElem? hx)
      have h2 := hcell i (by omega)
      rw [hz', add_off, heap_cell hh] at h2
      refine ⟨h2, ?_⟩
      simp only [Lit.wf, Bool.and_eq_true, decide_eq_true_eq] at hw
      exact hw
    · cases hshape
theorem below_of_same {W W' : World} (h : Same W W') : Below W.heap.size W W' := ⟨h.os, h.tape, h.out, h.size, h.heap⟩
theorem pv_all : ∀ hs : List Int, (∀ x ∈ hs, 0 <= x /\ x <= 255) -> SpecOK Tryz.prog (XL hs) 6 pvS.spec := fun _ h => pv_ok (XL_ok h).toGT
theorem law_lifted (os : Os) (started : os.Started) (H : Type) (enc : TypeId × Value -> H) :
    ReturnsInHanded {} Tryz.checked os 3 .any (Rows.fnP224VerifySpec.pre6 enc Tryz.prog Tryz.f3 Rows.fnP224VerifyRow.domain false) (Rows.fnP224VerifySpec.post enc Tryz.prog Tryz.f3 false true false false) := by
  refine returnsInHanded_of_change (C := Tryz.checked) own_knob started (by kernel_rfl) Tryz.func3
    (ChangeSpec.witness6 (enc := enc) (C := Tryz.checked) false ⟨#[], #[.slice none 0 0, .slice none 0 0, .slice none 0 0, .slice none 0 0], []⟩ 8 (by kernel_rfl) (by kernel_rfl) (by kernel_rfl) (by kernel_rfl)) ?_
  intro W base args ds gs before hval0 hW hcnd _
  have hval : ∀ (j : Nat) t v, Tryz.f3.params[j]? = some t -> args[j]? = some v -> Value.okWide Tryz.prog W .any base t v := hval0
  have hW' := hW
  obtain ⟨p, q, hA0, hV, rfl, hfz, hnd⟩ := hW
  have hA : DataW.TrodAll enc Tryz.prog W 0 (fun _ => true) true Tryz.f3.params.toList args.toList ds p := hA0
  rw [Tryz.params3] at hA hval
  obtain ⟨v0, v1, v2, v3, d0, d1, d2, d3, p0, p1, p2, p3, rfl, rfl, rfl, h0, h1, h2, h3⟩ := trodAll_four hA
  obtain ⟨rfl, rfl⟩ := trodVars_none hV
  simp only [List.append_nil] at hW'
  have hlt : ∀ x ∈ p0 ++ p1 ++ p2 ++ p3, x.block < W.heap.size := fun x hx => by simpa using hW'.lt x hx
  have run := law_call pv_all (W := W) (arg_any (hval 0 22 v0 rfl rfl) h0) (arg_any (hval 1 22 v1 rfl rfl) h1) (arg_any (hval 2 22 v2 rfl rfl) h2) (arg_any (hval 3 22 v3 rfl rfl) h3)
  refine Calls.mono run fun e W' hq => ?_
  obtain ⟨rfl, hs⟩ := hq
  have hb := below_of_same hs
  have ar : ∀ {v d ps}, DataW.Trod enc Tryz.prog W 0 (fun _ => true) true 22 v d ps -> (∀ x ∈ ps, x ∈ p0 ++ p1 ++ p2 ++ p3) -> DataW.Trod enc Tryz.prog W' 0 (fun b => decide (b < W.heap.size)) true 22 v d ps := fun h hm =>
    Below.trod laid_out (by kernel_rfl) (of_decide_eq_true (by kernel_rfl)) h hb fun x hx => hlt x (hm x hx)
  refine ⟨.bool true, rfl, [d0, d1, d2, d3], [], p0 ++ p1 ++ p2 ++ p3, [], p0 ++ (p1 ++ (p2 ++ p3)), [], hW', ?_, ?_, rfl, hb.frame _, fun h => by cases h⟩
  · exact trodAll_mk1 (shut_bool (by kernel_rfl) true)
  · exact trodAll_mk4 (ar h0 (by simp +contextual)) (ar h1 (by simp +contextual)) (ar h2 (by simp +contextual)) (ar h3 (by simp +contextual))
theorem fnP224Verify_holds : Rows.FnP224VerifySaid :=
  OpenClaim.holds_of_wide 3 Tryz.f3 rfl rfl rfl rfl rfl rfl rfl ⟨rfl, rfl, rfl, rfl, rfl⟩ rfl rfl rfl rfl rfl (by kernel_rfl) Tryz.func3 (by kernel_rfl)
    (of_decide_eq_true (by kernel_rfl)) (by unfold Func.isWrapper; first | (rw [if_pos (by decide +kernel)]; kernel_rfl) | (rw [if_neg (by decide +kernel)]; exact ⟨rfl, rfl⟩))
    (fun os started H enc _ => law_lifted os started H enc)
end Go.Proofs.YtmogojlijkddpaaGreat
end
