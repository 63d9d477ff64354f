/- The proof of laws.FnP224Verify, text 32 of 36. Conditions: none. -/
import Derived.Test.YtmogojlijkddpaaGreatT19
noncomputable section

set_option maxRecDepth 100000
namespace Go.Proofs.YtmogojlijkddpaaGreat
open Go.Vm
variable {X : Tk}
theorem bl_chk : chkFn (execCall E0 3000 97 blS.args blS.start) blS blDs = true := by kernel_rfl
theorem bl_ok : SpecOK Tryz.prog X 97 blS.spec := fn_sum E0_ok bl_chk bl_ends
def specN1 (f : FuncId) : Option (Fs) := match f with | 97 => some (unC blS.spec) | 94 => some (firstSp mmSs) | f => specJ' f
theorem specN1_ok (h : FP X) : ∀ f sp, specN1 f = some sp -> FnOK Tryz.prog f /\ SpecOK Tryz.prog X f sp := fun f sp hs => by
  unfold specN1 at hs
  split at hs
  · simp only [Option.some.injEq] at hs; subst hs; exact ⟨fn_ok Tryz.func97 (by kernel_rfl) (by kernel_rfl), bl_ok.unC⟩
  · simp only [Option.some.injEq] at hs; subst hs; exact ⟨fn_ok Tryz.func94 (by kernel_rfl) (by kernel_rfl), mm_ok h⟩
  · exact specJ'_ok h.toFO f sp hs
def EN1 : Env := mkEnv Tryz.prog tyTree2 fnTree ext0 specN1
theorem EN1_ok (h : FP X) : EnvOK Tryz.prog X EN1 := mkEnv_ok mixed_ok tys2_ok fns_ok names_ok ext0_ok (specN1_ok h)
theorem nsb_chk : chkFn (execCall EN1 3000 50 nsbS2.args nsbS2.start) nsbS2 [(1, nsbLk true), (0, nsbLk false)] = true := by kernel_rfl
theorem niz_chk : chkFn (execCall EN1 3000 70 nizS.args nizS.start) nizS [(0, nizLk)] = true := by kernel_rfl
theorem neq_chk : chkFn (execCall EN1 3000 75 neqS.args neqS.start) neqS [(0, neqLk)] = true := by kernel_rfl
theorem nby_chk : chkFn (execCall EN1 3000 53 nbyS.args nbyS.start) nbyS [(0, nbyLk)] = true := by kernel_rfl
theorem nso175_chk : chkFn (execCall EN1 3000 74 (nsoS 28 175).args (nsoS 28 175).start) (nsoS 28 175) [(0, nsoLk 28)] = true := by kernel_rfl
def nsoB (i : Nat) : Bool := chkFn (execCall EN1 3000 74 (nsoS (i + 1) 5).args (nsoS (i + 1) 5).start) (nsoS (i + 1) 5) [(0, nsoLk (i + 1))]
theorem nso_chk0 : nsoB 0 = true := by kernel_rfl
theorem nso_chk1 : nsoB 1 = true := by kernel_rfl
theorem nso_chk2 : nsoB 2 = true := by kernel_rfl
theorem nso_chk3 : nsoB 3 = true := by kernel_rfl
theorem nso_chk4 : nsoB 4 = true := by kernel_rfl
theorem nso_chk5 : nsoB 5 = true := by kernel_rfl
theorem nso_chk6 : nsoB 6 = true := by kernel_rfl
theorem nso_chk7 : nsoB 7 = true := by kernel_rfl
theorem nso_chk8 : nsoB 8 = true := by kernel_rfl
theorem nso_chk9 : nsoB 9 = true := by kernel_rfl
theorem nso_chk10 : nsoB 10 = true := by kernel_rfl
theorem nso_chk11 : nsoB 11 = true := by kernel_rfl
theorem nso_chk12 : nsoB 12 = true := by kernel_rfl
theorem nso_chk13 : nsoB 13 = true := by kernel_rfl
theorem nso_chk14 : nsoB 14 = true := by kernel_rfl
theorem nso_chk15 : nsoB 15 = true := by kernel_rfl
theorem nso_chk16 : nsoB 16 = true := by kernel_rfl
theorem nso_chk17 : nsoB 17 = true := by kernel_rfl
theorem nso_chk18 : nsoB 18 = true := by kernel_rfl
theorem nso_chk19 : nsoB 19 = true := by kernel_rfl
theorem nso_chk20 : nsoB 20 = true := by kernel_rfl
theorem nso_chk21 : nsoB 21 = true := by kernel_rfl
theorem nso_chk22 : nsoB 22 = true := by kernel_rfl
theorem nso_chk23 : nsoB 23 = true := by kernel_rfl
theorem nso_chk24 : nsoB 24 = true := by kernel_rfl
theorem nso_chk25 : nsoB 25 = true := by kernel_rfl
theorem nso_chk26 : nsoB 26 = true := by kernel_rfl
theorem nso_chk27 : nsoB 27 = true := by kernel_rfl
theorem nso_chk : ∀ i, i < 28 -> nsoB i = true
  | 0, _ => nso_chk0
  | 1, _ => nso_chk1
  | 2, _ => nso_chk2
  | 3, _ => nso_chk3
  | 4, _ => nso_chk4
  | 5, _ => nso_chk5
  | 6, _ => nso_chk6
  | 7, _ => nso_chk7
  | 8, _ => nso_chk8
  | 9, _ => nso_chk9
  | 10, _ => nso_chk10
  | 11, _ => nso_chk11
  | 12, _ => nso_chk12
  | 13, _ => nso_chk13
  | 14, _ => nso_chk14
  | 15, _ => nso_chk15
  | 16, _ => nso_chk16
  | 17, _ => nso_chk17
  | 18, _ => nso_chk18
  | 19, _ => nso_chk19
  | 20, _ => nso_chk20
  | 21, _ => nso_chk21
  | 22, _ => nso_chk22
  | 23, _ => nso_chk23
  | 24, _ => nso_chk24
  | 25, _ => nso_chk25
  | 26, _ => nso_chk26
  | 27, _ => nso_chk27
  | n + 28, h => absurd h (by omega)
theorem nsb_ok (h : FR X) : SpecOK Tryz.prog X 50 nsbS2.spec := fn_sum (EN1_ok h.toFP) nsb_chk fun d hd => by
  simp only [List.mem_cons, List.not_mem_nil, or_false] at hd
  rcases hd with rfl | rfl
  · exact nsb_end1 h
  · exact nsb_end0 h
theorem niz_ok (h : FR X) : SpecOK Tryz.prog X 70 nizS.spec := fn_sum (EN1_ok h.toFP) niz_chk (one_ds (niz_end h))
theorem neq_ok (h : FR X) : SpecOK Tryz.prog X 75 neqS.spec := fn_sum (EN1_ok h.toFP) neq_chk (one_ds (neq_end h))
theorem nby_ok (h : FR X) : SpecOK Tryz.prog X 53 nbyS.spec := fn_sum (EN1_ok h.toFP) nby_chk (one_ds (nby_end h))
theorem nso_tight (h : FR X) {m ty : Nat} (_ : m < 29) (ok : SpecOK Tryz.prog X 74 (nsoS m ty).spec) : SpecOK Tryz.prog X 74 ((nsoS m ty).tighten [W4]).spec :=
  ok.tight rfl fun i o w h1 h2 => by
    match i, h1, h2 with
    | 0, h1, h2 =>
      cases h1; cases h2
      refine tight_of rfl (fun x hx σ hp => ?_) (List.cons_ne_nil _ _)
      simp only [List.mem_singleton] at hx
      subst hx
      have nv : (nsoS m ty).nv = m := by simp [Sm.nv, nsoS]
      have t := ((h.sov _).1 hp).1
      have e : (vars 0 (m + 4)).map (IE.eval σ) = (List.range m).map σ ++ Q4 σ m := by
        rw [vars_eval, List.range_add, List.map_append, List.map_map]
        congr 1
        · exact List.map_congr_left fun x _ => by rw [Nat.zero_add]
        · show [_, _, _, _] = [_, _, _, _]
          simp [Function.comp]
      simp only at t
      rw [e] at t
      rw [nv]
      have e1 : ((List.range m).map σ ++ Q4 σ m).length - 4 = ((List.range m).map σ).length := by simp [Q4]
      rw [e1, List.drop_left] at t
      exact t
    | n + 1, h1, h2 => simp at h2
def nsoSs : List Sm := (nsoS 28 175).tighten [W4] :: (List.range 28).map fun i => (nsoS (i + 1) 5).tighten [W4]
theorem nso_ok (h : FR X) : SpecOK Tryz.prog X 74 (firstSp nsoSs) := SpecOK.first fun s hs => by
  rcases List.mem_cons.1 hs with rfl | hs
  · exact nso_tight h (by decide) (fn_sum (EN1_ok h.toFP) nso175_chk (one_ds (nso_end h (by decide))))
  · obtain ⟨i, hi, rfl⟩ := List.mem_map.1 hs
    have hi' := List.mem_range.1 hi
    have hc : nsoB i = true := nso_chk i hi'
    exact nso_tight h (by omega) (fn_sum (EN1_ok h.toFP) hc (one_ds (nso_end h (by omega))))
theorem nsbT_ok (h : FR X) : SpecOK Tryz.prog X 50 (nsbS2.tighten [W4, List.replicate 4 W64]).spec :=
  (nsb_ok h).tight rfl fun i o w h1 h2 => by
    match i, h1, h2 with
    | 0, h1, h2 =>
      cases h1; cases h2
      refine tight_of rfl (fun x hx σ hp => ?_) (List.cons_ne_nil _ _)
      cases List.mem_singleton.1 hx
      have t := (h.sby _).1 hp
      have t' : wordsOK (Q4 σ 28) /\ wv4 (Q4 σ 28) = bnR σ 28 /\ bnR σ 28 < n224 := Eq.mp (by kernel_rfl) t
      rw [show nsbS2.nv = 28 from rfl]
      refine ⟨t'.1, ?_, by rw [t'.2.1]; exact t'.2.2⟩
      have w0 := t'.1 0 (by omega)
      have w1 := t'.1 1 (by omega)
      have w2 := t'.1 2 (by omega)
      have w3 := t'.1 3 (by omega)
      exact (words4 w0 w1 w2 w3).1
    | 1, h1, h2 =>
      cases h1; cases h2
      refine ⟨rfl, fun σ hp i r hr => ?_⟩
      have t := (h.sbn _).1 (hp (91, vars 0 32) (List.mem_singleton.2 rfl))
      have t' : wordsOK (Q4 σ 28) /\ ¬ bnR σ 28 < n224 := Eq.mp (by kernel_rfl) t
      match i, hr with
      | 0, hr => cases hr; exact t'.1 0 (by omega)
      | 1, hr => cases hr; exact t'.1 1 (by omega)
      | 2, hr => cases hr; exact t'.1 2 (by omega)
      | 3, hr => cases hr; exact t'.1 3 (by omega)
      | n + 4, hr => simp at hr
    | n + 2, h1, h2 => simp at h2
end Go.Proofs.YtmogojlijkddpaaGreat
end
