/- The proof of laws.FnP224Verify, text 11 of 36. Conditions: none. -/
import Derived.Test.YtmogojlijkddpaaGreatT05
import Derived.Test.YtmogojlijkddpaaGreatT09
noncomputable section

set_option maxRecDepth 100000
namespace Go.Proofs.YtmogojlijkddpaaGreat
open Go.Vm
variable {X : Tk}
def multD0 : Look := ⟨[], [], [.ext 45 ([.const 1, .const 0, .const 0, .const 0, .const 0, .const 0, .const 0, .const 1, .const 0, .const 0, .const 0, .const 0, .const 0, .const 0, .const 0, .const 0, .const 0, .const 0, .const 0, .const 0, .const 0] ++ vars 0 14 ++ [.const 0] ++ vars 14 28 ++ [.const 1, .const 0, .const 0, .const 0, .const 0, .const 0, .const 0, .const 1, .const 0, .const 0, .const 0, .const 0, .const 0, .const 0, .const 0, .const 0, .const 0, .const 0, .const 0, .const 0, .const 0]),
    .ext 26 ([.const 0, .const 0, .const 0, .const 0, .const 0, .const 0, .const 0, .const 0, .const 0, .const 0, .const 0, .const 0, .const 0, .const 0, .var 42]),
    .test (.cmp .eql (.var 42) (.const 1)) true], []⟩
def multD1 : Look := ⟨vars 57 7 ++ vars 71 7, [], [.ext 45 ([.const 1, .const 0, .const 0, .const 0, .const 0, .const 0, .const 0, .const 1, .const 0, .const 0, .const 0, .const 0, .const 0, .const 0, .const 0, .const 0, .const 0, .const 0, .const 0, .const 0, .const 0] ++ vars 0 14 ++ [.const 0] ++ vars 14 28 ++ [.const 1, .const 0, .const 0, .const 0, .const 0, .const 0, .const 0, .const 1, .const 0, .const 0, .const 0, .const 0, .const 0, .const 0, .const 0, .const 0, .const 0, .const 0, .const 0, .const 0, .const 0]),
    .ext 26 ([.const 0, .const 0, .const 0, .const 0, .const 0, .const 0, .const 0, .const 0, .const 0, .const 0, .const 0, .const 0, .const 0, .const 0, .var 42]),
    .test (.cmp .eql (.var 42) (.const 1)) false,
    .ext 35 ([.const 0, .const 0, .const 0, .const 0, .const 0, .const 0, .const 0] ++ vars 43 7),
    .ext 25 (vars 43 7 ++ vars 43 14),
    .ext 25 ([.const 1, .const 0, .const 0, .const 0, .const 0, .const 0, .const 0] ++ vars 50 14),
    .ext 25 (vars 50 7 ++ vars 43 7 ++ vars 64 7),
    .ext 25 ([.const 1, .const 0, .const 0, .const 0, .const 0, .const 0, .const 0] ++ vars 64 14)], []⟩
def multD2 : Look := ⟨[], [], [.ext 45 ([.const 1, .const 0, .const 0, .const 0, .const 0, .const 0, .const 0, .const 1, .const 0, .const 0, .const 0, .const 0, .const 0, .const 0, .const 0, .const 0, .const 0, .const 0, .const 0, .const 0, .const 0] ++ vars 0 14 ++ [.const 0] ++ vars 14 28 ++ vars 0 14 ++ vars 42 7),
    .ext 26 (vars 42 7 ++ [.const 0, .const 0, .const 0, .const 0, .const 0, .const 0, .const 0, .var 49]),
    .test (.cmp .eql (.var 49) (.const 1)) true], []⟩
def multD3 : Look := ⟨vars 64 7 ++ vars 78 7, [], [.ext 45 ([.const 1, .const 0, .const 0, .const 0, .const 0, .const 0, .const 0, .const 1, .const 0, .const 0, .const 0, .const 0, .const 0, .const 0, .const 0, .const 0, .const 0, .const 0, .const 0, .const 0, .const 0] ++ vars 0 14 ++ [.const 0] ++ vars 14 28 ++ vars 0 14 ++ vars 42 7),
    .ext 26 (vars 42 7 ++ [.const 0, .const 0, .const 0, .const 0, .const 0, .const 0, .const 0, .var 49]),
    .test (.cmp .eql (.var 49) (.const 1)) false,
    .ext 35 (vars 42 7 ++ vars 50 7),
    .ext 25 (vars 50 7 ++ vars 50 14),
    .ext 25 (vars 0 7 ++ vars 57 14),
    .ext 25 (vars 57 7 ++ vars 50 7 ++ vars 71 7),
    .ext 25 (vars 7 7 ++ vars 71 14)], []⟩
def multD4 : Look := ⟨[], [], [.ext 45 ([.const 1, .const 0, .const 0, .const 0, .const 0, .const 0, .const 0, .const 1, .const 0, .const 0, .const 0, .const 0, .const 0, .const 0, .const 0, .const 0, .const 0, .const 0, .const 0, .const 0, .const 0] ++ vars 0 14 ++ [.const 0] ++ vars 14 49),
    .ext 26 (vars 56 7 ++ [.const 0, .const 0, .const 0, .const 0, .const 0, .const 0, .const 0, .var 63]),
    .test (.cmp .eql (.var 63) (.const 1)) true], []⟩
def multD5 : Look := ⟨vars 78 7 ++ vars 92 7, [], [.ext 45 ([.const 1, .const 0, .const 0, .const 0, .const 0, .const 0, .const 0, .const 1, .const 0, .const 0, .const 0, .const 0, .const 0, .const 0, .const 0, .const 0, .const 0, .const 0, .const 0, .const 0, .const 0] ++ vars 0 14 ++ [.const 0] ++ vars 14 49),
    .ext 26 (vars 56 7 ++ [.const 0, .const 0, .const 0, .const 0, .const 0, .const 0, .const 0, .var 63]),
    .test (.cmp .eql (.var 63) (.const 1)) false,
    .ext 35 (vars 56 7 ++ vars 64 7),
    .ext 25 (vars 64 7 ++ vars 64 14),
    .ext 25 (vars 42 7 ++ vars 71 14),
    .ext 25 (vars 71 7 ++ vars 64 7 ++ vars 85 7),
    .ext 25 (vars 49 7 ++ vars 85 14)], []⟩
def multDs : List (Nat × Look) := [(0, multD0), (1, multD1), (0, multD2), (1, multD3), (0, multD4), (1, multD5), (0, multD0), (1, multD1), (0, multD2), (1, multD3), (0, multD4), (1, multD5), (0, multD0), (1, multD1), (0, multD2), (1, multD3), (0, multD4), (1, multD5), (0, multD0), (1, multD1), (0, multD2), (1, multD3), (0, multD4), (1, multD5)]
theorem mult_nodup : nodupB ((blocksOf (bodyOf Tryz.f21)).map (·.1)) = true := by kernel_rfl
theorem mult_loop : loopAt (bodyOf Tryz.f21) 0 = some (loopIn Tryz.f21 0) := by kernel_rfl
theorem mult_chk : chkFn (execFn EO 3000 (blockB 0 (mulByte.asBlock 0).spec) Tryz.f21 multS.args multS.start) multS multDs = true := by kernel_rfl
theorem mult_end0 (h : FW X) : EndP X multS 0 multD0 := by
  refine endP_of _ 46 _ rfl rfl (fun ρ => W7 ρ 0 ++ W7 ρ 7 ++ W28 ρ 14 ++ [1] ++ [0, 0, 0, 0, 0, 0, 0] ++ [0, 0, 0, 0, 0, 0, 0]) (fun ρ => by kernel_rfl) fun ρ hs => (h.mult _).2 ?_
  have hZ : FZ X := h.toFZ
  have hX : FX X := hZ.toFY.toFX
  have t1 := same_of hX (a := [0, 0, 0, 0, 0, 0, 0]) (b := [0, 0, 0, 0, 0, 0, 0]) (c := [ρ 42]) rfl rfl rfl (tokAt hs 1 (by kernel_rfl))
  have o2 := oneAt hs 2 (d := 42) (b := true) rfl
  have t0 := bytes_of h (a := [1, 0, 0, 0, 0, 0, 0]) (b := [1, 0, 0, 0, 0, 0, 0]) (c := [0, 0, 0, 0, 0, 0, 0]) (p := (W7 ρ 0)) (q := (W7 ρ 7)) (d := [1, 0, 0, 0, 0, 0, 0]) (e := [1, 0, 0, 0, 0, 0, 0]) (f := [0, 0, 0, 0, 0, 0, 0]) (i := 0) (ks := (W28 ρ 14)) rfl rfl rfl rfl rfl rfl rfl rfl rfl (tokAt hs 0 (by kernel_rfl))
  have k0 : wv [0, 0, 0, 0, 0, 0, 0] 0 = 0 := by kernel_rfl
  have k1 : wv [1, 0, 0, 0, 0, 0, 0] 0 = 1 := by kernel_rfl
  rw [show (⟨wv [1, 0, 0, 0, 0, 0, 0] 0, wv [1, 0, 0, 0, 0, 0, 0] 0, wv [0, 0, 0, 0, 0, 0, 0] 0⟩ : Tri) = ⟨1, 1, 0⟩ from by rw [k1, k0]] at t0
  have z0 : wv [0, 0, 0, 0, 0, 0, 0] 0 = 0 := k0 ▸ t1.2.1 (o2.symm ▸ rfl)
  have e0 := t0.2.symm
  rw [show (0 : Int).toNat = 0 from rfl, List.drop_zero] at e0
  refine Eq.mp (by kernel_rfl : (wok [0, 0, 0, 0, 0, 0, 0] 0 /\ wok [0, 0, 0, 0, 0, 0, 0] 0 /\ ((1 : Int) = 0 \/ (1 : Int) = 1) /\ multF (wv (W7 ρ 0) 0) (wv (W7 ρ 7) 0) (W28 ρ 14) = if (1 : Int) = 1 then none else some (wv [0, 0, 0, 0, 0, 0, 0] 0, wv [0, 0, 0, 0, 0, 0, 0] 0)) = _) ?_
  refine ⟨by unfold wok wd nth nth; decide, by unfold wok wd nth nth; decide, Or.inr rfl, ?_⟩
  unfold multF
  simp only [e0]
  simp only [if_true]
theorem mult_end1 (h : FW X) : EndP X multS 1 multD1 := by
  refine endP_of _ 46 _ rfl rfl (fun ρ => W7 ρ 0 ++ W7 ρ 7 ++ W28 ρ 14 ++ [0] ++ (W7 ρ 57) ++ (W7 ρ 71)) (fun ρ => by kernel_rfl) fun ρ hs => (h.mult _).2 ?_
  have hZ : FZ X := h.toFZ
  have hX : FX X := hZ.toFY.toFX
  have t1 := same_of hX (a := [0, 0, 0, 0, 0, 0, 0]) (b := [0, 0, 0, 0, 0, 0, 0]) (c := [ρ 42]) rfl rfl rfl (tokAt hs 1 (by kernel_rfl))
  have o2 := oneAt hs 2 (d := 42) (b := false) rfl
  have t3 := inv_of hZ (a := [0, 0, 0, 0, 0, 0, 0]) (c := (W7 ρ 43)) rfl rfl (tokAt hs 3 (by kernel_rfl))
  have t4 := times_of hX (a := (W7 ρ 43)) (b := (W7 ρ 43)) (c := (W7 ρ 50)) rfl rfl rfl (tokAt hs 4 (by kernel_rfl))
  have t5 := times_of hX (a := [1, 0, 0, 0, 0, 0, 0]) (b := (W7 ρ 50)) (c := (W7 ρ 57)) rfl rfl rfl (tokAt hs 5 (by kernel_rfl))
  have t6 := times_of hX (a := (W7 ρ 50)) (b := (W7 ρ 43)) (c := (W7 ρ 64)) rfl rfl rfl (tokAt hs 6 (by kernel_rfl))
  have t7 := times_of hX (a := [1, 0, 0, 0, 0, 0, 0]) (b := (W7 ρ 64)) (c := (W7 ρ 71)) rfl rfl rfl (tokAt hs 7 (by kernel_rfl))
  have t0 := bytes_of h (a := [1, 0, 0, 0, 0, 0, 0]) (b := [1, 0, 0, 0, 0, 0, 0]) (c := [0, 0, 0, 0, 0, 0, 0]) (p := (W7 ρ 0)) (q := (W7 ρ 7)) (d := [1, 0, 0, 0, 0, 0, 0]) (e := [1, 0, 0, 0, 0, 0, 0]) (f := [0, 0, 0, 0, 0, 0, 0]) (i := 0) (ks := (W28 ρ 14)) rfl rfl rfl rfl rfl rfl rfl rfl rfl (tokAt hs 0 (by kernel_rfl))
  have k0 : wv [0, 0, 0, 0, 0, 0, 0] 0 = 0 := by kernel_rfl
  have k1 : wv [1, 0, 0, 0, 0, 0, 0] 0 = 1 := by kernel_rfl
  rw [show (⟨wv [1, 0, 0, 0, 0, 0, 0] 0, wv [1, 0, 0, 0, 0, 0, 0] 0, wv [0, 0, 0, 0, 0, 0, 0] 0⟩ : Tri) = ⟨1, 1, 0⟩ from by rw [k1, k0]] at t0
  have z0 : ¬ wv [0, 0, 0, 0, 0, 0, 0] 0 = 0 := fun hc => absurd (o2.mp (t1.2.2 (hc.trans k0.symm))) (by decide)
  have e0 := t0.2.symm
  rw [show (0 : Int).toNat = 0 from rfl, List.drop_zero] at e0
  refine Eq.mp (by kernel_rfl : (wok (W7 ρ 57) 0 /\ wok (W7 ρ 71) 0 /\ ((0 : Int) = 0 \/ (0 : Int) = 1) /\ multF (wv (W7 ρ 0) 0) (wv (W7 ρ 7) 0) (W28 ρ 14) = if (0 : Int) = 1 then none else some (wv (W7 ρ 57) 0, wv (W7 ρ 71) 0)) = _) ?_
  exact absurd k0 z0
theorem mult_end2 (h : FW X) : EndP X multS 0 multD2 := by
  refine endP_of _ 46 _ rfl rfl (fun ρ => W7 ρ 0 ++ W7 ρ 7 ++ W28 ρ 14 ++ [1] ++ [0, 0, 0, 0, 0, 0, 0] ++ [0, 0, 0, 0, 0, 0, 0]) (fun ρ => by kernel_rfl) fun ρ hs => (h.mult _).2 ?_
  have hZ : FZ X := h.toFZ
  have hX : FX X := hZ.toFY.toFX
  have t1 := same_of hX (a := (W7 ρ 42)) (b := [0, 0, 0, 0, 0, 0, 0]) (c := [ρ 49]) rfl rfl rfl (tokAt hs 1 (by kernel_rfl))
  have o2 := oneAt hs 2 (d := 49) (b := true) rfl
  have t0 := bytes_of h (a := [1, 0, 0, 0, 0, 0, 0]) (b := [1, 0, 0, 0, 0, 0, 0]) (c := [0, 0, 0, 0, 0, 0, 0]) (p := (W7 ρ 0)) (q := (W7 ρ 7)) (d := (W7 ρ 0)) (e := (W7 ρ 7)) (f := (W7 ρ 42)) (i := 0) (ks := (W28 ρ 14)) rfl rfl rfl rfl rfl rfl rfl rfl rfl (tokAt hs 0 (by kernel_rfl))
  have k0 : wv [0, 0, 0, 0, 0, 0, 0] 0 = 0 := by kernel_rfl
  have k1 : wv [1, 0, 0, 0, 0, 0, 0] 0 = 1 := by kernel_rfl
  rw [show (⟨wv [1, 0, 0, 0, 0, 0, 0] 0, wv [1, 0, 0, 0, 0, 0, 0] 0, wv [0, 0, 0, 0, 0, 0, 0] 0⟩ : Tri) = ⟨1, 1, 0⟩ from by rw [k1, k0]] at t0
  have z0 : wv (W7 ρ 42) 0 = 0 := k0 ▸ t1.2.1 (o2.symm ▸ rfl)
  have e0 := t0.2.symm
  rw [show (0 : Int).toNat = 0 from rfl, List.drop_zero] at e0
  refine Eq.mp (by kernel_rfl : (wok [0, 0, 0, 0, 0, 0, 0] 0 /\ wok [0, 0, 0, 0, 0, 0, 0] 0 /\ ((1 : Int) = 0 \/ (1 : Int) = 1) /\ multF (wv (W7 ρ 0) 0) (wv (W7 ρ 7) 0) (W28 ρ 14) = if (1 : Int) = 1 then none else some (wv [0, 0, 0, 0, 0, 0, 0] 0, wv [0, 0, 0, 0, 0, 0, 0] 0)) = _) ?_
  refine ⟨by unfold wok wd nth nth; decide, by unfold wok wd nth nth; decide, Or.inr rfl, ?_⟩
  unfold multF
  simp only [e0]
  exact if_pos z0
theorem mult_end3 (h : FW X) : EndP X multS 1 multD3 := by
  refine endP_of _ 46 _ rfl rfl (fun ρ => W7 ρ 0 ++ W7 ρ 7 ++ W28 ρ 14 ++ [0] ++ (W7 ρ 64) ++ (W7 ρ 78)) (fun ρ => by kernel_rfl) fun ρ hs => (h.mult _).2 ?_
  have hZ : FZ X := h.toFZ
  have hX : FX X := hZ.toFY.toFX
  have t1 := same_of hX (a := (W7 ρ 42)) (b := [0, 0, 0, 0, 0, 0, 0]) (c := [ρ 49]) rfl rfl rfl (tokAt hs 1 (by kernel_rfl))
  have o2 := oneAt hs 2 (d := 49) (b := false) rfl
  have t3 := inv_of hZ (a := (W7 ρ 42)) (c := (W7 ρ 50)) rfl rfl (tokAt hs 3 (by kernel_rfl))
  have t4 := times_of hX (a := (W7 ρ 50)) (b := (W7 ρ 50)) (c := (W7 ρ 57)) rfl rfl rfl (tokAt hs 4 (by kernel_rfl))
  have t5 := times_of hX (a := (W7 ρ 0)) (b := (W7 ρ 57)) (c := (W7 ρ 64)) rfl rfl rfl (tokAt hs 5 (by kernel_rfl))
  have t6 := times_of hX (a := (W7 ρ 57)) (b := (W7 ρ 50)) (c := (W7 ρ 71)) rfl rfl rfl (tokAt hs 6 (by kernel_rfl))
  have t7 := times_of hX (a := (W7 ρ 7)) (b := (W7 ρ 71)) (c := (W7 ρ 78)) rfl rfl rfl (tokAt hs 7 (by kernel_rfl))
  have t0 := bytes_of h (a := [1, 0, 0, 0, 0, 0, 0]) (b := [1, 0, 0, 0, 0, 0, 0]) (c := [0, 0, 0, 0, 0, 0, 0]) (p := (W7 ρ 0)) (q := (W7 ρ 7)) (d := (W7 ρ 0)) (e := (W7 ρ 7)) (f := (W7 ρ 42)) (i := 0) (ks := (W28 ρ 14)) rfl rfl rfl rfl rfl rfl rfl rfl rfl (tokAt hs 0 (by kernel_rfl))
  have k0 : wv [0, 0, 0, 0, 0, 0, 0] 0 = 0 := by kernel_rfl
  have k1 : wv [1, 0, 0, 0, 0, 0, 0] 0 = 1 := by kernel_rfl
  rw [show (⟨wv [1, 0, 0, 0, 0, 0, 0] 0, wv [1, 0, 0, 0, 0, 0, 0] 0, wv [0, 0, 0, 0, 0, 0, 0] 0⟩ : Tri) = ⟨1, 1, 0⟩ from by rw [k1, k0]] at t0
  have z0 : ¬ wv (W7 ρ 42) 0 = 0 := fun hc => absurd (o2.mp (t1.2.2 (hc.trans k0.symm))) (by decide)
  have e0 := t0.2.symm
  rw [show (0 : Int).toNat = 0 from rfl, List.drop_zero] at e0
  refine Eq.mp (by kernel_rfl : (wok (W7 ρ 64) 0 /\ wok (W7 ρ 78) 0 /\ ((0 : Int) = 0 \/ (0 : Int) = 1) /\ multF (wv (W7 ρ 0) 0) (wv (W7 ρ 7) 0) (W28 ρ 14) = if (0 : Int) = 1 then none else some (wv (W7 ρ 64) 0, wv (W7 ρ 78) 0)) = _) ?_
  refine ⟨t5.1, t7.1, Or.inl rfl, ?_⟩
  unfold multF
  simp only [e0]
  rw [if_neg z0, if_neg (by decide)]
  simp only [t3.2, t4.2, t5.2, t6.2, t7.2]
theorem mult_end4 (h : FW X) : EndP X multS 0 multD4 := by
  refine endP_of _ 46 _ rfl rfl (fun ρ => W7 ρ 0 ++ W7 ρ 7 ++ W28 ρ 14 ++ [1] ++ [0, 0, 0, 0, 0, 0, 0] ++ [0, 0, 0, 0, 0, 0, 0]) (fun ρ => by kernel_rfl) fun ρ hs => (h.mult _).2 ?_
  have hZ : FZ X := h.toFZ
  have hX : FX X := hZ.toFY.toFX
  have t1 := same_of hX (a := (W7 ρ 56)) (b := [0, 0, 0, 0, 0, 0, 0]) (c := [ρ 63]) rfl rfl rfl (tokAt hs 1 (by kernel_rfl))
  have o2 := oneAt hs 2 (d := 63) (b := true) rfl
  have t0 := bytes_of h (a := [1, 0, 0, 0, 0, 0, 0]) (b := [1, 0, 0, 0, 0, 0, 0]) (c := [0, 0, 0, 0, 0, 0, 0]) (p := (W7 ρ 0)) (q := (W7 ρ 7)) (d := (W7 ρ 42)) (e := (W7 ρ 49)) (f := (W7 ρ 56)) (i := 0) (ks := (W28 ρ 14)) rfl rfl rfl rfl rfl rfl rfl rfl rfl (tokAt hs 0 (by kernel_rfl))
  have k0 : wv [0, 0, 0, 0, 0, 0, 0] 0 = 0 := by kernel_rfl
  have k1 : wv [1, 0, 0, 0, 0, 0, 0] 0 = 1 := by kernel_rfl
  rw [show (⟨wv [1, 0, 0, 0, 0, 0, 0] 0, wv [1, 0, 0, 0, 0, 0, 0] 0, wv [0, 0, 0, 0, 0, 0, 0] 0⟩ : Tri) = ⟨1, 1, 0⟩ from by rw [k1, k0]] at t0
  have z0 : wv (W7 ρ 56) 0 = 0 := k0 ▸ t1.2.1 (o2.symm ▸ rfl)
  have e0 := t0.2.symm
  rw [show (0 : Int).toNat = 0 from rfl, List.drop_zero] at e0
  refine Eq.mp (by kernel_rfl : (wok [0, 0, 0, 0, 0, 0, 0] 0 /\ wok [0, 0, 0, 0, 0, 0, 0] 0 /\ ((1 : Int) = 0 \/ (1 : Int) = 1) /\ multF (wv (W7 ρ 0) 0) (wv (W7 ρ 7) 0) (W28 ρ 14) = if (1 : Int) = 1 then none else some (wv [0, 0, 0, 0, 0, 0, 0] 0, wv [0, 0, 0, 0, 0, 0, 0] 0)) = _) ?_
  refine ⟨by unfold wok wd nth nth; decide, by unfold wok wd nth nth; decide, Or.inr rfl, ?_⟩
  unfold multF
  simp only [e0]
  exact if_pos z0
theorem mult_end5 (h : FW X) : EndP X multS 1 multD5 := by
  refine endP_of _ 46 _ rfl rfl (fun ρ => W7 ρ 0 ++ W7 ρ 7 ++ W28 ρ 14 ++ [0] ++ (W7 ρ 78) ++ (W7 ρ 92)) (fun ρ => by kernel_rfl) fun ρ hs => (h.mult _).2 ?_
  have hZ : FZ X := h.toFZ
  have hX : FX X := hZ.toFY.toFX
  have t1 := same_of hX (a := (W7 ρ 56)) (b := [0, 0, 0, 0, 0, 0, 0]) (c := [ρ 63]) rfl rfl rfl (tokAt hs 1 (by kernel_rfl))
  have o2 := oneAt hs 2 (d := 63) (b := false) rfl
  have t3 := inv_of hZ (a := (W7 ρ 56)) (c := (W7 ρ 64)) rfl rfl (tokAt hs 3 (by kernel_rfl))
  have t4 := times_of hX (a := (W7 ρ 64)) (b := (W7 ρ 64)) (c := (W7 ρ 71)) rfl rfl rfl (tokAt hs 4 (by kernel_rfl))
  have t5 := times_of hX (a := (W7 ρ 42)) (b := (W7 ρ 71)) (c := (W7 ρ 78)) rfl rfl rfl (tokAt hs 5 (by kernel_rfl))
  have t6 := times_of hX (a := (W7 ρ 71)) (b := (W7 ρ 64)) (c := (W7 ρ 85)) rfl rfl rfl (tokAt hs 6 (by kernel_rfl))
  have t7 := times_of hX (a := (W7 ρ 49)) (b := (W7 ρ 85)) (c := (W7 ρ 92)) rfl rfl rfl (tokAt hs 7 (by kernel_rfl))
  have t0 := bytes_of h (a := [1, 0, 0, 0, 0, 0, 0]) (b := [1, 0, 0, 0, 0, 0, 0]) (c := [0, 0, 0, 0, 0, 0, 0]) (p := (W7 ρ 0)) (q := (W7 ρ 7)) (d := (W7 ρ 42)) (e := (W7 ρ 49)) (f := (W7 ρ 56)) (i := 0) (ks := (W28 ρ 14)) rfl rfl rfl rfl rfl rfl rfl rfl rfl (tokAt hs 0 (by kernel_rfl))
  have k0 : wv [0, 0, 0, 0, 0, 0, 0] 0 = 0 := by kernel_rfl
  have k1 : wv [1, 0, 0, 0, 0, 0, 0] 0 = 1 := by kernel_rfl
  rw [show (⟨wv [1, 0, 0, 0, 0, 0, 0] 0, wv [1, 0, 0, 0, 0, 0, 0] 0, wv [0, 0, 0, 0, 0, 0, 0] 0⟩ : Tri) = ⟨1, 1, 0⟩ from by rw [k1, k0]] at t0
  have z0 : ¬ wv (W7 ρ 56) 0 = 0 := fun hc => absurd (o2.mp (t1.2.2 (hc.trans k0.symm))) (by decide)
  have e0 := t0.2.symm
  rw [show (0 : Int).toNat = 0 from rfl, List.drop_zero] at e0
  refine Eq.mp (by kernel_rfl : (wok (W7 ρ 78) 0 /\ wok (W7 ρ 92) 0 /\ ((0 : Int) = 0 \/ (0 : Int) = 1) /\ multF (wv (W7 ρ 0) 0) (wv (W7 ρ 7) 0) (W28 ρ 14) = if (0 : Int) = 1 then none else some (wv (W7 ρ 78) 0, wv (W7 ρ 92) 0)) = _) ?_
  refine ⟨t5.1, t7.1, Or.inl rfl, ?_⟩
  unfold multF
  simp only [e0]
  rw [if_neg z0, if_neg (by decide)]
  simp only [t3.2, t4.2, t5.2, t6.2, t7.2]
theorem mult_ok (h : FW X) : SpecOK Tryz.prog X 21 multS.spec := by
  refine fn_sumB (EO_ok h) Tryz.func21 (by kernel_rfl) (block_bok mult_nodup mult_loop (mulByte_ok h) rfl) mult_chk fun d hd => ?_
  simp only [multDs, List.mem_cons, List.not_mem_nil, or_false] at hd
  rcases hd with rfl | rfl | rfl | rfl | rfl | rfl | rfl | rfl | rfl | rfl | rfl | rfl | rfl | rfl | rfl | rfl | rfl | rfl | rfl | rfl | rfl | rfl | rfl | rfl
  · exact mult_end0 h
  · exact mult_end1 h
  · exact mult_end2 h
  · exact mult_end3 h
  · exact mult_end4 h
  · exact mult_end5 h
  · exact mult_end0 h
  · exact mult_end1 h
  · exact mult_end2 h
  · exact mult_end3 h
  · exact mult_end4 h
  · exact mult_end5 h
  · exact mult_end0 h
  · exact mult_end1 h
  · exact mult_end2 h
  · exact mult_end3 h
  · exact mult_end4 h
  · exact mult_end5 h
  · exact mult_end0 h
  · exact mult_end1 h
  · exact mult_end2 h
  · exact mult_end3 h
  · exact mult_end4 h
  · exact mult_end5 h
def specP (f : FuncId) : Option (Fs) := match f with | 21 => some multS.spec | f => specO f
theorem specP_ok (h : FW X) : ∀ f sp, specP f = some sp -> FnOK Tryz.prog f /\ SpecOK Tryz.prog X f sp := fun f sp hs => by
  unfold specP at hs
  split at hs
  · simp only [Option.some.injEq] at hs; subst hs
    exact ⟨fn_ok Tryz.func21 (by kernel_rfl) (by kernel_rfl), mult_ok h⟩
  · exact specO_ok h _ _ hs
def EP : Env := mkEnv Tryz.prog tyTree fnTree ext0 specP
theorem EP_ok (h : FW X) : EnvOK Tryz.prog X EP := mkEnv_ok mixed_ok tys_ok fns_ok names_ok ext0_ok (specP_ok h)
end Go.Proofs.YtmogojlijkddpaaGreat
namespace Go.Vm
def bn (l : List Int) : Int := l.foldl (fun a b => a * 256 + b) 0
def byteOK (x : Int) : Prop := 0 <= x /\ x <= 255
def sumF (px py qx qy : Int) : Option (Int × Int) :=
  let fin := fun s : Int => let x := fM (fM (fT s s) px) qx; some (x, fM (fT s (fM px x)) py)
  if px = qx then (if ¬ py = qy \/ py = 0 then none else fin (fT (fM (fT 3 (fT px px)) 3) (fI (fP py py)))) else fin (fT (fM qy py) (fI (fM qx px)))
def SumP (l : List Int) : Prop := wok l 29 /\ wok l 36 /\ (nth l 28 = 0 \/ nth l 28 = 1) /\ sumF (wv l 0) (wv l 7) (wv l 14) (wv l 21) = if nth l 28 = 1 then none else some (wv l 29, wv l 36)
def BytsP (l : List Int) : Prop := (∀ x ∈ (l.drop 7).take 28, byteOK x) /\ bn ((l.drop 7).take 28) = wv l 0
def NumP (l : List Int) : Prop := wok l 28 /\ wv l 28 = bn (l.take 28)
def OrdRestP (l : List Int) : Prop := wok l 7 /\ wv l 7 = wv l 0 % n224
def InOrderP (l : List Int) : Prop := (nth l 28 = 0 \/ nth l 28 = 1) /\ (nth l 28 = 1 ↔ bn (l.take 28) ≠ 0 /\ bn (l.take 28) < n224)
structure FV (X : Tk) : Prop extends FW X where
  sum : ∀ l, X 47 l ↔ SumP l
  byts : ∀ l, X 48 l ↔ BytsP l
  num : ∀ l, X 49 l ↔ NumP l
  ordRest : ∀ l, X 50 l ↔ OrdRestP l
  inOrder : ∀ l, X 51 l ↔ InOrderP l
section
variable {X : Tk} {L : Look} {ρ : Nat -> Int}
theorem oneNot (hs : Seen X L ρ) (i : Nat) {d : Nat} {b : Bool} (h : L.ks[i]? = some (.test (.not (.cmp .eql (.var d) (.const 1))) b)) : (ρ d = 1) = (b = false) := by
  have := testAt hs i h
  rw [<- this]
  simp [BE.eval, intCmp, IE.eval]
theorem mult_of (h : FW X) {a b ks c d : List Int} {f : Int} (ha : a.length = 7) (hb : b.length = 7) (hk : ks.length = 28) (hc : c.length = 7) (hd : d.length = 7) (t : X 46 (a ++ b ++ ks ++ [f] ++ c ++ d)) :
    wok c 0 /\ wok d 0 /\ (f = 0 \/ f = 1) /\ multF (wv a 0) (wv b 0) ks = if f = 1 then none else some (wv c 0, wv d 0) := by
  obtain ⟨ρ, rfl⟩ := of7 ha
  obtain ⟨σ, rfl⟩ := of7 hb
  obtain ⟨κ, rfl⟩ := of28 hk
  obtain ⟨τ, rfl⟩ := of7 hc
  obtain ⟨τ', rfl⟩ := of7 hd
  exact Eq.mp (by kernel_rfl) ((h.mult _).1 t)
theorem sum_of (h : FV X) {a b p q c d : List Int} {f : Int} (ha : a.length = 7) (hb : b.length = 7) (hp : p.length = 7) (hq : q.length = 7) (hc : c.length = 7) (hd : d.length = 7) (t : X 47 (a ++ b ++ p ++ q ++ [f] ++ c ++ d)) :
    wok c 0 /\ wok d 0 /\ (f = 0 \/ f = 1) /\ sumF (wv a 0) (wv b 0) (wv p 0) (wv q 0) = if f = 1 then none else some (wv c 0, wv d 0) := by
  obtain ⟨ρ, rfl⟩ := of7 ha
  obtain ⟨σ, rfl⟩ := of7 hb
  obtain ⟨ρ', rfl⟩ := of7 hp
  obtain ⟨σ', rfl⟩ := of7 hq
  obtain ⟨τ, rfl⟩ := of7 hc
  obtain ⟨τ', rfl⟩ := of7 hd
  exact Eq.mp (by kernel_rfl) ((h.sum _).1 t)
theorem byts_of (h : FV X) {a ks : List Int} (ha : a.length = 7) (hk : ks.length = 28) (t : X 48 (a ++ ks)) : (∀ x ∈ ks, byteOK x) /\ bn ks = wv a 0 := by
  obtain ⟨ρ, rfl⟩ := of7 ha
  obtain ⟨κ, rfl⟩ := of28 hk
  exact Eq.mp (by kernel_rfl) ((h.byts _).1 t)
theorem num_of (h : FV X) {a ks : List Int} (hk : ks.length = 28) (ha : a.length = 7) (t : X 49 (ks ++ a)) : wok a 0 /\ wv a 0 = bn ks := by
  obtain ⟨ρ, rfl⟩ := of7 ha
  obtain ⟨κ, rfl⟩ := of28 hk
  exact Eq.mp (by kernel_rfl) ((h.num _).1 t)
theorem ordRest_of (h : FV X) {a c : List Int} (ha : a.length = 7) (hc : c.length = 7) (t : X 50 (a ++ c)) : wok c 0 /\ wv c 0 = wv a 0 % n224 := by
  obtain ⟨ρ, rfl⟩ := of7 ha
  obtain ⟨τ, rfl⟩ := of7 hc
  exact Eq.mp (by kernel_rfl) ((h.ordRest _).1 t)
theorem inOrder_of (h : FV X) {ks c : List Int} {x : Int} (hk : ks.length = 28) (hc : c = [x]) (t : X 51 (ks ++ c)) : (x = 0 \/ x = 1) /\ (x = 1 ↔ bn ks ≠ 0 /\ bn ks < n224) := by
  obtain ⟨κ, rfl⟩ := of28 hk
  subst hc
  exact Eq.mp (by kernel_rfl) ((h.inOrder _).1 t)
theorem wrap8 (x : Int) : IntKind.u8.wrap x = x % 256 := by
  simp only [IntKind.wrap, IntKind.signed, IntKind.bits]
  simp
theorem shr8 (x : Int) : intBin .shr .i64 x 8 = x / 256 := by simp only [intBin, fdiv_pow]; rfl
theorem shr16 (x : Int) : intBin .shr .i64 x 16 = x / 65536 := by simp only [intBin, fdiv_pow]; rfl
theorem shr24 (x : Int) : intBin .shr .i64 x 24 = x / 16777216 := by simp only [intBin, fdiv_pow]; rfl
theorem shr0 (x : Int) : intBin .shr .i64 x 0 = x := by
  simp only [intBin, fdiv_pow]
  show x / 1 = x
  exact Int.ediv_one x
theorem byte4 {w a b c d : Int} (hw : wd w) (ha : a = intBin .shr .i64 w 24) (hb : b = IntKind.u8.wrap (intBin .shr .i64 w 16)) (hc : c = IntKind.u8.wrap (intBin .shr .i64 w 8)) (hd : d = IntKind.u8.wrap (intBin .shr .i64 w 0)) :
    byteOK a /\ byteOK b /\ byteOK c /\ byteOK d /\ w = ((a * 256 + b) * 256 + c) * 256 + d := by
  rw [shr24] at ha
  rw [shr16, wrap8] at hb
  rw [shr8, wrap8] at hc
  rw [shr0, wrap8] at hd
  unfold wd at hw
  unfold byteOK
  omega
end
def sumS : Sm := { bd := List.replicate 28 W32, args := [curveV 0, .agg [.bool false, .view 1 0 7, .view 2 0 7], .agg [.bool false, .view 3 0 7, .view 4 0 7]], mem := [foldsB, elB 0, elB 7, elB 14, elB 21], al := [1, 2, 3, 4], outs := [{ nbd := [], val := .agg [.bool true, .nils, .nils], writes := [], news := [], post := [(47, vars 0 28 ++ [.const 1] ++ List.replicate 14 (.const 0))] }, { nbd := List.replicate 14 W32, val := .agg [.bool false, .view 5 0 7, .view 6 0 7], writes := [], news := [elB 28, elB 35], post := [(47, vars 0 28 ++ [.const 0] ++ vars 28 14)] }] }
def bytesS : Sm := { bd := List.replicate 7 W32, args := [curveV 0, .view 1 0 7], mem := [foldsB, elB 0], al := [1], outs := [{ nbd := List.replicate 28 (0, 255), val := .slice 2 0 28 28, writes := [], news := [⟨5, bytesV 7 28, true⟩], post := [(48, vars 0 35)] }] }
def numS : Sm := { bd := List.replicate 28 (0, 255), args := [curveV 0, .view 1 0 28], mem := [foldsB, byB 0], al := [1], outs := [{ nbd := List.replicate 7 W32, val := .slice 2 0 7 7, writes := [], news := [⟨2, wordsV 28 7, true⟩], post := [(49, vars 0 35)] }] }
def ordRestS : Sm := { bd := List.replicate 7 W32, args := [curveV 0, .view 1 0 7], mem := [foldsB, elB 0], al := [1], outs := [{ nbd := [], val := .view 1 0 7, writes := [], news := [], post := [(50, vars 0 7 ++ vars 0 7)] }, { nbd := List.replicate 7 W32, val := .view 2 0 7, writes := [], news := [elB 7], post := [(50, vars 0 14)] }] }
def inOrderS : Sm := { bd := List.replicate 28 (0, 255), args := [curveV 0, .view 1 0 28], mem := [foldsB, byB 0], al := [1], outs := [{ nbd := [(0, 1)], val := .bexp (.cmp .eql (.var 28) (.const 1)), writes := [], news := [], post := [(51, vars 0 29)] }] }
def genPS : Sm := { bd := [], args := [curveV 0], mem := [foldsB], al := [], outs := [{ nbd := [], val := .agg [.bool false, .slice 1 0 7 7, .slice 2 0 7 7], writes := [], news := [⟨2, [.int .i64 (.const 291249441), .int .i64 (.const 875725014), .int .i64 (.const 1455558946), .int .i64 (.const 1241760211), .int .i64 (.const 840143033), .int .i64 (.const 1807007615), .int .i64 (.const 3071151293)], true⟩, ⟨2, [.int .i64 (.const 2231402036), .int .i64 (.const 1154843033), .int .i64 (.const 1510426468), .int .i64 (.const 3443750304), .int .i64 (.const 1277353958), .int .i64 (.const 3052872699), .int .i64 (.const 3174523784)], true⟩], post := [] }] }
end Go.Vm
namespace Go.Proofs.YtmogojlijkddpaaGreat
open Go.Vm
variable {X : Tk}
def sumDs : List (Nat × Look) := [(1, ⟨vars 71 7 ++ vars 92 7, [], [.ext 26 (vars 0 7 ++ vars 14 7 ++ [.var 28]),
    .test (.not (.cmp .eql (.var 28) (.const 1))) true,
    .ext 24 (vars 21 7 ++ vars 7 7 ++ vars 29 7),
    .ext 24 (vars 14 7 ++ vars 0 7 ++ vars 36 7),
    .ext 35 (vars 36 14),
    .ext 25 (vars 29 7 ++ vars 43 14),
    .ext 25 (vars 50 7 ++ vars 50 14),
    .ext 24 (vars 57 7 ++ vars 0 7 ++ vars 64 7),
    .ext 24 (vars 64 7 ++ vars 14 7 ++ vars 71 7),
    .ext 24 (vars 0 7 ++ vars 71 14),
    .ext 25 (vars 50 7 ++ vars 78 14),
    .ext 24 (vars 85 7 ++ vars 7 7 ++ vars 92 7)], []⟩),
  (0, ⟨[], [], [.ext 26 (vars 0 7 ++ vars 14 7 ++ [.var 28]),
    .test (.not (.cmp .eql (.var 28) (.const 1))) false,
    .ext 26 (vars 7 7 ++ vars 21 7 ++ [.var 29]),
    .test (.not (.cmp .eql (.var 29) (.const 1))) false,
    .ext 26 (vars 7 7 ++ [.const 0, .const 0, .const 0, .const 0, .const 0, .const 0, .const 0, .var 30]),
    .test (.cmp .eql (.var 30) (.const 1)) true], []⟩),
  (1, ⟨vars 87 7 ++ vars 108 7, [], [.ext 26 (vars 0 7 ++ vars 14 7 ++ [.var 28]),
    .test (.not (.cmp .eql (.var 28) (.const 1))) false,
    .ext 26 (vars 7 7 ++ vars 21 7 ++ [.var 29]),
    .test (.not (.cmp .eql (.var 29) (.const 1))) false,
    .ext 26 (vars 7 7 ++ [.const 0, .const 0, .const 0, .const 0, .const 0, .const 0, .const 0, .var 30]),
    .test (.cmp .eql (.var 30) (.const 1)) false,
    .ext 25 (vars 0 7 ++ vars 0 7 ++ vars 31 7),
    .ext 25 ([.const 3, .const 0, .const 0, .const 0, .const 0, .const 0, .const 0] ++ vars 31 14),
    .ext 24 (vars 38 7 ++ [.const 3, .const 0, .const 0, .const 0, .const 0, .const 0, .const 0] ++ vars 45 7),
    .ext 23 (vars 7 7 ++ vars 7 7 ++ vars 52 7),
    .ext 35 (vars 52 14),
    .ext 25 (vars 45 7 ++ vars 59 14),
    .ext 25 (vars 66 7 ++ vars 66 14),
    .ext 24 (vars 73 7 ++ vars 0 7 ++ vars 80 7),
    .ext 24 (vars 80 7 ++ vars 14 7 ++ vars 87 7),
    .ext 24 (vars 0 7 ++ vars 87 14),
    .ext 25 (vars 66 7 ++ vars 94 14),
    .ext 24 (vars 101 7 ++ vars 7 7 ++ vars 108 7)], []⟩),
  (0, ⟨[], [], [.ext 26 (vars 0 7 ++ vars 14 7 ++ [.var 28]),
    .test (.not (.cmp .eql (.var 28) (.const 1))) false,
    .ext 26 (vars 7 7 ++ vars 21 7 ++ [.var 29]),
    .test (.not (.cmp .eql (.var 29) (.const 1))) true], []⟩)]
theorem sum_chk : chkFn (execCall EP 3000 20 sumS.args sumS.start) sumS sumDs = true := by kernel_rfl
theorem sum_ok (h : FV X) : SpecOK Tryz.prog X 20 sumS.spec := by
  refine fn_sum (EP_ok h.toFW) sum_chk fun d hd => ?_
  simp only [sumDs, List.mem_cons, List.not_mem_nil, or_false] at hd
  rcases hd with rfl | rfl | rfl | rfl
  · refine endP_of _ 47 _ rfl rfl (fun ρ => (W7 ρ 0) ++ (W7 ρ 7) ++ (W7 ρ 14) ++ (W7 ρ 21) ++ [0] ++ (W7 ρ 71) ++ (W7 ρ 92)) (fun ρ => by kernel_rfl) fun ρ hs => (h.sum _).2 ?_
    have hW : FW X := h.toFW
    have hZ : FZ X := hW.toFZ
    have hX : FX X := hZ.toFY.toFX
    refine Eq.mp (by kernel_rfl : (wok (W7 ρ 71) 0 /\ wok (W7 ρ 92) 0 /\ ((0 : Int) = 0 \/ (0 : Int) = 1) /\ sumF (wv (W7 ρ 0) 0) (wv (W7 ρ 7) 0) (wv (W7 ρ 14) 0) (wv (W7 ρ 21) 0) = if (0 : Int) = 1 then none else some (wv (W7 ρ 71) 0, wv (W7 ρ 92) 0)) = _) ?_
    have o1 := oneNot hs 1 (d := 28) (b := true) rfl
    have t0 := same_of hX (a := (W7 ρ 0)) (b := (W7 ρ 14)) (c := [ρ 28]) rfl rfl rfl (tokAt hs 0 (by kernel_rfl))
    have t2 := minus_of hX (a := (W7 ρ 21)) (b := (W7 ρ 7)) (c := (W7 ρ 29)) rfl rfl rfl (tokAt hs 2 (by kernel_rfl))
    have t3 := minus_of hX (a := (W7 ρ 14)) (b := (W7 ρ 0)) (c := (W7 ρ 36)) rfl rfl rfl (tokAt hs 3 (by kernel_rfl))
    have t4 := inv_of hZ (a := (W7 ρ 36)) (c := (W7 ρ 43)) rfl rfl (tokAt hs 4 (by kernel_rfl))
    have t5 := times_of hX (a := (W7 ρ 29)) (b := (W7 ρ 43)) (c := (W7 ρ 50)) rfl rfl rfl (tokAt hs 5 (by kernel_rfl))
    have t6 := times_of hX (a := (W7 ρ 50)) (b := (W7 ρ 50)) (c := (W7 ρ 57)) rfl rfl rfl (tokAt hs 6 (by kernel_rfl))
    have t7 := minus_of hX (a := (W7 ρ 57)) (b := (W7 ρ 0)) (c := (W7 ρ 64)) rfl rfl rfl (tokAt hs 7 (by kernel_rfl))
    have t8 := minus_of hX (a := (W7 ρ 64)) (b := (W7 ρ 14)) (c := (W7 ρ 71)) rfl rfl rfl (tokAt hs 8 (by kernel_rfl))
    have t9 := minus_of hX (a := (W7 ρ 0)) (b := (W7 ρ 71)) (c := (W7 ρ 78)) rfl rfl rfl (tokAt hs 9 (by kernel_rfl))
    have t10 := times_of hX (a := (W7 ρ 50)) (b := (W7 ρ 78)) (c := (W7 ρ 85)) rfl rfl rfl (tokAt hs 10 (by kernel_rfl))
    have t11 := minus_of hX (a := (W7 ρ 85)) (b := (W7 ρ 7)) (c := (W7 ρ 92)) rfl rfl rfl (tokAt hs 11 (by kernel_rfl))
    have k0 : wv [0, 0, 0, 0, 0, 0, 0] 0 = 0 := by kernel_rfl
    have z0 : ¬ wv (W7 ρ 0) 0 = wv (W7 ρ 14) 0 := fun hc => absurd (o1.mp (t0.2.2 (hc))) (by decide)
    refine ⟨t8.1, t11.1, Or.inl rfl, ?_⟩
    unfold sumF
    simp only []
    rw [if_neg z0, if_neg (by decide : ¬ (0 : Int) = 1)]
    simp only [t2.2, t3.2, t4.2, t5.2, t6.2, t7.2, t8.2, t9.2, t10.2, t11.2]
  · refine endP_of _ 47 _ rfl rfl (fun ρ => (W7 ρ 0) ++ (W7 ρ 7) ++ (W7 ρ 14) ++ (W7 ρ 21) ++ [1] ++ [0, 0, 0, 0, 0, 0, 0] ++ [0, 0, 0, 0, 0, 0, 0]) (fun ρ => by kernel_rfl) fun ρ hs => (h.sum _).2 ?_
    have hW : FW X := h.toFW
    have hZ : FZ X := hW.toFZ
    have hX : FX X := hZ.toFY.toFX
    refine Eq.mp (by kernel_rfl : (wok [0, 0, 0, 0, 0, 0, 0] 0 /\ wok [0, 0, 0, 0, 0, 0, 0] 0 /\ ((1 : Int) = 0 \/ (1 : Int) = 1) /\ sumF (wv (W7 ρ 0) 0) (wv (W7 ρ 7) 0) (wv (W7 ρ 14) 0) (wv (W7 ρ 21) 0) = if (1 : Int) = 1 then none else some (wv [0, 0, 0, 0, 0, 0, 0] 0, wv [0, 0, 0, 0, 0, 0, 0] 0)) = _) ?_
    have o1 := oneNot hs 1 (d := 28) (b := false) rfl
    have o3 := oneNot hs 3 (d := 29) (b := false) rfl
    have t0 := same_of hX (a := (W7 ρ 0)) (b := (W7 ρ 14)) (c := [ρ 28]) rfl rfl rfl (tokAt hs 0 (by kernel_rfl))
    have t2 := same_of hX (a := (W7 ρ 7)) (b := (W7 ρ 21)) (c := [ρ 29]) rfl rfl rfl (tokAt hs 2 (by kernel_rfl))
    have t4 := same_of hX (a := (W7 ρ 7)) (b := [0, 0, 0, 0, 0, 0, 0]) (c := [ρ 30]) rfl rfl rfl (tokAt hs 4 (by kernel_rfl))
    have o5 := oneAt hs 5 (d := 30) (b := true) rfl
    have k0 : wv [0, 0, 0, 0, 0, 0, 0] 0 = 0 := by kernel_rfl
    have z0 : wv (W7 ρ 0) 0 = wv (W7 ρ 14) 0 := (t0.2.1 (o1.symm ▸ rfl))
    have z1 : wv (W7 ρ 7) 0 = wv (W7 ρ 21) 0 := (t2.2.1 (o3.symm ▸ rfl))
    have z2 : wv (W7 ρ 7) 0 = 0 := (t4.2.1 (o5.symm ▸ rfl)).trans k0
    refine ⟨by unfold wok wd nth nth; decide, by unfold wok wd nth nth; decide, Or.inr rfl, ?_⟩
    unfold sumF
    simp only []
    rw [if_pos z0, if_pos (Or.inr z2)]
    simp only [if_true]
  · refine endP_of _ 47 _ rfl rfl (fun ρ => (W7 ρ 0) ++ (W7 ρ 7) ++ (W7 ρ 14) ++ (W7 ρ 21) ++ [0] ++ (W7 ρ 87) ++ (W7 ρ 108)) (fun ρ => by kernel_rfl) fun ρ hs => (h.sum _).2 ?_
    have hW : FW X := h.toFW
    have hZ : FZ X := hW.toFZ
    have hX : FX X := hZ.toFY.toFX
    refine Eq.mp (by kernel_rfl : (wok (W7 ρ 87) 0 /\ wok (W7 ρ 108) 0 /\ ((0 : Int) = 0 \/ (0 : Int) = 1) /\ sumF (wv (W7 ρ 0) 0) (wv (W7 ρ 7) 0) (wv (W7 ρ 14) 0) (wv (W7 ρ 21) 0) = if (0 : Int) = 1 then none else some (wv (W7 ρ 87) 0, wv (W7 ρ 108) 0)) = _) ?_
    have o1 := oneNot hs 1 (d := 28) (b := false) rfl
    have o3 := oneNot hs 3 (d := 29) (b := false) rfl
    have t0 := same_of hX (a := (W7 ρ 0)) (b := (W7 ρ 14)) (c := [ρ 28]) rfl rfl rfl (tokAt hs 0 (by kernel_rfl))
    have t2 := same_of hX (a := (W7 ρ 7)) (b := (W7 ρ 21)) (c := [ρ 29]) rfl rfl rfl (tokAt hs 2 (by kernel_rfl))
    have t4 := same_of hX (a := (W7 ρ 7)) (b := [0, 0, 0, 0, 0, 0, 0]) (c := [ρ 30]) rfl rfl rfl (tokAt hs 4 (by kernel_rfl))
    have o5 := oneAt hs 5 (d := 30) (b := false) rfl
    have t6 := times_of hX (a := (W7 ρ 0)) (b := (W7 ρ 0)) (c := (W7 ρ 31)) rfl rfl rfl (tokAt hs 6 (by kernel_rfl))
    have t7 := times_of hX (a := [3, 0, 0, 0, 0, 0, 0]) (b := (W7 ρ 31)) (c := (W7 ρ 38)) rfl rfl rfl (tokAt hs 7 (by kernel_rfl))
    have t8 := minus_of hX (a := (W7 ρ 38)) (b := [3, 0, 0, 0, 0, 0, 0]) (c := (W7 ρ 45)) rfl rfl rfl (tokAt hs 8 (by kernel_rfl))
    have t9 := plus_of hX (a := (W7 ρ 7)) (b := (W7 ρ 7)) (c := (W7 ρ 52)) rfl rfl rfl (tokAt hs 9 (by kernel_rfl))
    have t10 := inv_of hZ (a := (W7 ρ 52)) (c := (W7 ρ 59)) rfl rfl (tokAt hs 10 (by kernel_rfl))
    have t11 := times_of hX (a := (W7 ρ 45)) (b := (W7 ρ 59)) (c := (W7 ρ 66)) rfl rfl rfl (tokAt hs 11 (by kernel_rfl))
    have t12 := times_of hX (a := (W7 ρ 66)) (b := (W7 ρ 66)) (c := (W7 ρ 73)) rfl rfl rfl (tokAt hs 12 (by kernel_rfl))
    have t13 := minus_of hX (a := (W7 ρ 73)) (b := (W7 ρ 0)) (c := (W7 ρ 80)) rfl rfl rfl (tokAt hs 13 (by kernel_rfl))
    have t14 := minus_of hX (a := (W7 ρ 80)) (b := (W7 ρ 14)) (c := (W7 ρ 87)) rfl rfl rfl (tokAt hs 14 (by kernel_rfl))
    have t15 := minus_of hX (a := (W7 ρ 0)) (b := (W7 ρ 87)) (c := (W7 ρ 94)) rfl rfl rfl (tokAt hs 15 (by kernel_rfl))
    have t16 := times_of hX (a := (W7 ρ 66)) (b := (W7 ρ 94)) (c := (W7 ρ 101)) rfl rfl rfl (tokAt hs 16 (by kernel_rfl))
    have t17 := minus_of hX (a := (W7 ρ 101)) (b := (W7 ρ 7)) (c := (W7 ρ 108)) rfl rfl rfl (tokAt hs 17 (by kernel_rfl))
    have k0 : wv [0, 0, 0, 0, 0, 0, 0] 0 = 0 := by kernel_rfl
    have k1 : wv [3, 0, 0, 0, 0, 0, 0] 0 = 3 := by kernel_rfl
    have z0 : wv (W7 ρ 0) 0 = wv (W7 ρ 14) 0 := (t0.2.1 (o1.symm ▸ rfl))
    have z1 : wv (W7 ρ 7) 0 = wv (W7 ρ 21) 0 := (t2.2.1 (o3.symm ▸ rfl))
    have z2 : ¬ wv (W7 ρ 7) 0 = 0 := fun hc => absurd (o5.mp (t4.2.2 (hc.trans k0.symm))) (by decide)
    refine ⟨t14.1, t17.1, Or.inl rfl, ?_⟩
    unfold sumF
    simp only []
    rw [if_pos z0, if_neg (fun hc => hc.elim (fun q => q z1) z2), if_neg (by decide : ¬ (0 : Int) = 1)]
    simp only [t6.2, t7.2, t8.2, t9.2, t10.2, t11.2, t12.2, t13.2, t14.2, t15.2, t16.2, t17.2, k1]
  · refine endP_of _ 47 _ rfl rfl (fun ρ => (W7 ρ 0) ++ (W7 ρ 7) ++ (W7 ρ 14) ++ (W7 ρ 21) ++ [1] ++ [0, 0, 0, 0, 0, 0, 0] ++ [0, 0, 0, 0, 0, 0, 0]) (fun ρ => by kernel_rfl) fun ρ hs => (h.sum _).2 ?_
    have hW : FW X := h.toFW
    have hZ : FZ X := hW.toFZ
    have hX : FX X := hZ.toFY.toFX
    refine Eq.mp (by kernel_rfl : (wok [0, 0, 0, 0, 0, 0, 0] 0 /\ wok [0, 0, 0, 0, 0, 0, 0] 0 /\ ((1 : Int) = 0 \/ (1 : Int) = 1) /\ sumF (wv (W7 ρ 0) 0) (wv (W7 ρ 7) 0) (wv (W7 ρ 14) 0) (wv (W7 ρ 21) 0) = if (1 : Int) = 1 then none else some (wv [0, 0, 0, 0, 0, 0, 0] 0, wv [0, 0, 0, 0, 0, 0, 0] 0)) = _) ?_
    have o1 := oneNot hs 1 (d := 28) (b := false) rfl
    have o3 := oneNot hs 3 (d := 29) (b := true) rfl
    have t0 := same_of hX (a := (W7 ρ 0)) (b := (W7 ρ 14)) (c := [ρ 28]) rfl rfl rfl (tokAt hs 0 (by kernel_rfl))
    have t2 := same_of hX (a := (W7 ρ 7)) (b := (W7 ρ 21)) (c := [ρ 29]) rfl rfl rfl (tokAt hs 2 (by kernel_rfl))
    have k0 : wv [0, 0, 0, 0, 0, 0, 0] 0 = 0 := by kernel_rfl
    have z0 : wv (W7 ρ 0) 0 = wv (W7 ρ 14) 0 := (t0.2.1 (o1.symm ▸ rfl))
    have z1 : ¬ wv (W7 ρ 7) 0 = wv (W7 ρ 21) 0 := fun hc => absurd (o3.mp (t2.2.2 (hc))) (by decide)
    refine ⟨by unfold wok wd nth nth; decide, by unfold wok wd nth nth; decide, Or.inr rfl, ?_⟩
    unfold sumF
    simp only []
    rw [if_pos z0, if_pos (Or.inl z1)]
    simp only [if_true]
def bytesDs : List (Nat × Look) := [(0, ⟨vars 7 28, bW 7, [.eq 7 (.bin .shr .i64 (.var 6) (.const 24)),
    .eq 8 (.wrap .u8 (.bin .shr .i64 (.var 6) (.const 16))),
    .eq 9 (.wrap .u8 (.bin .shr .i64 (.var 6) (.const 8))),
    .eq 10 (.wrap .u8 (.bin .shr .i64 (.var 6) (.const 0))),
    .eq 11 (.bin .shr .i64 (.var 5) (.const 24)),
    .eq 12 (.wrap .u8 (.bin .shr .i64 (.var 5) (.const 16))),
    .eq 13 (.wrap .u8 (.bin .shr .i64 (.var 5) (.const 8))),
    .eq 14 (.wrap .u8 (.bin .shr .i64 (.var 5) (.const 0))),
    .eq 15 (.bin .shr .i64 (.var 4) (.const 24)),
    .eq 16 (.wrap .u8 (.bin .shr .i64 (.var 4) (.const 16))),
    .eq 17 (.wrap .u8 (.bin .shr .i64 (.var 4) (.const 8))),
    .eq 18 (.wrap .u8 (.bin .shr .i64 (.var 4) (.const 0))),
    .eq 19 (.bin .shr .i64 (.var 3) (.const 24)),
    .eq 20 (.wrap .u8 (.bin .shr .i64 (.var 3) (.const 16))),
    .eq 21 (.wrap .u8 (.bin .shr .i64 (.var 3) (.const 8))),
    .eq 22 (.wrap .u8 (.bin .shr .i64 (.var 3) (.const 0))),
    .eq 23 (.bin .shr .i64 (.var 2) (.const 24)),
    .eq 24 (.wrap .u8 (.bin .shr .i64 (.var 2) (.const 16))),
    .eq 25 (.wrap .u8 (.bin .shr .i64 (.var 2) (.const 8))),
    .eq 26 (.wrap .u8 (.bin .shr .i64 (.var 2) (.const 0))),
    .eq 27 (.bin .shr .i64 (.var 1) (.const 24)),
    .eq 28 (.wrap .u8 (.bin .shr .i64 (.var 1) (.const 16))),
    .eq 29 (.wrap .u8 (.bin .shr .i64 (.var 1) (.const 8))),
    .eq 30 (.wrap .u8 (.bin .shr .i64 (.var 1) (.const 0))),
    .eq 31 (.bin .shr .i64 (.var 0) (.const 24)),
    .eq 32 (.wrap .u8 (.bin .shr .i64 (.var 0) (.const 16))),
    .eq 33 (.wrap .u8 (.bin .shr .i64 (.var 0) (.const 8))),
    .eq 34 (.wrap .u8 (.bin .shr .i64 (.var 0) (.const 0)))], []⟩)]
theorem bytes_chk : chkFn (execCall EP 3000 22 bytesS.args bytesS.start) bytesS bytesDs = true := by kernel_rfl
theorem bytes_ok (h : FV X) : SpecOK Tryz.prog X 22 bytesS.spec := by
  refine fn_sum (EP_ok h.toFW) bytes_chk fun d hd => ?_
  simp only [bytesDs, List.mem_cons, List.not_mem_nil, or_false] at hd
  rcases hd with rfl
  · refine endP_of _ 48 _ rfl rfl (fun ρ => W7 ρ 0 ++ W28 ρ 7) (fun ρ => by kernel_rfl) fun ρ hs => (h.byts _).2 ?_
    have hW : FW X := h.toFW
    have hZ : FZ X := hW.toFZ
    have hX : FX X := hZ.toFY.toFX
    refine Eq.mp (by kernel_rfl : ((∀ x ∈ W28 ρ 7, byteOK x) /\ bn (W28 ρ 7) = wv (W7 ρ 0) 0) = _) ?_
    have hw := bW_spec (n := 7) hs fun b hb => hb
    obtain ⟨a0, b0, c0, d0, e0⟩ := byte4 (w := ρ 6) (hw 6 (by decide)) (eqAt hs 0 (d := 7) (e := .bin .shr .i64 (.var 6) (.const 24)) rfl) (eqAt hs 1 (d := 8) (e := .wrap .u8 (.bin .shr .i64 (.var 6) (.const 16))) rfl) (eqAt hs 2 (d := 9) (e := .wrap .u8 (.bin .shr .i64 (.var 6) (.const 8))) rfl) (eqAt hs 3 (d := 10) (e := .wrap .u8 (.bin .shr .i64 (.var 6) (.const 0))) rfl)
    obtain ⟨a1, b1, c1, d1, e1⟩ := byte4 (w := ρ 5) (hw 5 (by decide)) (eqAt hs 4 (d := 11) (e := .bin .shr .i64 (.var 5) (.const 24)) rfl) (eqAt hs 5 (d := 12) (e := .wrap .u8 (.bin .shr .i64 (.var 5) (.const 16))) rfl) (eqAt hs 6 (d := 13) (e := .wrap .u8 (.bin .shr .i64 (.var 5) (.const 8))) rfl) (eqAt hs 7 (d := 14) (e := .wrap .u8 (.bin .shr .i64 (.var 5) (.const 0))) rfl)
    obtain ⟨a2, b2, c2, d2, e2⟩ := byte4 (w := ρ 4) (hw 4 (by decide)) (eqAt hs 8 (d := 15) (e := .bin .shr .i64 (.var 4) (.const 24)) rfl) (eqAt hs 9 (d := 16) (e := .wrap .u8 (.bin .shr .i64 (.var 4) (.const 16))) rfl) (eqAt hs 10 (d := 17) (e := .wrap .u8 (.bin .shr .i64 (.var 4) (.const 8))) rfl) (eqAt hs 11 (d := 18) (e := .wrap .u8 (.bin .shr .i64 (.var 4) (.const 0))) rfl)
    obtain ⟨a3, b3, c3, d3, e3⟩ := byte4 (w := ρ 3) (hw 3 (by decide)) (eqAt hs 12 (d := 19) (e := .bin .shr .i64 (.var 3) (.const 24)) rfl) (eqAt hs 13 (d := 20) (e := .wrap .u8 (.bin .shr .i64 (.var 3) (.const 16))) rfl) (eqAt hs 14 (d := 21) (e := .wrap .u8 (.bin .shr .i64 (.var 3) (.const 8))) rfl) (eqAt hs 15 (d := 22) (e := .wrap .u8 (.bin .shr .i64 (.var 3) (.const 0))) rfl)
    obtain ⟨a4, b4, c4, d4, e4⟩ := byte4 (w := ρ 2) (hw 2 (by decide)) (eqAt hs 16 (d := 23) (e := .bin .shr .i64 (.var 2) (.const 24)) rfl) (eqAt hs 17 (d := 24) (e := .wrap .u8 (.bin .shr .i64 (.var 2) (.const 16))) rfl) (eqAt hs 18 (d := 25) (e := .wrap .u8 (.bin .shr .i64 (.var 2) (.const 8))) rfl) (eqAt hs 19 (d := 26) (e := .wrap .u8 (.bin .shr .i64 (.var 2) (.const 0))) rfl)
    obtain ⟨a5, b5, c5, d5, e5⟩ := byte4 (w := ρ 1) (hw 1 (by decide)) (eqAt hs 20 (d := 27) (e := .bin .shr .i64 (.var 1) (.const 24)) rfl) (eqAt hs 21 (d := 28) (e := .wrap .u8 (.bin .shr .i64 (.var 1) (.const 16))) rfl) (eqAt hs 22 (d := 29) (e := .wrap .u8 (.bin .shr .i64 (.var 1) (.const 8))) rfl) (eqAt hs 23 (d := 30) (e := .wrap .u8 (.bin .shr .i64 (.var 1) (.const 0))) rfl)
    obtain ⟨a6, b6, c6, d6, e6⟩ := byte4 (w := ρ 0) (hw 0 (by decide)) (eqAt hs 24 (d := 31) (e := .bin .shr .i64 (.var 0) (.const 24)) rfl) (eqAt hs 25 (d := 32) (e := .wrap .u8 (.bin .shr .i64 (.var 0) (.const 16))) rfl) (eqAt hs 26 (d := 33) (e := .wrap .u8 (.bin .shr .i64 (.var 0) (.const 8))) rfl) (eqAt hs 27 (d := 34) (e := .wrap .u8 (.bin .shr .i64 (.var 0) (.const 0))) rfl)
    refine ⟨fun x hx => ?_, ?_⟩
    · simp only [W28, List.range, List.range.loop, List.map_cons, List.map_nil, List.mem_cons, List.not_mem_nil, or_false] at hx
      rcases hx with rfl | rfl | rfl | rfl | rfl | rfl | rfl | rfl | rfl | rfl | rfl | rfl | rfl | rfl | rfl | rfl | rfl | rfl | rfl | rfl | rfl | rfl | rfl | rfl | rfl | rfl | rfl | rfl
      · exact a0
      · exact b0
      · exact c0
      · exact d0
      · exact a1
      · exact b1
      · exact c1
      · exact d1
      · exact a2
      · exact b2
      · exact c2
      · exact d2
      · exact a3
      · exact b3
      · exact c3
      · exact d3
      · exact a4
      · exact b4
      · exact c4
      · exact d4
      · exact a5
      · exact b5
      · exact c5
      · exact d5
      · exact a6
      · exact b6
      · exact c6
      · exact d6
    · refine Eq.trans (by kernel_rfl : bn (W28 ρ 7) = (((((((((((((((((((((((((((0 * 256 + ρ 7) * 256 + ρ 8) * 256 + ρ 9) * 256 + ρ 10) * 256 + ρ 11) * 256 + ρ 12) * 256 + ρ 13) * 256 + ρ 14) * 256 + ρ 15) * 256 + ρ 16) * 256 + ρ 17) * 256 + ρ 18) * 256 + ρ 19) * 256 + ρ 20) * 256 + ρ 21) * 256 + ρ 22) * 256 + ρ 23) * 256 + ρ 24) * 256 + ρ 25) * 256 + ρ 26) * 256 + ρ 27) * 256 + ρ 28) * 256 + ρ 29) * 256 + ρ 30) * 256 + ρ 31) * 256 + ρ 32) * 256 + ρ 33) * 256 + ρ 34) ?_
      refine Eq.trans ?_ (by kernel_rfl : ρ 0 + 4294967296 * ρ 1 + 18446744073709551616 * ρ 2 + 79228162514264337593543950336 * ρ 3 + 340282366920938463463374607431768211456 * ρ 4 + 1461501637330902918203684832716283019655932542976 * ρ 5 + 6277101735386680763835789423207666416102355444464034512896 * ρ 6 = wv (W7 ρ 0) 0)
      clear hs
      omega
def numDs : List (Nat × Look) := [(0, ⟨[.var 55, .var 51, .var 47, .var 43, .var 39, .var 35, .var 31], ([55, 51, 47, 43, 39, 35, 31].map fun i => (i, W32)), [.eq 28 (.add (.const 0) (.mul (.var 0) (.const 16777216))),
    .eq 29 (.add (.var 28) (.mul (.var 1) (.const 65536))),
    .eq 30 (.add (.var 29) (.mul (.var 2) (.const 256))),
    .eq 31 (.add (.var 30) (.mul (.var 3) (.const 1))),
    .eq 32 (.add (.const 0) (.mul (.var 4) (.const 16777216))),
    .eq 33 (.add (.var 32) (.mul (.var 5) (.const 65536))),
    .eq 34 (.add (.var 33) (.mul (.var 6) (.const 256))),
    .eq 35 (.add (.var 34) (.mul (.var 7) (.const 1))),
    .eq 36 (.add (.const 0) (.mul (.var 8) (.const 16777216))),
    .eq 37 (.add (.var 36) (.mul (.var 9) (.const 65536))),
    .eq 38 (.add (.var 37) (.mul (.var 10) (.const 256))),
    .eq 39 (.add (.var 38) (.mul (.var 11) (.const 1))),
    .eq 40 (.add (.const 0) (.mul (.var 12) (.const 16777216))),
    .eq 41 (.add (.var 40) (.mul (.var 13) (.const 65536))),
    .eq 42 (.add (.var 41) (.mul (.var 14) (.const 256))),
    .eq 43 (.add (.var 42) (.mul (.var 15) (.const 1))),
    .eq 44 (.add (.const 0) (.mul (.var 16) (.const 16777216))),
    .eq 45 (.add (.var 44) (.mul (.var 17) (.const 65536))),
    .eq 46 (.add (.var 45) (.mul (.var 18) (.const 256))),
    .eq 47 (.add (.var 46) (.mul (.var 19) (.const 1))),
    .eq 48 (.add (.const 0) (.mul (.var 20) (.const 16777216))),
    .eq 49 (.add (.var 48) (.mul (.var 21) (.const 65536))),
    .eq 50 (.add (.var 49) (.mul (.var 22) (.const 256))),
    .eq 51 (.add (.var 50) (.mul (.var 23) (.const 1))),
    .eq 52 (.add (.const 0) (.mul (.var 24) (.const 16777216))),
    .eq 53 (.add (.var 52) (.mul (.var 25) (.const 65536))),
    .eq 54 (.add (.var 53) (.mul (.var 26) (.const 256))),
    .eq 55 (.add (.var 54) (.mul (.var 27) (.const 1)))], []⟩)]
theorem num_chk : chkFn (execCall EP 3000 8 numS.args numS.start) numS numDs = true := by kernel_rfl
theorem num_ok (h : FV X) : SpecOK Tryz.prog X 8 numS.spec := by
  refine fn_sum (EP_ok h.toFW) num_chk fun d hd => ?_
  simp only [numDs, List.mem_cons, List.not_mem_nil, or_false] at hd
  rcases hd with rfl
  · refine endP_of _ 49 _ rfl rfl (fun ρ => W28 ρ 0 ++ [ρ 55, ρ 51, ρ 47, ρ 43, ρ 39, ρ 35, ρ 31]) (fun ρ => by kernel_rfl) fun ρ hs => (h.num _).2 ?_
    have hW : FW X := h.toFW
    have hZ : FZ X := hW.toFZ
    have hX : FX X := hZ.toFY.toFX
    refine Eq.mp (by kernel_rfl : (wok [ρ 55, ρ 51, ρ 47, ρ 43, ρ 39, ρ 35, ρ 31] 0 /\ wv [ρ 55, ρ 51, ρ 47, ρ 43, ρ 39, ρ 35, ρ 31] 0 = bn (W28 ρ 0)) = _) ?_
    have hb := hs.bds
    have hB : ∀ i ∈ [55, 51, 47, 43, 39, 35, 31], wd (ρ i) := fun i hi => hs.bds (i, W32) (List.mem_map.2 ⟨i, hi, rfl⟩)
    simp only [List.forall_mem_cons, List.not_mem_nil, false_imp_iff, implies_true, and_true] at hB
    have o0 := eqAt hs 0 (d := 28) (e := .add (.const 0) (.mul (.var 0) (.const 16777216))) rfl
    have o1 := eqAt hs 1 (d := 29) (e := .add (.var 28) (.mul (.var 1) (.const 65536))) rfl
    have o2 := eqAt hs 2 (d := 30) (e := .add (.var 29) (.mul (.var 2) (.const 256))) rfl
    have o3 := eqAt hs 3 (d := 31) (e := .add (.var 30) (.mul (.var 3) (.const 1))) rfl
    have o4 := eqAt hs 4 (d := 32) (e := .add (.const 0) (.mul (.var 4) (.const 16777216))) rfl
    have o5 := eqAt hs 5 (d := 33) (e := .add (.var 32) (.mul (.var 5) (.const 65536))) rfl
    have o6 := eqAt hs 6 (d := 34) (e := .add (.var 33) (.mul (.var 6) (.const 256))) rfl
    have o7 := eqAt hs 7 (d := 35) (e := .add (.var 34) (.mul (.var 7) (.const 1))) rfl
    have o8 := eqAt hs 8 (d := 36) (e := .add (.const 0) (.mul (.var 8) (.const 16777216))) rfl
    have o9 := eqAt hs 9 (d := 37) (e := .add (.var 36) (.mul (.var 9) (.const 65536))) rfl
    have o10 := eqAt hs 10 (d := 38) (e := .add (.var 37) (.mul (.var 10) (.const 256))) rfl
    have o11 := eqAt hs 11 (d := 39) (e := .add (.var 38) (.mul (.var 11) (.const 1))) rfl
    have o12 := eqAt hs 12 (d := 40) (e := .add (.const 0) (.mul (.var 12) (.const 16777216))) rfl
    have o13 := eqAt hs 13 (d := 41) (e := .add (.var 40) (.mul (.var 13) (.const 65536))) rfl
    have o14 := eqAt hs 14 (d := 42) (e := .add (.var 41) (.mul (.var 14) (.const 256))) rfl
    have o15 := eqAt hs 15 (d := 43) (e := .add (.var 42) (.mul (.var 15) (.const 1))) rfl
    have o16 := eqAt hs 16 (d := 44) (e := .add (.const 0) (.mul (.var 16) (.const 16777216))) rfl
    have o17 := eqAt hs 17 (d := 45) (e := .add (.var 44) (.mul (.var 17) (.const 65536))) rfl
    have o18 := eqAt hs 18 (d := 46) (e := .add (.var 45) (.mul (.var 18) (.const 256))) rfl
    have o19 := eqAt hs 19 (d := 47) (e := .add (.var 46) (.mul (.var 19) (.const 1))) rfl
    have o20 := eqAt hs 20 (d := 48) (e := .add (.const 0) (.mul (.var 20) (.const 16777216))) rfl
    have o21 := eqAt hs 21 (d := 49) (e := .add (.var 48) (.mul (.var 21) (.const 65536))) rfl
    have o22 := eqAt hs 22 (d := 50) (e := .add (.var 49) (.mul (.var 22) (.const 256))) rfl
    have o23 := eqAt hs 23 (d := 51) (e := .add (.var 50) (.mul (.var 23) (.const 1))) rfl
    have o24 := eqAt hs 24 (d := 52) (e := .add (.const 0) (.mul (.var 24) (.const 16777216))) rfl
    have o25 := eqAt hs 25 (d := 53) (e := .add (.var 52) (.mul (.var 25) (.const 65536))) rfl
    have o26 := eqAt hs 26 (d := 54) (e := .add (.var 53) (.mul (.var 26) (.const 256))) rfl
    have o27 := eqAt hs 27 (d := 55) (e := .add (.var 54) (.mul (.var 27) (.const 1))) rfl
    simp only [IE.eval] at o0 o1 o2 o3 o4 o5 o6 o7 o8 o9 o10 o11 o12 o13 o14 o15 o16 o17 o18 o19 o20 o21 o22 o23 o24 o25 o26 o27
    refine ⟨hB, ?_⟩
    refine Eq.trans ?_ (by kernel_rfl : (((((((((((((((((((((((((((0 * 256 + ρ 0) * 256 + ρ 1) * 256 + ρ 2) * 256 + ρ 3) * 256 + ρ 4) * 256 + ρ 5) * 256 + ρ 6) * 256 + ρ 7) * 256 + ρ 8) * 256 + ρ 9) * 256 + ρ 10) * 256 + ρ 11) * 256 + ρ 12) * 256 + ρ 13) * 256 + ρ 14) * 256 + ρ 15) * 256 + ρ 16) * 256 + ρ 17) * 256 + ρ 18) * 256 + ρ 19) * 256 + ρ 20) * 256 + ρ 21) * 256 + ρ 22) * 256 + ρ 23) * 256 + ρ 24) * 256 + ρ 25) * 256 + ρ 26) * 256 + ρ 27 = bn (W28 ρ 0))
    refine Eq.trans (by kernel_rfl : wv [ρ 55, ρ 51, ρ 47, ρ 43, ρ 39, ρ 35, ρ 31] 0 = ρ 55 + 4294967296 * ρ 51 + 18446744073709551616 * ρ 47 + 79228162514264337593543950336 * ρ 43 + 340282366920938463463374607431768211456 * ρ 39 + 1461501637330902918203684832716283019655932542976 * ρ 35 + 6277101735386680763835789423207666416102355444464034512896 * ρ 31) ?_
    clear hs hb hB
    omega
def orP1 : Poly := ((wP [16, 19, 22, 25, 28, 31, 34]).add (pscale 26959946667150639794667015087019630673637144422540572481103610249216 (pvar 35))).sub ((wP [0, 1, 2, 3, 4, 5, 6]).sub (pconst n224))
def ordRestDs : List (Nat × Look) := [(0, ⟨[], bW 7, [.ext 27 (vars 0 7 ++ [.const 1549543997, .const 333261125, .const 3770216510, .const 4294907554, .const 4294967295, .const 4294967295, .const 4294967295, .var 7]),
    .test (.cmp .eql (.var 7) (.const 1)) true], []⟩),
  (1, ⟨[.var 16, .var 19, .var 22, .var 25, .var 28, .var 31, .var 34], bW 7 ++ ([16, 19, 22, 25, 28, 31, 34].map fun i => (i, W32)), [.ext 27 (vars 0 7 ++ [.const 1549543997, .const 333261125, .const 3770216510, .const 4294907554, .const 4294967295, .const 4294967295, .const 4294967295, .var 7]),
    .test (.cmp .eql (.var 7) (.const 1)) false], [orP1]⟩)]
theorem ordRest_chk : chkFn (execCall EP 3000 25 ordRestS.args ordRestS.start) ordRestS ordRestDs = true := by kernel_rfl
theorem ordRest_ok (h : FV X) : SpecOK Tryz.prog X 25 ordRestS.spec := by
  refine fn_sum (EP_ok h.toFW) ordRest_chk fun d hd => ?_
  simp only [ordRestDs, List.mem_cons, List.not_mem_nil, or_false] at hd
  rcases hd with rfl | rfl
  · refine endP_of _ 50 _ rfl rfl (fun ρ => W7 ρ 0 ++ (W7 ρ 0)) (fun ρ => by kernel_rfl) fun ρ hs => (h.ordRest _).2 ?_
    have hW : FW X := h.toFW
    have hZ : FZ X := hW.toFZ
    have hX : FX X := hZ.toFY.toFX
    refine Eq.mp (by kernel_rfl : (wok (W7 ρ 0) 0 /\ wv (W7 ρ 0) 0 = wv (W7 ρ 0) 0 % n224) = _) ?_
    have hw := bW_spec (n := 7) hs fun b hb => hb
    have hA := wok_W7 hw 0 (by decide)
    have hR := wv_range hA
    have t0 := below_of hX (a := (W7 ρ 0)) (b := [1549543997, 333261125, 3770216510, 4294907554, 4294967295, 4294967295, 4294967295]) (c := [ρ 7]) rfl rfl rfl (tokAt hs 0 (by kernel_rfl))
    have o1 := oneAt hs 1 (d := 7) (b := true) rfl
    have k0 : wv [1549543997, 333261125, 3770216510, 4294907554, 4294967295, 4294967295, 4294967295] 0 = 26959946667150639794667015087019625940457807714424391721682722368061 := by kernel_rfl
    have z := t0.2.1 (o1.symm ▸ rfl)
    rw [k0] at z
    exact ⟨hA, (Int.emod_eq_of_lt hR.1 z).symm⟩
  · refine endP_of _ 50 _ rfl rfl (fun ρ => W7 ρ 0 ++ [ρ 16, ρ 19, ρ 22, ρ 25, ρ 28, ρ 31, ρ 34]) (fun ρ => by kernel_rfl) fun ρ hs => (h.ordRest _).2 ?_
    have hW : FW X := h.toFW
    have hZ : FZ X := hW.toFZ
    have hX : FX X := hZ.toFY.toFX
    refine Eq.mp (by kernel_rfl : (wok [ρ 16, ρ 19, ρ 22, ρ 25, ρ 28, ρ 31, ρ 34] 0 /\ wv [ρ 16, ρ 19, ρ 22, ρ 25, ρ 28, ρ 31, ρ 34] 0 = wv (W7 ρ 0) 0 % n224) = _) ?_
    have hw := bW_spec (n := 7) hs fun b hb => List.mem_append_left _ hb
    have hA := wok_W7 hw 0 (by decide)
    have hR := wv_range hA
    have t0 := below_of hX (a := (W7 ρ 0)) (b := [1549543997, 333261125, 3770216510, 4294907554, 4294967295, 4294967295, 4294967295]) (c := [ρ 7]) rfl rfl rfl (tokAt hs 0 (by kernel_rfl))
    have o1 := oneAt hs 1 (d := 7) (b := false) rfl
    have k0 : wv [1549543997, 333261125, 3770216510, 4294907554, 4294967295, 4294967295, 4294967295] 0 = 26959946667150639794667015087019625940457807714424391721682722368061 := by kernel_rfl
    have z : ¬ wv (W7 ρ 0) 0 < n224 := fun hc => absurd (o1.mp (t0.2.2 (k0.symm ▸ hc))) (by decide)
    have hB : ∀ i ∈ [16, 19, 22, 25, 28, 31, 34], wd (ρ i) := fun i hi => hs.bds (i, W32) (List.mem_append_right _ (List.mem_map.2 ⟨i, hi, rfl⟩))
    simp only [List.forall_mem_cons, List.not_mem_nil, false_imp_iff, implies_true, and_true] at hB
    have hC : wok [ρ 16, ρ 19, ρ 22, ρ 25, ρ 28, ρ 31, ρ 34] 0 := hB
    have hS := wv_range hC
    have p1 := hs.ps orP1 (by simp)
    simp only [orP1, eval_sub, eval_add, eval_scale, eval_var, eval_const, wP_eval] at p1
    have p2 : wv [ρ 16, ρ 19, ρ 22, ρ 25, ρ 28, ρ 31, ρ 34] 0 + 26959946667150639794667015087019630673637144422540572481103610249216 * ρ 35 - (wv (W7 ρ 0) 0 - n224) = 0 := p1
    refine ⟨hC, emod_n hS.1 ?_ (-1) ?_⟩ <;> unfold n224 at * <;> clear hs hw hB p1 <;> omega
def specQ (f : FuncId) : Option (Fs) := match f with | 20 => some sumS.spec | 22 => some bytesS.spec | 8 => some numS.spec | 25 => some ordRestS.spec | f => specP f
theorem specQ_ok (h : FV X) : ∀ f sp, specQ f = some sp -> FnOK Tryz.prog f /\ SpecOK Tryz.prog X f sp := fun f sp hs => by
  unfold specQ at hs
  split at hs
  · simp only [Option.some.injEq] at hs; subst hs
    exact ⟨fn_ok Tryz.func20 (by kernel_rfl) (by kernel_rfl), sum_ok h⟩
  · simp only [Option.some.injEq] at hs; subst hs
    exact ⟨fn_ok Tryz.func22 (by kernel_rfl) (by kernel_rfl), bytes_ok h⟩
  · simp only [Option.some.injEq] at hs; subst hs
    exact ⟨fn_ok Tryz.func8 (by kernel_rfl) (by kernel_rfl), num_ok h⟩
  · simp only [Option.some.injEq] at hs; subst hs
    exact ⟨fn_ok Tryz.func25 (by kernel_rfl) (by kernel_rfl), ordRest_ok h⟩
  · exact specP_ok h.toFW _ _ hs
def EQ : Env := mkEnv Tryz.prog tyTree fnTree ext0 specQ
theorem EQ_ok (h : FV X) : EnvOK Tryz.prog X EQ := mkEnv_ok mixed_ok tys_ok fns_ok names_ok ext0_ok (specQ_ok h)
def inOrderDs : List (Nat × Look) := [(0, ⟨[.const 1], [], [.ext 49 (vars 0 35),
    .ext 26 (vars 28 7 ++ [.const 0, .const 0, .const 0, .const 0, .const 0, .const 0, .const 0, .var 35]),
    .test (.not (.cmp .eql (.var 35) (.const 1))) true,
    .ext 27 (vars 28 7 ++ [.const 1549543997, .const 333261125, .const 3770216510, .const 4294907554, .const 4294967295, .const 4294967295, .const 4294967295, .var 36]),
    .test (.cmp .eql (.var 36) (.const 1)) true], []⟩),
  (0, ⟨[.const 0], [], [.ext 49 (vars 0 35),
    .ext 26 (vars 28 7 ++ [.const 0, .const 0, .const 0, .const 0, .const 0, .const 0, .const 0, .var 35]),
    .test (.not (.cmp .eql (.var 35) (.const 1))) true,
    .ext 27 (vars 28 7 ++ [.const 1549543997, .const 333261125, .const 3770216510, .const 4294907554, .const 4294967295, .const 4294967295, .const 4294967295, .var 36]),
    .test (.cmp .eql (.var 36) (.const 1)) false], []⟩),
  (0, ⟨[.const 0], [], [.ext 49 (vars 0 35),
    .ext 26 (vars 28 7 ++ [.const 0, .const 0, .const 0, .const 0, .const 0, .const 0, .const 0, .var 35]),
    .test (.not (.cmp .eql (.var 35) (.const 1))) false], []⟩)]
theorem inOrder_chk : chkFn (execCall EQ 3000 16 inOrderS.args inOrderS.start) inOrderS inOrderDs = true := by kernel_rfl
theorem inOrder_ok (h : FV X) : SpecOK Tryz.prog X 16 inOrderS.spec := by
  refine fn_sum (EQ_ok h) inOrder_chk fun d hd => ?_
  simp only [inOrderDs, List.mem_cons, List.not_mem_nil, or_false] at hd
  rcases hd with rfl | rfl | rfl
  · refine endP_of _ 51 _ rfl rfl (fun ρ => W28 ρ 0 ++ [1]) (fun ρ => by kernel_rfl) fun ρ hs => (h.inOrder _).2 ?_
    have hW : FW X := h.toFW
    have hZ : FZ X := hW.toFZ
    have hX : FX X := hZ.toFY.toFX
    refine Eq.mp (by kernel_rfl : (((1 : Int) = 0 \/ (1 : Int) = 1) /\ ((1 : Int) = 1 ↔ bn (W28 ρ 0) ≠ 0 /\ bn (W28 ρ 0) < n224)) = _) ?_
    have t0 := num_of h (ks := W28 ρ 0) (a := W7 ρ 28) rfl rfl (tokAt hs 0 (by kernel_rfl))
    have o2 := oneNot hs 2 (d := 35) (b := true) rfl
    have t1 := same_of hX (a := (W7 ρ 28)) (b := [0, 0, 0, 0, 0, 0, 0]) (c := [ρ 35]) rfl rfl rfl (tokAt hs 1 (by kernel_rfl))
    have t3 := below_of hX (a := (W7 ρ 28)) (b := [1549543997, 333261125, 3770216510, 4294907554, 4294967295, 4294967295, 4294967295]) (c := [ρ 36]) rfl rfl rfl (tokAt hs 3 (by kernel_rfl))
    have o4 := oneAt hs 4 (d := 36) (b := true) rfl
    have k0 : wv [0, 0, 0, 0, 0, 0, 0] 0 = 0 := by kernel_rfl
    have k1 : wv [1549543997, 333261125, 3770216510, 4294907554, 4294967295, 4294967295, 4294967295] 0 = 26959946667150639794667015087019625940457807714424391721682722368061 := by kernel_rfl
    have z0 : ¬ wv (W7 ρ 28) 0 = 0 := fun hc => absurd (o2.mp (t1.2.2 (hc.trans k0.symm))) (by decide)
    have z1 := t3.2.1 (o4.symm ▸ rfl)
    rw [k1] at z1
    rw [<- t0.2]
    exact ⟨Or.inr rfl, fun _ => ⟨z0, z1⟩, fun _ => rfl⟩
  · refine endP_of _ 51 _ rfl rfl (fun ρ => W28 ρ 0 ++ [0]) (fun ρ => by kernel_rfl) fun ρ hs => (h.inOrder _).2 ?_
    have hW : FW X := h.toFW
    have hZ : FZ X := hW.toFZ
    have hX : FX X := hZ.toFY.toFX
    refine Eq.mp (by kernel_rfl : (((0 : Int) = 0 \/ (0 : Int) = 1) /\ ((0 : Int) = 1 ↔ bn (W28 ρ 0) ≠ 0 /\ bn (W28 ρ 0) < n224)) = _) ?_
    have t0 := num_of h (ks := W28 ρ 0) (a := W7 ρ 28) rfl rfl (tokAt hs 0 (by kernel_rfl))
    have o2 := oneNot hs 2 (d := 35) (b := true) rfl
    have t1 := same_of hX (a := (W7 ρ 28)) (b := [0, 0, 0, 0, 0, 0, 0]) (c := [ρ 35]) rfl rfl rfl (tokAt hs 1 (by kernel_rfl))
    have t3 := below_of hX (a := (W7 ρ 28)) (b := [1549543997, 333261125, 3770216510, 4294907554, 4294967295, 4294967295, 4294967295]) (c := [ρ 36]) rfl rfl rfl (tokAt hs 3 (by kernel_rfl))
    have o4 := oneAt hs 4 (d := 36) (b := false) rfl
    have k0 : wv [0, 0, 0, 0, 0, 0, 0] 0 = 0 := by kernel_rfl
    have k1 : wv [1549543997, 333261125, 3770216510, 4294907554, 4294967295, 4294967295, 4294967295] 0 = 26959946667150639794667015087019625940457807714424391721682722368061 := by kernel_rfl
    have z0 : ¬ wv (W7 ρ 28) 0 = 0 := fun hc => absurd (o2.mp (t1.2.2 (hc.trans k0.symm))) (by decide)
    have z1 : ¬ wv (W7 ρ 28) 0 < n224 := fun hc => absurd (o4.mp (t3.2.2 (k1.symm ▸ hc))) (by decide)
    rw [<- t0.2]
    exact ⟨Or.inl rfl, fun hc => absurd hc (by decide), fun hc => absurd hc.2 z1⟩
  · refine endP_of _ 51 _ rfl rfl (fun ρ => W28 ρ 0 ++ [0]) (fun ρ => by kernel_rfl) fun ρ hs => (h.inOrder _).2 ?_
    have hW : FW X := h.toFW
    have hZ : FZ X := hW.toFZ
    have hX : FX X := hZ.toFY.toFX
    refine Eq.mp (by kernel_rfl : (((0 : Int) = 0 \/ (0 : Int) = 1) /\ ((0 : Int) = 1 ↔ bn (W28 ρ 0) ≠ 0 /\ bn (W28 ρ 0) < n224)) = _) ?_
    have t0 := num_of h (ks := W28 ρ 0) (a := W7 ρ 28) rfl rfl (tokAt hs 0 (by kernel_rfl))
    have o2 := oneNot hs 2 (d := 35) (b := false) rfl
    have t1 := same_of hX (a := (W7 ρ 28)) (b := [0, 0, 0, 0, 0, 0, 0]) (c := [ρ 35]) rfl rfl rfl (tokAt hs 1 (by kernel_rfl))
    have k0 : wv [0, 0, 0, 0, 0, 0, 0] 0 = 0 := by kernel_rfl
    have z0 : wv (W7 ρ 28) 0 = 0 := (t1.2.1 (o2.symm ▸ rfl)).trans k0
    rw [<- t0.2]
    exact ⟨Or.inl rfl, fun hc => absurd hc (by decide), fun hc => absurd z0 hc.1⟩
theorem gen_chk : chkFn (execCall EQ 3000 23 genPS.args genPS.start) genPS [(0, ⟨[], [], [], []⟩)] = true := by kernel_rfl
theorem gen_ok (h : FV X) : SpecOK Tryz.prog X 23 genPS.spec := by
  refine fn_sum (EQ_ok h) gen_chk fun d hd o ho ρ hs x hx => ?_
  simp only [List.mem_singleton] at hd
  subst hd
  simp only [genPS, List.getElem?_cons_zero, Option.some.injEq] at ho
  subst ho
  simp at hx
def specR2 (f : FuncId) : Option (Fs) := match f with | 16 => some inOrderS.spec | 23 => some genPS.spec | f => specQ f
theorem specR2_ok (h : FV X) : ∀ f sp, specR2 f = some sp -> FnOK Tryz.prog f /\ SpecOK Tryz.prog X f sp := fun f sp hs => by
  unfold specR2 at hs
  split at hs
  · simp only [Option.some.injEq] at hs; subst hs
    exact ⟨fn_ok Tryz.func16 (by kernel_rfl) (by kernel_rfl), inOrder_ok h⟩
  · simp only [Option.some.injEq] at hs; subst hs
    exact ⟨fn_ok Tryz.func23 (by kernel_rfl) (by kernel_rfl), gen_ok h⟩
  · exact specQ_ok h _ _ hs
def ER2 : Env := mkEnv Tryz.prog tyTree fnTree ext0 specR2
theorem ER2_ok (h : FV X) : EnvOK Tryz.prog X ER2 := mkEnv_ok mixed_ok tys_ok fns_ok names_ok ext0_ok (specR2_ok h)
end Go.Proofs.YtmogojlijkddpaaGreat
namespace Go.Vm
section
variable {P : Program} {X : Tk} {E : Env}
def bytV (i n : Nat) : List SV := (List.range n).map fun j => .int .u8 (.var (i + j))
def renL (L i : Nat) : IE := if i = 0 then .const L else .var (i + L - 1)
def gid (b : Nat) : Plc := (b, 0, none)
def SmO.ren (L : Nat) (o : SmO) : SmO :=
  { nbd := o.nbd, val := o.val.subst (renL L) gid, writes := o.writes.map fun x => (x.1, substL (renL L) gid x.2), news := o.news.map fun k => { k with cells := substL (renL L) gid k.cells }, post := [] }
def atLV (L : Nat) : SV -> SV
  | .lslice true b 0 (.var 0) _ => .view b 0 L
  | v => v
def Sm.atL (s : Sm) (bh L : Nat) : Sm :=
  { bd := List.replicate L (0, 255), args := s.args.map (atLV L), mem := s.mem.set bh ⟨5, bytV 0 L, false⟩, al := s.al, outs := s.outs.map (·.ren L) }
def argOK (n bh : Nat) : SV -> Bool
  | .lslice true b 0 (.var 0) _ => b == bh
  | v => v.okb 0 n
def Sm.longOK (s : Sm) (bh : Nat) : Bool :=
  s.wf && decide (s.bd.length = 1) && (match s.lens with | [(b, 0)] => b == bh | _ => false) && (match s.mem[bh]? with | some k => k.ty == 5 && k.cells.isEmpty && !k.full | none => false) &&
    allIdx (fun b k => b == bh || okbL 0 s.mem.length k.cells) 0 s.mem && s.args.all (argOK s.mem.length bh)
theorem matchOut_idg {s : Sm} {o : SmO} {v : SV} {S : St} {M : Mt} (h : s.matchOut o v S = some M) {b : Nat} (hb : b < s.mem.length) : M.g b = (b, 0, none) := by
  unfold Sm.matchOut at h
  split at h
  · cases h
  rename_i m2 hm2
  split at h
  · cases h
  rename_i m3 hm3
  split at h
  · cases h
  rename_i m4 hm4
  split at h
  case isFalse => cases h
  simp only [Option.some.injEq] at h
  subst h
  have hid : s.idm.Le m4 := ((matchSV_spec hm2).1.trans (matchWr_spec hm3).1).trans (matchMem_spec hm4).1
  have : s.idm.θ.get (path b) = some (b, 0, none) := by
    simp only [Sm.idm, listTr_get, Nat.zero_le, List.length_map, List.length_range, Nat.zero_add, true_and, Nat.sub_zero]
    rw [if_pos hb]; simp [hb]
  simp [Mt.g, hid.θ b _ this]
theorem bytV_get {i n j : Nat} {v : SV} (h : (bytV i n)[j]? = some v) : j < n /\ v = .int .u8 (.var (i + j)) := by
  have hj : j < n := by have := (List.getElem?_eq_some_iff.1 h).1; simpa [bytV] using this
  refine ⟨hj, ?_⟩
  unfold bytV at h
  rw [List.getElem?_map, List.getElem?_range hj] at h
  simp only [Option.map_some, Option.some.injEq] at h
  exact h.symm
theorem bytV_ok {n m k : Nat} : okL n m (bytV 0 k) ↔ k <= n := by
  rw [okL_iff]
  constructor
  · intro h
    rcases Nat.eq_zero_or_pos k with e | e
    · omega
    · have := h (.int .u8 (.var (k - 1))) (by simp only [bytV, List.mem_map, List.mem_range]; exact ⟨k - 1, by omega, by simp⟩)
      simp only [SV.ok, IE.ok] at this
      omega
  · intro h v hv
    simp only [bytV, List.mem_map, List.mem_range] at hv
    obtain ⟨j, hj, rfl⟩ := hv
    simp only [SV.ok, IE.ok]; omega
theorem chkOut_raw {s : Sm} {k : Nat} {L : Look} {v : SV} {S : St} (h : chkOut s k L v S = true) : ∃ o, s.outs[k]? = some o /\ ∃ M, s.matchOut o v S = some M /\
    (∀ (j : Nat) e, L.nums[j]? = some e -> M.f (s.nv + j) = e) /\ L.nums.length = o.nr /\ L.ok S = true := by
  unfold chkOut at h
  split at h
  · rename_i o ho
    split at h
    · rename_i M hM
      simp only [Bool.and_eq_true, beq_iff_eq] at h
      obtain ⟨⟨⟨h1, h2⟩, h3⟩, h4⟩ := h
      exact ⟨o, ho, M, hM, sameNums_spec h1, h2, h4⟩
    · cases h
  · cases h
theorem ext_zero {c c' : Ctx} (m : Nat) (hβ : ∀ b, b < m -> c'.β b = c.β b) (ho : ∀ b, b < m -> c'.o b = c.o b) (hκ : ∀ b, b < m -> c'.κ b = c.κ b) : Ext 0 m c c' := ⟨fun i hi => absurd hi (Nat.not_lt_zero i), hβ, ho, hκ⟩
set_option maxHeartbeats 1000000 in
theorem long_fn (hE : EnvOK P X E) {f n : Nat} {s : Sm} {bh lo hi : Nat} (hs : s.longOK bh = true) (hbd : s.bd = [((lo : Int), (hi : Int))]) (hX : ∀ l, X 57 l -> ∀ x ∈ l, 0 <= x /\ x <= 255)
    (ds : Nat -> List (Nat × Look)) (hrun : ∀ L, lo <= L -> L <= hi -> chkFn (execCall E n f (s.atL bh L).args (s.atL bh L).start) (s.atL bh L) (ds L) = true)
    (hp : ∀ l, X 57 l -> lo <= l.length -> l.length <= hi -> ∀ d ∈ ds l.length, ∀ o, s.outs[d.1]? = some o -> ∀ ρ, Seen X d.2 ρ -> (∀ (i : Nat) x, l[i]? = some x -> ρ i = x) ->
      ∀ x ∈ o.post, X x.1 (x.2.map (·.eval (fun i => if i = 0 then (l.length : Int) else ((d.2.nums[i - 1]?).getD (.const 0)).eval ρ)))) : SpecOK P X f s.spec := by
  simp only [Sm.longOK, Bool.and_eq_true, decide_eq_true_eq] at hs
  obtain ⟨⟨⟨⟨⟨hwf, hlen⟩, hl⟩, hb⟩, hmem0⟩, hargs0⟩ := hs
  have hl : s.lens = [(bh, 0)] := by
    split at hl
    · rename_i b hb; rw [hb]; rw [beq_iff_eq.1 hl]
    · cases hl
  have hb : s.mem[bh]? = some ⟨5, [], false⟩ := by
    split at hb
    · rename_i k hk
      simp only [Bool.and_eq_true, beq_iff_eq, List.isEmpty_iff, Bool.not_eq_true'] at hb
      rw [hk]
      obtain ⟨⟨h1, h2⟩, h3⟩ := hb
      obtain ⟨ty, cells, full⟩ := k
      simp only at h1 h2 h3
      rw [h1, h2, h3]
    · cases hb
  have hbn : bh < s.mem.length := (List.getElem?_eq_some_iff.1 hb).1
  have hnum : ∀ (b : Nat) k, s.mem[b]? = some k -> b ≠ bh -> okL 0 s.mem.length k.cells := fun b k hk hne => by
    have := allIdx_get hmem0 b k hk
    simp only [Nat.zero_add, Bool.or_eq_true, beq_iff_eq] at this
    rcases this with h | h
    · exact absurd h hne
    · exact okL_of h
  have hnv : s.nv = 1 := hlen
  intro args S ls' h w0 c w hM hargs R hR
  obtain ⟨wargs, wmem, wouts⟩ := Sm.wf_spec hwf
  unfold Sm.spec at h
  split at h
  · cases h
  rename_i m hm
  have hI := sm_in hm wmem hM hargs
  generalize hcs : c.sub m.f m.g = cs at *
  have hIs := hI.start
  rw [hcs] at hIs
  obtain ⟨l1, l2, _, l, l3, l4, l5, arr, ty, fr, l6, l7⟩ := hIs.lens (bh, 0) (by simp only [Sm.start]; rw [hl]; simp)
  simp only at l1 l2 l4 l5 l6 l7
  have hget : ∀ (b : Nat), s.start.mem.get (path b) = s.mem[b]? := fun b => by
    simp only [Sm.start, listTr_get, Nat.zero_le, Nat.zero_add, true_and, Nat.sub_zero, Tr.get_nil]
    split
    · rfl
    · rename_i h'
      rw [List.getElem?_eq_none (by omega)]
  have hL := hIs.bd 0 ((lo : Int), (hi : Int)) (by
    simp only [Sm.start, listTr_get, Nat.zero_le, Nat.zero_add, true_and, Nat.sub_zero]
    rw [if_pos (by omega), hbd]; rfl)
  simp only at hL
  obtain ⟨_, hL1, hL2⟩ := hL
  generalize hLe : l.length = L at *
  have hLl : lo <= L := by omega
  have hLh : L <= hi := by omega
  let cL : Ctx := ⟨fun i => (l[i]?).getD 0, cs.β, cs.o, cs.κ⟩
  have hx0 : Ext 0 s.mem.length cs cL := ext_zero _ (fun _ _ => rfl) (fun _ _ => rfl) fun _ _ => rfl
  have hlen' : (s.atL bh L).mem.length = s.mem.length := by simp [Sm.atL]
  have hnvL : (s.atL bh L).nv = L := by simp [Sm.atL, Sm.nv]
  have hmemL : ∀ b, (s.atL bh L).mem[b]? = if b = bh then some ⟨5, bytV 0 L, false⟩ else s.mem[b]? := fun b => by
    simp only [Sm.atL]
    rw [List.getElem?_set]
    by_cases e : bh = b
    · subst e; simp [hbn]
    · rw [if_neg e, if_neg (fun h => e h.symm)]
  have hgetL : ∀ (b : Nat), (s.atL bh L).start.mem.get (path b) = (s.atL bh L).mem[b]? := fun b => by
    simp only [Sm.start, listTr_get, Nat.zero_le, Nat.zero_add, true_and, Nat.sub_zero, Tr.get_nil]
    split
    · rfl
    · rename_i h'
      rw [List.getElem?_eq_none (by omega)]
  have hstart : MRep X ⟨w, s.mem.length⟩ cL (s.atL bh L).start w := by
    refine ⟨fun b k hk => ?_, fun b b' k k' hk hk' e => ?_, fun b hb => by simp [Sm.start] at hb, fun b h1 h2 => ?_, fun _ _ _ => rfl, Nat.le_refl _, fun k hk => by simp [Sm.start] at hk, fun i r hr => ?_, rfl, rfl, rfl, fun b s' p hb => by simp [Sm.start, Tr.get_nil] at hb, fun x hx => by simp [Sm.start, Sm.atL] at hx⟩
    · rw [hgetL, hmemL] at hk
      show b < (s.atL bh L).mem.length /\ okL (s.atL bh L).nv (s.atL bh L).mem.length k.cells /\ blkRep cL b k w
      rw [hlen', hnvL]
      split at hk
      · rename_i e
        subst e
        simp only [Option.some.injEq] at hk
        subst hk
        refine ⟨hbn, bytV_ok.2 (Nat.le_refl _), ?_⟩
        rw [blkRep_part rfl]
        refine ⟨by simp [bytV]; exact l5, arr, _, fr, l6, fun i v hv => ?_⟩
        obtain ⟨hi', rfl⟩ := bytV_get hv
        simp only [SV.den, IE.eval, Nat.zero_add, cL]
        have hil : i < l.length := by omega
        rw [List.getElem?_eq_getElem hil]
        exact l7 i _ (List.getElem?_eq_getElem hil)
      · rename_i hne
        obtain ⟨q1, q2, q3⟩ := hIs.mem b k (by rw [hget]; exact hk)
        have q4 := hnum b k hk hne
        exact ⟨q1, okL_mono (Nat.zero_le _) (Nat.le_refl _) q4, blkRep_ext hx0 q1 q4 q3⟩
    · rw [hgetL, hmemL] at hk hk'
      have any : ∀ b k, (if b = bh then some (⟨5, bytV 0 L, false⟩ : Blk) else s.mem[b]?) = some k -> ∃ k', s.start.mem.get (path b) = some k' := fun b k hk => by
        split at hk
        · rename_i e; subst e; exact ⟨_, by rw [hget]; exact hb⟩
        · exact ⟨k, by rw [hget]; exact hk⟩
      obtain ⟨j, hj⟩ := any b k hk
      obtain ⟨j', hj'⟩ := any b' k' hk'
      exact hIs.inj b b' j j' hj hj' e
    · have h2' : b < s.mem.length := by have : b < (s.atL bh L).mem.length := h2; omega
      simp only at h1; omega
    · simp only [Sm.start, Sm.atL, listTr_get, Nat.zero_le, Nat.zero_add, true_and, Nat.sub_zero, Tr.get_nil] at hr
      split at hr
      · rename_i hi'
        rw [List.length_replicate] at hi'
        rw [List.getElem?_replicate, if_pos hi'] at hr
        simp only [Option.some.injEq] at hr
        subst hr
        refine ⟨by show i < (s.atL bh L).nv; omega, ?_⟩
        have hil : i < l.length := by omega
        simp only [cL]
        rw [List.getElem?_eq_getElem hil]
        exact hX l l3 _ (List.getElem_mem hil)
      · cases hr
  have hrL := hrun L hLl hLh
  simp only [chkFn, Bool.and_eq_true] at hrL
  obtain ⟨hwfL, hrL⟩ := hrL
  split at hrL
  case h_2 => cases hrL
  rename_i ls hls
  obtain ⟨wargsL, _, _⟩ := Sm.wf_spec hwfL
  obtain ⟨_, hcalls⟩ := call_sound hE n f (s.atL bh L).args (s.atL bh L).start ls hls ⟨w, s.mem.length⟩ cL w hstart wargsL
  have hden : denL cL (s.atL bh L).args = denL c args := by
    rw [<- hI.args, hcs]
    simp only [Sm.atL, denL_map, List.map_map]
    refine List.map_congr_left fun v hv => ?_
    have ha := List.all_eq_true.1 hargs0 v hv
    have gen : ∀ v : SV, v.okb 0 s.mem.length = true -> v.den cL = v.den cs := fun v hv => SV.den_ext hx0 (SV.ok_of hv)
    simp only [Function.comp]
    unfold argOK at ha
    split at ha
    · rename_i b cp
      simp only [atLV, SV.den, IE.eval, if_true, Nat.add_zero, cL]
      congr 1
      omega
    · rename_i h'
      have : atLV L v = v := by
        unfold atLV
        split
        · rename_i b c; exact (h' b c rfl).elim
        · rfl
      rw [this]
      exact gen v ha
  rw [hden] at hcalls
  refine hcalls R fun v0 S0 hmem0 c' w' hled0 => ?_
  obtain ⟨v, S', hmem, hled, hv0⟩ := splitB_mem hmem0 hled0
  rw [<- hv0]
  obtain ⟨d, hd, hc⟩ := chkOuts_spec hrL (v, S') hmem
  obtain ⟨ot, hot, M, hMo, hnums, hnlen, hok⟩ := chkOut_raw hc
  simp only [Sm.atL, List.getElem?_map, Option.map_eq_some_iff] at hot
  obtain ⟨o, ho, rfl⟩ := hot
  have hom : o ∈ s.outs := List.mem_of_getElem? ho
  obtain ⟨r, hr, hone⟩ := optMap_mem h o hom
  have hgM : ∀ b, b < s.mem.length -> M.g b = (b, 0, none) := fun b hb => matchOut_idg hMo (by rw [hlen']; exact hb)
  unfold Sm.matchOut at hMo
  split at hMo
  · cases hMo
  rename_i m2 hm2
  split at hMo
  · cases hMo
  rename_i m3 hm3
  split at hMo
  · cases hMo
  rename_i m4 hm4
  split at hMo
  case isFalse => cases hMo
  rename_i hchk'
  simp only [Option.some.injEq] at hMo
  subst hMo
  simp only [Bool.and_eq_true, List.all_eq_true, Bool.or_eq_true, decide_eq_true_eq, List.any_eq_true, beq_iff_eq] at hchk'
  obtain ⟨⟨hbds', hwrs⟩, hnewchk⟩ := hchk'
  obtain ⟨p1, _, p3⟩ := matchSV_spec hm2
  obtain ⟨q1, q2⟩ := matchWr_spec hm3
  obtain ⟨n1, _, n3⟩ := matchMem_spec hm4
  rw [hlen'] at hwrs hnewchk n3
  rw [hnvL] at hnums hbds'
  let mf : Nat -> IE := fun i => if i = 0 then .const L else m4.f (i + L - 1)
  have hctx : (c'.sub m4.f m4.g).sub (renL L) gid = c'.sub mf m4.g := by
    unfold Ctx.sub
    simp only [gid, Nat.add_zero, Nat.sub_zero, Ctx.mk.injEq, and_true]
    funext i
    simp only [renL, mf]
    split
    · rfl
    · rfl
  have hρl : ∀ (i : Nat) x, l[i]? = some x -> c'.ρ i = x := fun i x hx => by
    have hi : i < L := by have := (List.getElem?_eq_some_iff.1 hx).1; omega
    rw [hled.ext.ρ i (by show i < (s.atL bh L).nv; omega)]
    simp [cL, hx]
  have hseen := Look.seen (X := X) hok hled.rep.bd (fun k hk => (hled.rep.cons k hk).2)
  have hβ0 : ∀ b, b < s.mem.length -> c'.β b = cs.β b := fun b hb => hled.ext.β b (by show b < (s.atL bh L).mem.length; omega)
  have ho0 : ∀ b, b < s.mem.length -> c'.o b = cs.o b := fun b hb => hled.ext.o b (by show b < (s.atL bh L).mem.length; omega)
  have hκ0 : ∀ b, b < s.mem.length -> c'.κ b = cs.κ b := fun b hb => hled.ext.κ b (by show b < (s.atL bh L).mem.length; omega)
  have hrep' : MRep X ⟨w, s.mem.length⟩ c' S' w' := hled.rep
  have hfin := sm_core (mf := mf) (mg := m4.g) (w' := w') (v := v) (S' := S') (c' := c') hI hM (wouts o hom) hrep' (fun b hb => by rw [hβ0 b hb, <- hcs]; rfl) (fun b hb => by rw [ho0 b hb, <- hcs]) (fun b hb => by rw [hκ0 b hb, <- hcs])
    (fun i hi => ?_) hgM ?_ (fun x hx => ?_) (fun j k hk => ?_) (fun i r hr => ?_) (fun b hb => ?_) (fun j k hk => ?_) (fun x hx => ?_) hone
  · obtain ⟨c1, h1, h2⟩ := hfin
    have := hR r.1 r.2 hr c1 w' h1
    rw [h2] at this
    exact this
  · have e : i = 0 := by omega
    subst e
    have : (m.f 0).eval c.ρ = cs.ρ 0 := by rw [<- hcs]; rfl
    rw [this, <- l4]; rfl
  · have := p3 c' m4 (q1.trans n1)
    rw [<- this]
    show _ = (o.val.subst (renL L) gid).den _
    rw [SV.den_subst, hctx]
  · have hx' : (x.1, substL (renL L) gid x.2) ∈ (o.ren L).writes := List.mem_map.2 ⟨x, hx, rfl⟩
    obtain ⟨k', k, e1, e2, e3, e4, e4', e5⟩ := q2 _ hx'
    simp only at e1 e2 e5
    rw [hmemL] at e2
    split at e2
    · simp only [Option.some.injEq] at e2
      subst e2
      cases e4'
    · refine ⟨k', k, e1, e2, e3, e4, e4', ?_⟩
      have := e5 c' m4 n1
      rw [denL_subst, hctx] at this
      exact this
  · have hk' : (o.ren L).news[j]? = some { k with cells := substL (renL L) gid k.cells } := by simp [SmO.ren, hk]
    obtain ⟨x, k', g1, g2, g3, g4, g5⟩ := n3 j _ hk'
    have hg : m4.g (s.mem.length + j) = x := by simp [Mt.g, g1]
    refine ⟨k', by rw [hg]; exact g2, ?_⟩
    have hb := g5 c' m4 w' (Mt.Le.refl _) (hled.rep.mem _ _ g2).2.2
    have hd : denL (c'.sub m4.f m4.g) (substL (renL L) gid k.cells) = denL (c'.sub mf m4.g) k.cells := by rw [denL_subst, hctx]
    have hle : (substL (renL L) gid k.cells).length = k.cells.length := by
      have := congrArg List.length hd
      simpa [denL_length] using this
    unfold blkRep at hb ⊢
    simp only at hb
    split
    · rename_i hf
      rw [if_pos hf] at hb
      rw [hd] at hb
      exact hb
    · rename_i hf
      rw [if_neg hf] at hb
      obtain ⟨b1, arr', ty', fr', b2, b3⟩ := hb
      refine ⟨by rw [<- hle]; exact b1, arr', ty', fr', b2, fun i v hv => ?_⟩
      have hi : i < (substL (renL L) gid k.cells).length := by rw [hle]; exact (List.getElem?_eq_some_iff.1 hv).1
      have e := congrArg (·[i]?) hd
      simp only [denL_map, List.getElem?_map] at e
      rw [hv, List.getElem?_eq_getElem hi] at e
      simp only [Option.map_some, Option.some.injEq] at e
      rw [<- e]
      exact b3 i _ (List.getElem?_eq_getElem hi)
  · have := allIdx_get hbds' i r hr
    simp only [Nat.zero_add] at this
    have := inBd_spec hled.rep.bd this
    rw [hnv]
    simp only [mf]
    rw [if_neg (by omega), show 1 + i + L - 1 = L + i by omega]
    exact this
  · rcases hwrs b hb with h | ⟨x, hx, hxb⟩
    · exact .inl h
    · obtain ⟨y, hy, rfl⟩ := List.mem_map.1 hx
      exact .inr ⟨y, hy, hxb⟩
  · have hk' : (o.ren L).news[j]? = some { k with cells := substL (renL L) gid k.cells } := by simp [SmO.ren, hk]
    have h0 := allIdx_get hnewchk.1 j _ hk'
    simp only [Nat.zero_add, Bool.and_eq_true, decide_eq_true_eq, Bool.not_eq_true'] at h0
    obtain ⟨h1, h2⟩ := h0
    refine ⟨h1, by simpa using h2, fun i k' hi hij e => ?_⟩
    have hi' : (o.ren L).news[i]? = some { k' with cells := substL (renL L) gid k'.cells } := by simp [SmO.ren, hi]
    exact hij ((distT_spec hnewchk.2).2 i j (List.getElem?_eq_some_iff.1 hi').1 (List.getElem?_eq_some_iff.1 hk').1 e.symm)
  · have := hp l l3 (by omega) (by omega) d (by rw [hLe]; exact hd) o ho c'.ρ hseen hρl x hx
    have hpo : ∀ e ∈ x.2, e.okb (s.nv + o.nr) = true := by
      have := wouts o hom
      simp only [SmO.wf, okbLF_eq, Bool.and_eq_true, List.all_eq_true] at this
      exact fun e he => this.1.2 x hx e he
    rw [List.map_congr_left fun e he => ?_]
    · exact this
    · refine IE.eval_ext (n := s.nv + o.nr) (fun i hi => ?_) (IE.ok_of (hpo e he))
      simp only [mf]
      by_cases hi0 : i = 0
      · rw [if_pos hi0, if_pos hi0, hLe]; rfl
      · rw [if_neg hi0, if_neg hi0]
        have hj : i - 1 < d.2.nums.length := by rw [hnlen]; show i - 1 < o.nr; omega
        have := hnums (i - 1) _ (List.getElem?_eq_getElem hj)
        rw [show L + (i - 1) = i + L - 1 by omega] at this
        rw [this, List.getElem?_eq_getElem hj]; rfl
end
def toB : Nat -> Int -> List Int
  | 0, _ => []
  | k + 1, x => toB k (x / 256) ++ [x % 256]
def gX : Int := 19277929113566293071110308034699488026831934219452440156649784352033
def gY : Int := 19926808758034470970197974370888749184205991990603949537637343198772
def verM (o1 o2 : Option (Int × Int)) (r : Int) : Bool :=
  match o1, o2 with
  | none, none => false
  | none, some (x, _) => x % n224 == r
  | some (x, _), none => x % n224 == r
  | some (x, y), some (x', y') => match sumF x y x' y' with
    | none => false
    | some (x, _) => x % n224 == r
def verF (qx qy : Int) (rs ss hs : List Int) : Bool :=
  if (bn rs ≠ 0 /\ bn rs < n224) /\ (bn ss ≠ 0 /\ bn ss < n224) then
    verM (multF gX gY (toB 28 (((bn hs % n224) * (ipw (bn ss) nm2 % n224)) % n224))) (multF qx qy (toB 28 ((bn rs * (ipw (bn ss) nm2 % n224)) % n224))) (bn rs)
  else false
def HashP (hs l : List Int) : Prop := wok l 0 /\ wv l 0 = bn (hs.take 28) % n224
def VerP (hs l : List Int) : Prop := (nth l 70 = 0 \/ nth l 70 = 1) /\ (nth l 70 = 1 ↔ verF (wv l 0) (wv l 7) ((l.drop 14).take 28) ((l.drop 42).take 28) (hs.take 28) = true)
structure FU (X : Tk) (hs : List Int) : Prop extends FV X where
  long : ∀ l, X 57 l -> l = hs
  hby : ∀ x ∈ hs, 0 <= x /\ x <= 255
  hash : ∀ l, X 54 l ↔ HashP hs l
  ver : ∀ l, X 55 l ↔ VerP hs l
theorem toB_length : ∀ (k : Nat) (x : Int), (toB k x).length = k
  | 0, _ => rfl
  | k + 1, x => by rw [toB, List.length_append, toB_length k]; rfl
theorem bn_snoc (l : List Int) (x : Int) : bn (l ++ [x]) = bn l * 256 + x := by simp [bn, List.foldl_append]
theorem toB_bn : ∀ (k : Nat) (l : List Int), l.length = k -> (∀ x ∈ l, byteOK x) -> toB k (bn l) = l
  | 0, l, h, _ => by rw [List.length_eq_zero_iff.1 h]; rfl
  | k + 1, l, h, hb => by
    rcases List.eq_nil_or_concat l with rfl | ⟨l', x, rfl⟩
    · cases h
    · rw [List.concat_eq_append] at h hb ⊢
      have hl : l'.length = k := by simp at h; exact h
      have hx : byteOK x := hb x (by simp)
      have e1 : (bn (l' ++ [x])) / 256 = bn l' := by rw [bn_snoc]; unfold byteOK at hx; omega
      have e2 : (bn (l' ++ [x])) % 256 = x := by rw [bn_snoc]; unfold byteOK at hx; omega
      rw [toB, e1, e2, toB_bn k l' hl fun y hy => hb y (by simp [hy])]
theorem bn_zeros (k : Nat) (l : List Int) : bn (List.replicate k 0 ++ l) = bn l := by
  unfold bn
  rw [List.foldl_append]
  congr 1
  induction k with
  | zero => rfl
  | succ k ih => rw [List.replicate_succ, List.foldl_cons]; exact ih
def hashS : Sm := { bd := [(1, 200)], args := [curveV 0, .lslice true 1 0 (.var 0) 0], mem := [foldsB, ⟨5, [], false⟩], al := [1], lens := [(1, 0)], outs := [{ nbd := List.replicate 7 W32, val := .view 2 0 7, writes := [], news := [elB 1], post := [(54, vars 1 7)] }] }
def verS : Sm := { bd := List.replicate 14 W32 ++ List.replicate 56 (0, 255) ++ [(1, 200)], args := [curveV 0, .agg [.bool false, .view 1 0 7, .view 2 0 7], .lslice true 5 0 (.var 70) 0, .view 3 0 28, .view 4 0 28], mem := [foldsB, elB 0, elB 7, byB 14, byB 42, ⟨5, [], false⟩], al := [1, 2, 3, 4, 5], lens := [(5, 70)], outs := [{ nbd := [(0, 1)], val := .bexp (.cmp .eql (.var 71) (.const 1)), writes := [], news := [], post := [(55, vars 0 70 ++ [.var 71])] }] }
def hb (L : Nat) : List IE := List.replicate (28 - L) (.const 0) ++ vars 0 (min L 28)
def hl (L : Nat) (ρ : Nat -> Int) : List Int := (List.range (min L 28)).map ρ
def hashD (L b : Nat) : Look := ⟨vars b 7, [], [.ext 49 (hb L ++ vars L 7), .ext 50 (vars L 7 ++ vars b 7)], []⟩
theorem vars_eval (ρ : Nat -> Int) (i n : Nat) : (vars i n).map (IE.eval ρ) = (List.range n).map fun j => ρ (i + j) := by
  simp [vars, List.map_map, Function.comp_def, IE.eval]
theorem vars7_eval (ρ : Nat -> Int) (i : Nat) : (vars i 7).map (IE.eval ρ) = W7 ρ i := by rw [vars_eval]; rfl
section
variable {X : Tk}
theorem hash_end {hs : List Int} (h : FU X hs) {L b : Nat} (hlen : hs.length = L) {ρ : Nat -> Int} (hS : Seen X (hashD L b) ρ) (hρ : ∀ (i : Nat) x, hs[i]? = some x -> ρ i = x) :
    HashP hs ((vars b 7).map (IE.eval ρ)) := by
  have ehl : Go.Vm.hl L ρ = hs.take 28 := by
    apply List.ext_getElem?
    intro i
    unfold Go.Vm.hl
    rw [List.getElem?_map, List.getElem?_take]
    by_cases hi : i < min L 28
    · rw [List.getElem?_range hi, if_pos (by omega), List.getElem?_eq_getElem (by omega)]
      simp only [Option.map_some]
      rw [hρ i _ (List.getElem?_eq_getElem (by omega))]
    · rw [List.getElem?_eq_none (by simp; omega)]
      simp only [Option.map_none]
      split
      · rw [List.getElem?_eq_none (by omega)]
      · rfl
  have t0 : X 49 ((List.replicate (28 - L) 0 ++ Go.Vm.hl L ρ) ++ W7 ρ L) := tok (hS.ks (.ext 49 (hb L ++ vars L 7)) (by simp [hashD])) (by
    rw [List.map_append, vars7_eval, hb, List.map_append, List.map_replicate, vars_eval]
    simp [Go.Vm.hl, IE.eval])
  have t1 : X 50 (W7 ρ L ++ W7 ρ b) := tok (hS.ks (.ext 50 (vars L 7 ++ vars b 7)) (by simp [hashD])) (by rw [List.map_append, vars7_eval, vars7_eval])
  have q0 := num_of h.toFV (by simp [Go.Vm.hl]; omega) rfl t0
  have q1 := ordRest_of h.toFV rfl rfl t1
  rw [bn_zeros, ehl] at q0
  rw [vars7_eval]
  exact ⟨q1.1, by rw [q1.2, q0.2]⟩
end
end Go.Vm
namespace Go.Proofs.YtmogojlijkddpaaGreat
open Go.Vm
variable {X : Tk}
def hashC (a n : Nat) : Bool := (List.range n).all fun i => chkFn (execCall ER2 3000 19 (hashS.atL 1 (a + i)).args (hashS.atL 1 (a + i)).start) (hashS.atL 1 (a + i)) [(0, hashD (a + i) (a + i)), (0, hashD (a + i) (a + i + 7))]
theorem hash_chk0 : hashC 1 10 = true := by kernel_rfl
theorem hash_chk1 : hashC 11 10 = true := by kernel_rfl
theorem hash_chk2 : hashC 21 10 = true := by kernel_rfl
theorem hash_chk3 : hashC 31 10 = true := by kernel_rfl
theorem hash_chk4 : hashC 41 10 = true := by kernel_rfl
theorem hash_chk5 : hashC 51 10 = true := by kernel_rfl
theorem hash_chk6 : hashC 61 10 = true := by kernel_rfl
theorem hash_chk7 : hashC 71 10 = true := by kernel_rfl
theorem hash_chk8 : hashC 81 10 = true := by kernel_rfl
theorem hash_chk9 : hashC 91 10 = true := by kernel_rfl
theorem hash_chk10 : hashC 101 10 = true := by kernel_rfl
theorem hash_chk11 : hashC 111 10 = true := by kernel_rfl
theorem hash_chk12 : hashC 121 10 = true := by kernel_rfl
theorem hash_chk13 : hashC 131 10 = true := by kernel_rfl
theorem hash_chk14 : hashC 141 10 = true := by kernel_rfl
theorem hash_chk15 : hashC 151 10 = true := by kernel_rfl
theorem hash_chk16 : hashC 161 10 = true := by kernel_rfl
theorem hash_chk17 : hashC 171 10 = true := by kernel_rfl
theorem hash_chk18 : hashC 181 10 = true := by kernel_rfl
theorem hash_chk19 : hashC 191 10 = true := by kernel_rfl
theorem hashC_spec {a n L : Nat} (h : hashC a n = true) (h1 : a <= L) (h2 : L < a + n) : chkFn (execCall ER2 3000 19 (hashS.atL 1 L).args (hashS.atL 1 L).start) (hashS.atL 1 L) [(0, hashD L L), (0, hashD L (L + 7))] = true := by
  have hc := List.all_eq_true.1 h (L - a) (List.mem_range.2 (by omega))
  rw [show a + (L - a) = L from by omega] at hc
  exact hc
theorem hash_chk {L : Nat} (h1 : 1 <= L) (h2 : L <= 200) : chkFn (execCall ER2 3000 19 (hashS.atL 1 L).args (hashS.atL 1 L).start) (hashS.atL 1 L) [(0, hashD L L), (0, hashD L (L + 7))] = true := by
  rcases (by omega : (1 <= L /\ L < 11) \/ (11 <= L /\ L < 21) \/ (21 <= L /\ L < 31) \/ (31 <= L /\ L < 41) \/ (41 <= L /\ L < 51) \/ (51 <= L /\ L < 61) \/ (61 <= L /\ L < 71) \/ (71 <= L /\ L < 81) \/ (81 <= L /\ L < 91) \/ (91 <= L /\ L < 101) \/ (101 <= L /\ L < 111) \/ (111 <= L /\ L < 121) \/ (121 <= L /\ L < 131) \/ (131 <= L /\ L < 141) \/ (141 <= L /\ L < 151) \/ (151 <= L /\ L < 161) \/ (161 <= L /\ L < 171) \/ (171 <= L /\ L < 181) \/ (181 <= L /\ L < 191) \/ (191 <= L /\ L < 201)) with h | h | h | h | h | h | h | h | h | h | h | h | h | h | h | h | h | h | h | h
  · exact hashC_spec hash_chk0 h.1 h.2
  · exact hashC_spec hash_chk1 h.1 h.2
  · exact hashC_spec hash_chk2 h.1 h.2
  · exact hashC_spec hash_chk3 h.1 h.2
  · exact hashC_spec hash_chk4 h.1 h.2
  · exact hashC_spec hash_chk5 h.1 h.2
  · exact hashC_spec hash_chk6 h.1 h.2
  · exact hashC_spec hash_chk7 h.1 h.2
  · exact hashC_spec hash_chk8 h.1 h.2
  · exact hashC_spec hash_chk9 h.1 h.2
  · exact hashC_spec hash_chk10 h.1 h.2
  · exact hashC_spec hash_chk11 h.1 h.2
  · exact hashC_spec hash_chk12 h.1 h.2
  · exact hashC_spec hash_chk13 h.1 h.2
  · exact hashC_spec hash_chk14 h.1 h.2
  · exact hashC_spec hash_chk15 h.1 h.2
  · exact hashC_spec hash_chk16 h.1 h.2
  · exact hashC_spec hash_chk17 h.1 h.2
  · exact hashC_spec hash_chk18 h.1 h.2
  · exact hashC_spec hash_chk19 h.1 h.2
theorem hash_ok {hs : List Int} (h : FU X hs) : SpecOK Tryz.prog X 19 hashS.spec := by
  refine long_fn (lo := 1) (hi := 200) (bh := 1) (ER2_ok h.toFV) (by kernel_rfl) rfl (fun l hl => by rw [h.long l hl]; exact h.hby) (fun L => [(0, hashD L L), (0, hashD L (L + 7))]) (fun L h1 h2 => hash_chk h1 h2)
    fun l hl h1 h2 d hd o ho ρ hS hρ x hx => ?_
  obtain rfl := h.long l hl
  have key : ∀ b, d = (0, hashD l.length b) -> X x.1 (x.2.map (·.eval (fun i => if i = 0 then (l.length : Int) else ((d.2.nums[i - 1]?).getD (.const 0)).eval ρ))) := fun b e => by
    subst e
    have ho : hashS.outs[0]? = some o := ho
    simp only [hashS, List.getElem?_cons_zero, Option.some.injEq] at ho
    subst ho
    simp only [List.mem_singleton] at hx
    subst hx
    refine (h.hash _).2 ?_
    have := hash_end h (L := l.length) rfl hS hρ
    exact this
  simp only [List.mem_cons, List.not_mem_nil, or_false] at hd
  rcases hd with e | e
  · exact key _ e
  · exact key _ e
end Go.Proofs.YtmogojlijkddpaaGreat
end
