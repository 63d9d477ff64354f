/- The proof of laws.FnP224Verify, text 9 of 36. Conditions: none. -/
import Derived.Test.YtmogojlijkddpaaGreatT07
noncomputable section

set_option maxRecDepth 100000
namespace Go.Proofs.YtmogojlijkddpaaGreat
open Go.Vm
variable {X : Tk}
def specI (f : FuncId) : Option (Fs) := match f with | 36 => some sumBelowS.spec | f => specH f
theorem specI_ok (h : FY X) : ∀ f sp, specI f = some sp -> FnOK Tryz.prog f /\ SpecOK Tryz.prog X f sp := fun f sp hs => by
  unfold specI at hs
  split at hs
  · simp only [Option.some.injEq] at hs; subst hs
    exact ⟨fn_ok Tryz.func36 (by kernel_rfl) (by kernel_rfl), sb_ok h⟩
  · exact specH_ok h.toFX _ _ hs
def EI : Env := mkEnv Tryz.prog tyTree fnTree ext0 specI
theorem EI_ok (h : FY X) : EnvOK Tryz.prog X EI := mkEnv_ok mixed_ok tys_ok fns_ok names_ok ext0_ok (specI_ok h)
def b22 : List (Nat × Int × Int) := (List.range 21).map fun i => (i, W32)
theorem b22_spec {L : Look} {ρ : Nat -> Int} (h : Seen X L ρ) (e : ∀ b ∈ b22, b ∈ L.bds) : ∀ i, i < 21 -> wd (ρ i) := fun i hi => h.bds (i, W32) (e _ (List.mem_map.2 ⟨i, by simpa using hi, rfl⟩))
def b22L : Look -> Bool := fun L => (L.bds.take 21 == b22)
theorem wok_of {ρ : Nat -> Int} {l : List Int} {i b : Nat} (h : ∀ i, i < 21 -> wd (ρ i)) (hb : b + 6 < 21) (e0 : nth l i = ρ b) (e1 : nth l (i + 1) = ρ (b + 1)) (e2 : nth l (i + 2) = ρ (b + 2)) (e3 : nth l (i + 3) = ρ (b + 3)) (e4 : nth l (i + 4) = ρ (b + 4)) (e5 : nth l (i + 5) = ρ (b + 5)) (e6 : nth l (i + 6) = ρ (b + 6)) : wok l i := by
  unfold wok
  rw [e0, e1, e2, e3, e4, e5, e6]
  exact ⟨h b (by omega), h (b + 1) (by omega), h (b + 2) (by omega), h (b + 3) (by omega), h (b + 4) (by omega), h (b + 5) (by omega), h (b + 6) (by omega)⟩
def powK1 : List Con := [.test (.cmp .geq (.var 21) (.const 0)) true, .ext 25 (vars 14 7 ++ vars 14 7 ++ vars 22 7), .test (.cmp .eql (bitIE 7 21) (.const 1)) true, .ext 25 (vars 22 7 ++ vars 0 7 ++ vars 29 7), .eq 36 (.sub (.var 21) (.const 1))]
def powK2 : List Con := [.test (.cmp .geq (.var 21) (.const 0)) true, .ext 25 (vars 14 7 ++ vars 14 7 ++ vars 22 7), .test (.cmp .eql (bitIE 7 21) (.const 1)) false, .eq 29 (.sub (.var 21) (.const 1))]
def powB : List (Nat × Int × Int) := b22 ++ [(21, (0, 223))]
def powDs : List RoundD :=
  [.go (vars 0 14 ++ vars 29 7 ++ [.var 36]) ⟨[], powB, powK1, []⟩ [(1, ⟨vars 29 7, powB, .ext 30 (vars 0 14 ++ vars 29 7 ++ [.var 36] ++ vars 29 7) :: powK1, []⟩), (1, ⟨vars 37 7, powB, .ext 30 (vars 0 14 ++ vars 29 7 ++ [.var 36] ++ vars 37 7) :: powK1, []⟩)],
   .go (vars 0 14 ++ vars 22 7 ++ [.var 29]) ⟨[], powB, powK2, []⟩ [(1, ⟨vars 22 7, powB, .ext 30 (vars 0 14 ++ vars 22 7 ++ [.var 29] ++ vars 22 7) :: powK2, []⟩), (1, ⟨vars 30 7, powB, .ext 30 (vars 0 14 ++ vars 22 7 ++ [.var 29] ++ vars 30 7) :: powK2, []⟩)],
   .stop 0 ⟨[], b22 ++ [(21, (-1, 223))], [.test (.cmp .geq (.var 21) (.const 0)) false], []⟩]
theorem pow_chk : chkLoop (exec EI 3000 (fun _ => none) (loopIn Tryz.f56 0) powL.start) powL powDs = true := by kernel_rfl
def powM (ρ : Nat -> Int) : Nat := (ρ 21 + 1).toNat
theorem pow_end1 (h : FY X) {L : Look} {ρ : Nat -> Int} (hs : Seen X L ρ) (hB : ∀ b ∈ powB, b ∈ L.bds) (hK : ∀ k ∈ powK1, k ∈ L.ks) {r : List Int} (hr : r.length = 7) (ht : X 30 ([ρ 0, ρ 1, ρ 2, ρ 3, ρ 4, ρ 5, ρ 6, ρ 7, ρ 8, ρ 9, ρ 10, ρ 11, ρ 12, ρ 13, ρ 29, ρ 30, ρ 31, ρ 32, ρ 33, ρ 34, ρ 35, ρ 36] ++ r)) : X 30 ([ρ 0, ρ 1, ρ 2, ρ 3, ρ 4, ρ 5, ρ 6, ρ 7, ρ 8, ρ 9, ρ 10, ρ 11, ρ 12, ρ 13, ρ 14, ρ 15, ρ 16, ρ 17, ρ 18, ρ 19, ρ 20, ρ 21] ++ r) := by
  obtain ⟨r0, r1, r2, r3, r4, r5, r6, rfl⟩ : ∃ r0 r1 r2 r3 r4 r5 r6, r = [r0, r1, r2, r3, r4, r5, r6] := by
    match r, hr with
    | [r0, r1, r2, r3, r4, r5, r6], _ => exact ⟨r0, r1, r2, r3, r4, r5, r6, rfl⟩
  simp only [List.cons_append, List.nil_append] at ht ⊢
  have hw : ∀ i, i < 21 -> wd (ρ i) := b22_spec hs fun b hb => hB b (List.mem_append_left _ hb)
  have hi := hs.bds (21, (0, 223)) (hB _ (by simp [powB]))
  simp only at hi
  have t1 := (h.times _).1 (tok (hs.ks _ (hK (.ext 25 (vars 14 7 ++ vars 14 7 ++ vars 22 7)) (by simp [powK1]))) (l := [ρ 14, ρ 15, ρ 16, ρ 17, ρ 18, ρ 19, ρ 20, ρ 14, ρ 15, ρ 16, ρ 17, ρ 18, ρ 19, ρ 20, ρ 22, ρ 23, ρ 24, ρ 25, ρ 26, ρ 27, ρ 28]) (by kernel_rfl))
  have t2 := (h.times _).1 (tok (hs.ks _ (hK (.ext 25 (vars 22 7 ++ vars 0 7 ++ vars 29 7)) (by simp [powK1]))) (l := [ρ 22, ρ 23, ρ 24, ρ 25, ρ 26, ρ 27, ρ 28, ρ 0, ρ 1, ρ 2, ρ 3, ρ 4, ρ 5, ρ 6, ρ 29, ρ 30, ρ 31, ρ 32, ρ 33, ρ 34, ρ 35]) (by kernel_rfl))
  have tb := hs.ks _ (hK (.test (.cmp .eql (bitIE 7 21) (.const 1)) true) (by simp [powK1]))
  have te := hs.ks _ (hK (.eq 36 (.sub (.var 21) (.const 1))) (by simp [powK1]))
  simp only [Con.holds, BE.eval, intCmp] at tb te
  rw [bit_spec ⟨hw 7 (by decide), hw 8 (by decide), hw 9 (by decide), hw 10 (by decide), hw 11 (by decide), hw 12 (by decide), hw 13 (by decide)⟩ hi] at tb
  simp only [IE.eval, beq_iff_eq] at tb te
  have hE := (wv_range (l := [ρ 7, ρ 8, ρ 9, ρ 10, ρ 11, ρ 12, ρ 13]) (i := 0) ⟨hw 7 (by decide), hw 8 (by decide), hw 9 (by decide), hw 10 (by decide), hw 11 (by decide), hw 12 (by decide), hw 13 (by decide)⟩).1
  obtain ⟨m, hm⟩ : ∃ m : Nat, ρ 21 = (m : Int) := Int.eq_ofNat_of_zero_le hi.1
  have hm1 : (ρ 21 + 1).toNat = m + 1 := by omega
  have hm0 : (ρ 36 + 1).toNat = m := by omega
  have hmm : (ρ 21).toNat = m := by omega
  have hbt := bit_top hE m
  rw [hmm] at tb
  have hbit : ((wv [ρ 7, ρ 8, ρ 9, ρ 10, ρ 11, ρ 12, ρ 13] 0 / 2 ^ m) % 2).toNat = 1 := by
    rw [tb]; rfl
  rw [hbit] at hbt
  have q := (h.powL _).1 ht
  refine (h.powL _).2 ?_
  obtain ⟨q1, q2, q3⟩ := q
  obtain ⟨m1, e1⟩ := t1
  obtain ⟨m2, e2⟩ := t2
  have f1 : wv [ρ 0, ρ 1, ρ 2, ρ 3, ρ 4, ρ 5, ρ 6, ρ 7, ρ 8, ρ 9, ρ 10, ρ 11, ρ 12, ρ 13, ρ 29, ρ 30, ρ 31, ρ 32, ρ 33, ρ 34, ρ 35, ρ 36, r0, r1, r2, r3, r4, r5, r6] 22 = wv [r0, r1, r2, r3, r4, r5, r6] 0 := rfl
  have f1' : wv [ρ 0, ρ 1, ρ 2, ρ 3, ρ 4, ρ 5, ρ 6, ρ 7, ρ 8, ρ 9, ρ 10, ρ 11, ρ 12, ρ 13, ρ 14, ρ 15, ρ 16, ρ 17, ρ 18, ρ 19, ρ 20, ρ 21, r0, r1, r2, r3, r4, r5, r6] 22 = wv [r0, r1, r2, r3, r4, r5, r6] 0 := rfl
  have f2 : wv [ρ 0, ρ 1, ρ 2, ρ 3, ρ 4, ρ 5, ρ 6, ρ 7, ρ 8, ρ 9, ρ 10, ρ 11, ρ 12, ρ 13, ρ 29, ρ 30, ρ 31, ρ 32, ρ 33, ρ 34, ρ 35, ρ 36, r0, r1, r2, r3, r4, r5, r6] 14 = wv [ρ 29, ρ 30, ρ 31, ρ 32, ρ 33, ρ 34, ρ 35] 0 := rfl
  have f2' : wv [ρ 0, ρ 1, ρ 2, ρ 3, ρ 4, ρ 5, ρ 6, ρ 7, ρ 8, ρ 9, ρ 10, ρ 11, ρ 12, ρ 13, ρ 14, ρ 15, ρ 16, ρ 17, ρ 18, ρ 19, ρ 20, ρ 21, r0, r1, r2, r3, r4, r5, r6] 14 = wv [ρ 14, ρ 15, ρ 16, ρ 17, ρ 18, ρ 19, ρ 20] 0 := rfl
  have f3 : wv [ρ 0, ρ 1, ρ 2, ρ 3, ρ 4, ρ 5, ρ 6, ρ 7, ρ 8, ρ 9, ρ 10, ρ 11, ρ 12, ρ 13, ρ 29, ρ 30, ρ 31, ρ 32, ρ 33, ρ 34, ρ 35, ρ 36, r0, r1, r2, r3, r4, r5, r6] 0 = wv [ρ 0, ρ 1, ρ 2, ρ 3, ρ 4, ρ 5, ρ 6] 0 := rfl
  have f3' : wv [ρ 0, ρ 1, ρ 2, ρ 3, ρ 4, ρ 5, ρ 6, ρ 7, ρ 8, ρ 9, ρ 10, ρ 11, ρ 12, ρ 13, ρ 14, ρ 15, ρ 16, ρ 17, ρ 18, ρ 19, ρ 20, ρ 21, r0, r1, r2, r3, r4, r5, r6] 0 = wv [ρ 0, ρ 1, ρ 2, ρ 3, ρ 4, ρ 5, ρ 6] 0 := rfl
  have f4 : wv [ρ 0, ρ 1, ρ 2, ρ 3, ρ 4, ρ 5, ρ 6, ρ 7, ρ 8, ρ 9, ρ 10, ρ 11, ρ 12, ρ 13, ρ 29, ρ 30, ρ 31, ρ 32, ρ 33, ρ 34, ρ 35, ρ 36, r0, r1, r2, r3, r4, r5, r6] 7 = wv [ρ 7, ρ 8, ρ 9, ρ 10, ρ 11, ρ 12, ρ 13] 0 := rfl
  have f4' : wv [ρ 0, ρ 1, ρ 2, ρ 3, ρ 4, ρ 5, ρ 6, ρ 7, ρ 8, ρ 9, ρ 10, ρ 11, ρ 12, ρ 13, ρ 14, ρ 15, ρ 16, ρ 17, ρ 18, ρ 19, ρ 20, ρ 21, r0, r1, r2, r3, r4, r5, r6] 7 = wv [ρ 7, ρ 8, ρ 9, ρ 10, ρ 11, ρ 12, ρ 13] 0 := rfl
  have f5 : nth [ρ 0, ρ 1, ρ 2, ρ 3, ρ 4, ρ 5, ρ 6, ρ 7, ρ 8, ρ 9, ρ 10, ρ 11, ρ 12, ρ 13, ρ 29, ρ 30, ρ 31, ρ 32, ρ 33, ρ 34, ρ 35, ρ 36, r0, r1, r2, r3, r4, r5, r6] 21 = ρ 36 := rfl
  have f5' : nth [ρ 0, ρ 1, ρ 2, ρ 3, ρ 4, ρ 5, ρ 6, ρ 7, ρ 8, ρ 9, ρ 10, ρ 11, ρ 12, ρ 13, ρ 14, ρ 15, ρ 16, ρ 17, ρ 18, ρ 19, ρ 20, ρ 21, r0, r1, r2, r3, r4, r5, r6] 21 = ρ 21 := rfl
  have g1 : wv [ρ 14, ρ 15, ρ 16, ρ 17, ρ 18, ρ 19, ρ 20, ρ 14, ρ 15, ρ 16, ρ 17, ρ 18, ρ 19, ρ 20, ρ 22, ρ 23, ρ 24, ρ 25, ρ 26, ρ 27, ρ 28] 14 = wv [ρ 22, ρ 23, ρ 24, ρ 25, ρ 26, ρ 27, ρ 28] 0 := rfl
  have g2 : wv [ρ 14, ρ 15, ρ 16, ρ 17, ρ 18, ρ 19, ρ 20, ρ 14, ρ 15, ρ 16, ρ 17, ρ 18, ρ 19, ρ 20, ρ 22, ρ 23, ρ 24, ρ 25, ρ 26, ρ 27, ρ 28] 0 = wv [ρ 14, ρ 15, ρ 16, ρ 17, ρ 18, ρ 19, ρ 20] 0 := rfl
  have g3 : wv [ρ 14, ρ 15, ρ 16, ρ 17, ρ 18, ρ 19, ρ 20, ρ 14, ρ 15, ρ 16, ρ 17, ρ 18, ρ 19, ρ 20, ρ 22, ρ 23, ρ 24, ρ 25, ρ 26, ρ 27, ρ 28] 7 = wv [ρ 14, ρ 15, ρ 16, ρ 17, ρ 18, ρ 19, ρ 20] 0 := rfl
  rw [g1, g2, g3] at e1
  have g4 : wv [ρ 22, ρ 23, ρ 24, ρ 25, ρ 26, ρ 27, ρ 28, ρ 0, ρ 1, ρ 2, ρ 3, ρ 4, ρ 5, ρ 6, ρ 29, ρ 30, ρ 31, ρ 32, ρ 33, ρ 34, ρ 35] 14 = wv [ρ 29, ρ 30, ρ 31, ρ 32, ρ 33, ρ 34, ρ 35] 0 := rfl
  have g5 : wv [ρ 22, ρ 23, ρ 24, ρ 25, ρ 26, ρ 27, ρ 28, ρ 0, ρ 1, ρ 2, ρ 3, ρ 4, ρ 5, ρ 6, ρ 29, ρ 30, ρ 31, ρ 32, ρ 33, ρ 34, ρ 35] 0 = wv [ρ 22, ρ 23, ρ 24, ρ 25, ρ 26, ρ 27, ρ 28] 0 := rfl
  have g6 : wv [ρ 22, ρ 23, ρ 24, ρ 25, ρ 26, ρ 27, ρ 28, ρ 0, ρ 1, ρ 2, ρ 3, ρ 4, ρ 5, ρ 6, ρ 29, ρ 30, ρ 31, ρ 32, ρ 33, ρ 34, ρ 35] 7 = wv [ρ 0, ρ 1, ρ 2, ρ 3, ρ 4, ρ 5, ρ 6] 0 := rfl
  rw [g4, g5, g6] at e2
  rw [f1, f2] at q2
  rw [f1, f2, f3, f4, f5, hm0] at q3
  have ho2 : wv [ρ 29, ρ 30, ρ 31, ρ 32, ρ 33, ρ 34, ρ 35] 0 % p224 = (wv [ρ 14, ρ 15, ρ 16, ρ 17, ρ 18, ρ 19, ρ 20] 0 * wv [ρ 14, ρ 15, ρ 16, ρ 17, ρ 18, ρ 19, ρ 20] 0 * ipw (wv [ρ 0, ρ 1, ρ 2, ρ 3, ρ 4, ρ 5, ρ 6] 0) 1) % p224 := by
    rw [e2, e1, show ipw (wv [ρ 0, ρ 1, ρ 2, ρ 3, ρ 4, ρ 5, ρ 6] 0) 1 = wv [ρ 0, ρ 1, ρ 2, ρ 3, ρ 4, ρ 5, ρ 6] 0 from by rw [ipw_succ, ipw_zero, Int.one_mul], Int.emod_emod_of_dvd _ (Int.dvd_refl _), Int.mul_emod, Int.emod_emod_of_dvd _ (Int.dvd_refl _), <- Int.mul_emod]
  have hlt : wv [ρ 29, ρ 30, ρ 31, ρ 32, ρ 33, ρ 34, ρ 35] 0 < p224 := by
    rw [e2]
    exact Int.emod_lt_of_pos _ (by decide)
  refine ⟨q1, fun _ => by rw [f1']; exact q2 hlt, ?_⟩
  rw [f1', f2', f3', f4', f5', hm1]
  exact pow_step ho2 q3 hbt (by decide)
theorem pow_end0 (h : FY X) {L : Look} {ρ : Nat -> Int} (hs : Seen X L ρ) (hB : ∀ b ∈ powB, b ∈ L.bds) (hK : ∀ k ∈ powK2, k ∈ L.ks) {r : List Int} (hr : r.length = 7) (ht : X 30 ([ρ 0, ρ 1, ρ 2, ρ 3, ρ 4, ρ 5, ρ 6, ρ 7, ρ 8, ρ 9, ρ 10, ρ 11, ρ 12, ρ 13, ρ 22, ρ 23, ρ 24, ρ 25, ρ 26, ρ 27, ρ 28, ρ 29] ++ r)) : X 30 ([ρ 0, ρ 1, ρ 2, ρ 3, ρ 4, ρ 5, ρ 6, ρ 7, ρ 8, ρ 9, ρ 10, ρ 11, ρ 12, ρ 13, ρ 14, ρ 15, ρ 16, ρ 17, ρ 18, ρ 19, ρ 20, ρ 21] ++ r) := by
  obtain ⟨r0, r1, r2, r3, r4, r5, r6, rfl⟩ : ∃ r0 r1 r2 r3 r4 r5 r6, r = [r0, r1, r2, r3, r4, r5, r6] := by
    match r, hr with
    | [r0, r1, r2, r3, r4, r5, r6], _ => exact ⟨r0, r1, r2, r3, r4, r5, r6, rfl⟩
  simp only [List.cons_append, List.nil_append] at ht ⊢
  have hw : ∀ i, i < 21 -> wd (ρ i) := b22_spec hs fun b hb => hB b (List.mem_append_left _ hb)
  have hi := hs.bds (21, (0, 223)) (hB _ (by simp [powB]))
  simp only at hi
  have t1 := (h.times _).1 (tok (hs.ks _ (hK (.ext 25 (vars 14 7 ++ vars 14 7 ++ vars 22 7)) (by simp [powK2]))) (l := [ρ 14, ρ 15, ρ 16, ρ 17, ρ 18, ρ 19, ρ 20, ρ 14, ρ 15, ρ 16, ρ 17, ρ 18, ρ 19, ρ 20, ρ 22, ρ 23, ρ 24, ρ 25, ρ 26, ρ 27, ρ 28]) (by kernel_rfl))
  have tb := hs.ks _ (hK (.test (.cmp .eql (bitIE 7 21) (.const 1)) false) (by simp [powK2]))
  have te := hs.ks _ (hK (.eq 29 (.sub (.var 21) (.const 1))) (by simp [powK2]))
  simp only [Con.holds, BE.eval, intCmp] at tb te
  rw [bit_spec ⟨hw 7 (by decide), hw 8 (by decide), hw 9 (by decide), hw 10 (by decide), hw 11 (by decide), hw 12 (by decide), hw 13 (by decide)⟩ hi] at tb
  simp only [IE.eval, beq_eq_false_iff_ne, ne_eq] at tb te
  have hE := (wv_range (l := [ρ 7, ρ 8, ρ 9, ρ 10, ρ 11, ρ 12, ρ 13]) (i := 0) ⟨hw 7 (by decide), hw 8 (by decide), hw 9 (by decide), hw 10 (by decide), hw 11 (by decide), hw 12 (by decide), hw 13 (by decide)⟩).1
  obtain ⟨m, hm⟩ : ∃ m : Nat, ρ 21 = (m : Int) := Int.eq_ofNat_of_zero_le hi.1
  have hm1 : (ρ 21 + 1).toNat = m + 1 := by omega
  have hm0 : (ρ 29 + 1).toNat = m := by omega
  have hmm : (ρ 21).toNat = m := by omega
  have hbt := bit_top hE m
  rw [hmm] at tb
  have hbit : ((wv [ρ 7, ρ 8, ρ 9, ρ 10, ρ 11, ρ 12, ρ 13] 0 / 2 ^ m) % 2).toNat = 0 := by
    rcases Int.emod_two_eq (wv [ρ 7, ρ 8, ρ 9, ρ 10, ρ 11, ρ 12, ρ 13] 0 / 2 ^ m) with h0 | h0
    · rw [h0]; rfl
    · exact absurd h0 tb
  rw [hbit] at hbt
  have q := (h.powL _).1 ht
  refine (h.powL _).2 ?_
  obtain ⟨q1, q2, q3⟩ := q
  obtain ⟨m1, e1⟩ := t1
  have f1 : wv [ρ 0, ρ 1, ρ 2, ρ 3, ρ 4, ρ 5, ρ 6, ρ 7, ρ 8, ρ 9, ρ 10, ρ 11, ρ 12, ρ 13, ρ 22, ρ 23, ρ 24, ρ 25, ρ 26, ρ 27, ρ 28, ρ 29, r0, r1, r2, r3, r4, r5, r6] 22 = wv [r0, r1, r2, r3, r4, r5, r6] 0 := rfl
  have f1' : wv [ρ 0, ρ 1, ρ 2, ρ 3, ρ 4, ρ 5, ρ 6, ρ 7, ρ 8, ρ 9, ρ 10, ρ 11, ρ 12, ρ 13, ρ 14, ρ 15, ρ 16, ρ 17, ρ 18, ρ 19, ρ 20, ρ 21, r0, r1, r2, r3, r4, r5, r6] 22 = wv [r0, r1, r2, r3, r4, r5, r6] 0 := rfl
  have f2 : wv [ρ 0, ρ 1, ρ 2, ρ 3, ρ 4, ρ 5, ρ 6, ρ 7, ρ 8, ρ 9, ρ 10, ρ 11, ρ 12, ρ 13, ρ 22, ρ 23, ρ 24, ρ 25, ρ 26, ρ 27, ρ 28, ρ 29, r0, r1, r2, r3, r4, r5, r6] 14 = wv [ρ 22, ρ 23, ρ 24, ρ 25, ρ 26, ρ 27, ρ 28] 0 := rfl
  have f2' : wv [ρ 0, ρ 1, ρ 2, ρ 3, ρ 4, ρ 5, ρ 6, ρ 7, ρ 8, ρ 9, ρ 10, ρ 11, ρ 12, ρ 13, ρ 14, ρ 15, ρ 16, ρ 17, ρ 18, ρ 19, ρ 20, ρ 21, r0, r1, r2, r3, r4, r5, r6] 14 = wv [ρ 14, ρ 15, ρ 16, ρ 17, ρ 18, ρ 19, ρ 20] 0 := rfl
  have f3 : wv [ρ 0, ρ 1, ρ 2, ρ 3, ρ 4, ρ 5, ρ 6, ρ 7, ρ 8, ρ 9, ρ 10, ρ 11, ρ 12, ρ 13, ρ 22, ρ 23, ρ 24, ρ 25, ρ 26, ρ 27, ρ 28, ρ 29, r0, r1, r2, r3, r4, r5, r6] 0 = wv [ρ 0, ρ 1, ρ 2, ρ 3, ρ 4, ρ 5, ρ 6] 0 := rfl
  have f3' : wv [ρ 0, ρ 1, ρ 2, ρ 3, ρ 4, ρ 5, ρ 6, ρ 7, ρ 8, ρ 9, ρ 10, ρ 11, ρ 12, ρ 13, ρ 14, ρ 15, ρ 16, ρ 17, ρ 18, ρ 19, ρ 20, ρ 21, r0, r1, r2, r3, r4, r5, r6] 0 = wv [ρ 0, ρ 1, ρ 2, ρ 3, ρ 4, ρ 5, ρ 6] 0 := rfl
  have f4 : wv [ρ 0, ρ 1, ρ 2, ρ 3, ρ 4, ρ 5, ρ 6, ρ 7, ρ 8, ρ 9, ρ 10, ρ 11, ρ 12, ρ 13, ρ 22, ρ 23, ρ 24, ρ 25, ρ 26, ρ 27, ρ 28, ρ 29, r0, r1, r2, r3, r4, r5, r6] 7 = wv [ρ 7, ρ 8, ρ 9, ρ 10, ρ 11, ρ 12, ρ 13] 0 := rfl
  have f4' : wv [ρ 0, ρ 1, ρ 2, ρ 3, ρ 4, ρ 5, ρ 6, ρ 7, ρ 8, ρ 9, ρ 10, ρ 11, ρ 12, ρ 13, ρ 14, ρ 15, ρ 16, ρ 17, ρ 18, ρ 19, ρ 20, ρ 21, r0, r1, r2, r3, r4, r5, r6] 7 = wv [ρ 7, ρ 8, ρ 9, ρ 10, ρ 11, ρ 12, ρ 13] 0 := rfl
  have f5 : nth [ρ 0, ρ 1, ρ 2, ρ 3, ρ 4, ρ 5, ρ 6, ρ 7, ρ 8, ρ 9, ρ 10, ρ 11, ρ 12, ρ 13, ρ 22, ρ 23, ρ 24, ρ 25, ρ 26, ρ 27, ρ 28, ρ 29, r0, r1, r2, r3, r4, r5, r6] 21 = ρ 29 := rfl
  have f5' : nth [ρ 0, ρ 1, ρ 2, ρ 3, ρ 4, ρ 5, ρ 6, ρ 7, ρ 8, ρ 9, ρ 10, ρ 11, ρ 12, ρ 13, ρ 14, ρ 15, ρ 16, ρ 17, ρ 18, ρ 19, ρ 20, ρ 21, r0, r1, r2, r3, r4, r5, r6] 21 = ρ 21 := rfl
  have g1 : wv [ρ 14, ρ 15, ρ 16, ρ 17, ρ 18, ρ 19, ρ 20, ρ 14, ρ 15, ρ 16, ρ 17, ρ 18, ρ 19, ρ 20, ρ 22, ρ 23, ρ 24, ρ 25, ρ 26, ρ 27, ρ 28] 14 = wv [ρ 22, ρ 23, ρ 24, ρ 25, ρ 26, ρ 27, ρ 28] 0 := rfl
  have g2 : wv [ρ 14, ρ 15, ρ 16, ρ 17, ρ 18, ρ 19, ρ 20, ρ 14, ρ 15, ρ 16, ρ 17, ρ 18, ρ 19, ρ 20, ρ 22, ρ 23, ρ 24, ρ 25, ρ 26, ρ 27, ρ 28] 0 = wv [ρ 14, ρ 15, ρ 16, ρ 17, ρ 18, ρ 19, ρ 20] 0 := rfl
  have g3 : wv [ρ 14, ρ 15, ρ 16, ρ 17, ρ 18, ρ 19, ρ 20, ρ 14, ρ 15, ρ 16, ρ 17, ρ 18, ρ 19, ρ 20, ρ 22, ρ 23, ρ 24, ρ 25, ρ 26, ρ 27, ρ 28] 7 = wv [ρ 14, ρ 15, ρ 16, ρ 17, ρ 18, ρ 19, ρ 20] 0 := rfl
  rw [g1, g2, g3] at e1
  rw [f1, f2] at q2
  rw [f1, f2, f3, f4, f5, hm0] at q3
  have ho2 : wv [ρ 22, ρ 23, ρ 24, ρ 25, ρ 26, ρ 27, ρ 28] 0 % p224 = (wv [ρ 14, ρ 15, ρ 16, ρ 17, ρ 18, ρ 19, ρ 20] 0 * wv [ρ 14, ρ 15, ρ 16, ρ 17, ρ 18, ρ 19, ρ 20] 0 * ipw (wv [ρ 0, ρ 1, ρ 2, ρ 3, ρ 4, ρ 5, ρ 6] 0) 0) % p224 := by
    rw [e1, ipw_zero, Int.mul_one, Int.emod_emod_of_dvd _ (Int.dvd_refl _)]
  have hlt : wv [ρ 22, ρ 23, ρ 24, ρ 25, ρ 26, ρ 27, ρ 28] 0 < p224 := by
    rw [e1]
    exact Int.emod_lt_of_pos _ (by decide)
  refine ⟨q1, fun _ => by rw [f1']; exact q2 hlt, ?_⟩
  rw [f1', f2', f3', f4', f5', hm1]
  exact pow_step ho2 q3 hbt (by decide)
theorem pow_ok (h : FY X) : LoopSp Tryz.prog X (loopIn Tryz.f56 0) powL.spec := by
  refine loop_by (EI_ok h) (BOK_none _) pow_chk powM (fun ρ ρ' hh => ?_) fun d hd => ?_
  · have hnv : powL.core.nv = 22 := rfl
    rw [hnv] at hh
    unfold powM
    rw [hh 21 (by decide)]
  simp only [powDs, List.mem_cons, List.not_mem_nil, or_false] at hd
  rcases hd with rfl | rfl | rfl
  · refine ⟨fun ρ hs => ?_, fun d hd => ?_⟩
    · have te := hs.ks (.eq 36 (.sub (.var 21) (.const 1))) (by simp [powK1])
      have hi := hs.bds (21, (0, 223)) (by simp [powB])
      simp only [Con.holds, IE.eval] at te hi
      show (ρ 36 + 1).toNat < (ρ 21 + 1).toNat
      omega
    · simp only [List.mem_cons, List.not_mem_nil, or_false] at hd
      rcases hd with rfl | rfl
      · refine endP_of _ 30 _ rfl rfl (fun ρ => [ρ 0, ρ 1, ρ 2, ρ 3, ρ 4, ρ 5, ρ 6, ρ 7, ρ 8, ρ 9, ρ 10, ρ 11, ρ 12, ρ 13, ρ 14, ρ 15, ρ 16, ρ 17, ρ 18, ρ 19, ρ 20, ρ 21] ++ [ρ 29, ρ 30, ρ 31, ρ 32, ρ 33, ρ 34, ρ 35]) (fun ρ => by kernel_rfl) fun ρ hs => ?_
        exact pow_end1 h hs (fun b hb => hb) (fun k hk => List.mem_cons_of_mem _ hk) rfl (tok (hs.ks _ List.mem_cons_self) (l := [ρ 0, ρ 1, ρ 2, ρ 3, ρ 4, ρ 5, ρ 6, ρ 7, ρ 8, ρ 9, ρ 10, ρ 11, ρ 12, ρ 13, ρ 29, ρ 30, ρ 31, ρ 32, ρ 33, ρ 34, ρ 35, ρ 36] ++ [ρ 29, ρ 30, ρ 31, ρ 32, ρ 33, ρ 34, ρ 35]) (by kernel_rfl))
      · refine endP_of _ 30 _ rfl rfl (fun ρ => [ρ 0, ρ 1, ρ 2, ρ 3, ρ 4, ρ 5, ρ 6, ρ 7, ρ 8, ρ 9, ρ 10, ρ 11, ρ 12, ρ 13, ρ 14, ρ 15, ρ 16, ρ 17, ρ 18, ρ 19, ρ 20, ρ 21] ++ [ρ 37, ρ 38, ρ 39, ρ 40, ρ 41, ρ 42, ρ 43]) (fun ρ => by kernel_rfl) fun ρ hs => ?_
        exact pow_end1 h hs (fun b hb => hb) (fun k hk => List.mem_cons_of_mem _ hk) rfl (tok (hs.ks _ List.mem_cons_self) (l := [ρ 0, ρ 1, ρ 2, ρ 3, ρ 4, ρ 5, ρ 6, ρ 7, ρ 8, ρ 9, ρ 10, ρ 11, ρ 12, ρ 13, ρ 29, ρ 30, ρ 31, ρ 32, ρ 33, ρ 34, ρ 35, ρ 36] ++ [ρ 37, ρ 38, ρ 39, ρ 40, ρ 41, ρ 42, ρ 43]) (by kernel_rfl))
  · refine ⟨fun ρ hs => ?_, fun d hd => ?_⟩
    · have te := hs.ks (.eq 29 (.sub (.var 21) (.const 1))) (by simp [powK2])
      have hi := hs.bds (21, (0, 223)) (by simp [powB])
      simp only [Con.holds, IE.eval] at te hi
      show (ρ 29 + 1).toNat < (ρ 21 + 1).toNat
      omega
    · simp only [List.mem_cons, List.not_mem_nil, or_false] at hd
      rcases hd with rfl | rfl
      · refine endP_of _ 30 _ rfl rfl (fun ρ => [ρ 0, ρ 1, ρ 2, ρ 3, ρ 4, ρ 5, ρ 6, ρ 7, ρ 8, ρ 9, ρ 10, ρ 11, ρ 12, ρ 13, ρ 14, ρ 15, ρ 16, ρ 17, ρ 18, ρ 19, ρ 20, ρ 21] ++ [ρ 22, ρ 23, ρ 24, ρ 25, ρ 26, ρ 27, ρ 28]) (fun ρ => by kernel_rfl) fun ρ hs => ?_
        exact pow_end0 h hs (fun b hb => hb) (fun k hk => List.mem_cons_of_mem _ hk) rfl (tok (hs.ks _ List.mem_cons_self) (l := [ρ 0, ρ 1, ρ 2, ρ 3, ρ 4, ρ 5, ρ 6, ρ 7, ρ 8, ρ 9, ρ 10, ρ 11, ρ 12, ρ 13, ρ 22, ρ 23, ρ 24, ρ 25, ρ 26, ρ 27, ρ 28, ρ 29] ++ [ρ 22, ρ 23, ρ 24, ρ 25, ρ 26, ρ 27, ρ 28]) (by kernel_rfl))
      · refine endP_of _ 30 _ rfl rfl (fun ρ => [ρ 0, ρ 1, ρ 2, ρ 3, ρ 4, ρ 5, ρ 6, ρ 7, ρ 8, ρ 9, ρ 10, ρ 11, ρ 12, ρ 13, ρ 14, ρ 15, ρ 16, ρ 17, ρ 18, ρ 19, ρ 20, ρ 21] ++ [ρ 30, ρ 31, ρ 32, ρ 33, ρ 34, ρ 35, ρ 36]) (fun ρ => by kernel_rfl) fun ρ hs => ?_
        exact pow_end0 h hs (fun b hb => hb) (fun k hk => List.mem_cons_of_mem _ hk) rfl (tok (hs.ks _ List.mem_cons_self) (l := [ρ 0, ρ 1, ρ 2, ρ 3, ρ 4, ρ 5, ρ 6, ρ 7, ρ 8, ρ 9, ρ 10, ρ 11, ρ 12, ρ 13, ρ 22, ρ 23, ρ 24, ρ 25, ρ 26, ρ 27, ρ 28, ρ 29] ++ [ρ 30, ρ 31, ρ 32, ρ 33, ρ 34, ρ 35, ρ 36]) (by kernel_rfl))
  · refine endP_of _ 30 _ rfl rfl (fun ρ => [ρ 0, ρ 1, ρ 2, ρ 3, ρ 4, ρ 5, ρ 6, ρ 7, ρ 8, ρ 9, ρ 10, ρ 11, ρ 12, ρ 13, ρ 14, ρ 15, ρ 16, ρ 17, ρ 18, ρ 19, ρ 20, ρ 21, ρ 14, ρ 15, ρ 16, ρ 17, ρ 18, ρ 19, ρ 20]) (fun ρ => by kernel_rfl) fun ρ hs => (h.powL _).2 ?_
    have hw : ∀ i, i < 21 -> wd (ρ i) := b22_spec hs fun b hb => List.mem_append_left _ hb
    have ht := hs.ks _ (List.mem_singleton.2 rfl)
    have hi := hs.bds (21, (-1, 223)) (by simp)
    simp only [Con.holds, BE.eval, IE.eval, intCmp, ge_iff_le, decide_eq_false_iff_not] at ht hi
    have hm : (ρ 21 + 1).toNat = 0 := by omega
    have f1 : wv [ρ 0, ρ 1, ρ 2, ρ 3, ρ 4, ρ 5, ρ 6, ρ 7, ρ 8, ρ 9, ρ 10, ρ 11, ρ 12, ρ 13, ρ 14, ρ 15, ρ 16, ρ 17, ρ 18, ρ 19, ρ 20, ρ 21, ρ 14, ρ 15, ρ 16, ρ 17, ρ 18, ρ 19, ρ 20] 22 = wv [ρ 14, ρ 15, ρ 16, ρ 17, ρ 18, ρ 19, ρ 20] 0 := rfl
    have f2 : wv [ρ 0, ρ 1, ρ 2, ρ 3, ρ 4, ρ 5, ρ 6, ρ 7, ρ 8, ρ 9, ρ 10, ρ 11, ρ 12, ρ 13, ρ 14, ρ 15, ρ 16, ρ 17, ρ 18, ρ 19, ρ 20, ρ 21, ρ 14, ρ 15, ρ 16, ρ 17, ρ 18, ρ 19, ρ 20] 14 = wv [ρ 14, ρ 15, ρ 16, ρ 17, ρ 18, ρ 19, ρ 20] 0 := rfl
    have f5 : nth [ρ 0, ρ 1, ρ 2, ρ 3, ρ 4, ρ 5, ρ 6, ρ 7, ρ 8, ρ 9, ρ 10, ρ 11, ρ 12, ρ 13, ρ 14, ρ 15, ρ 16, ρ 17, ρ 18, ρ 19, ρ 20, ρ 21, ρ 14, ρ 15, ρ 16, ρ 17, ρ 18, ρ 19, ρ 20] 21 = ρ 21 := rfl
    refine ⟨wok_of (b := 14) hw (by decide) rfl rfl rfl rfl rfl rfl rfl, ?_⟩
    rw [f1, f2, f5, hm]
    refine ⟨fun hh => hh, ?_⟩
    rw [Nat.pow_zero, Nat.mod_one, ipw_zero, Int.mul_one, ipw_succ, ipw_zero, Int.one_mul]
def ordK1 : List Con := [.test (.cmp .geq (.var 21) (.const 0)) true, .ext 31 (vars 14 7 ++ vars 14 7 ++ vars 22 7), .test (.cmp .eql (bitIE 7 21) (.const 1)) true, .ext 31 (vars 22 7 ++ vars 0 7 ++ vars 29 7), .eq 36 (.sub (.var 21) (.const 1))]
def ordK2 : List Con := [.test (.cmp .geq (.var 21) (.const 0)) true, .ext 31 (vars 14 7 ++ vars 14 7 ++ vars 22 7), .test (.cmp .eql (bitIE 7 21) (.const 1)) false, .eq 29 (.sub (.var 21) (.const 1))]
def ordB : List (Nat × Int × Int) := b22 ++ [(21, (0, 223))]
def ordDs : List RoundD :=
  [.go (vars 0 14 ++ vars 29 7 ++ [.var 36]) ⟨[], ordB, ordK1, []⟩ [(1, ⟨vars 29 7, ordB, .ext 32 (vars 0 14 ++ vars 29 7 ++ [.var 36] ++ vars 29 7) :: ordK1, []⟩), (1, ⟨vars 37 7, ordB, .ext 32 (vars 0 14 ++ vars 29 7 ++ [.var 36] ++ vars 37 7) :: ordK1, []⟩)],
   .go (vars 0 14 ++ vars 22 7 ++ [.var 29]) ⟨[], ordB, ordK2, []⟩ [(1, ⟨vars 22 7, ordB, .ext 32 (vars 0 14 ++ vars 22 7 ++ [.var 29] ++ vars 22 7) :: ordK2, []⟩), (1, ⟨vars 30 7, ordB, .ext 32 (vars 0 14 ++ vars 22 7 ++ [.var 29] ++ vars 30 7) :: ordK2, []⟩)],
   .stop 0 ⟨[], b22 ++ [(21, (-1, 223))], [.test (.cmp .geq (.var 21) (.const 0)) false], []⟩]
theorem ord_chk : chkLoop (exec EI 3000 (fun _ => none) (loopIn Tryz.f18 0) ordL.start) ordL ordDs = true := by kernel_rfl
def ordM (ρ : Nat -> Int) : Nat := (ρ 21 + 1).toNat
theorem ord_end1 (h : FY X) {L : Look} {ρ : Nat -> Int} (hs : Seen X L ρ) (hB : ∀ b ∈ ordB, b ∈ L.bds) (hK : ∀ k ∈ ordK1, k ∈ L.ks) {r : List Int} (hr : r.length = 7) (ht : X 32 ([ρ 0, ρ 1, ρ 2, ρ 3, ρ 4, ρ 5, ρ 6, ρ 7, ρ 8, ρ 9, ρ 10, ρ 11, ρ 12, ρ 13, ρ 29, ρ 30, ρ 31, ρ 32, ρ 33, ρ 34, ρ 35, ρ 36] ++ r)) : X 32 ([ρ 0, ρ 1, ρ 2, ρ 3, ρ 4, ρ 5, ρ 6, ρ 7, ρ 8, ρ 9, ρ 10, ρ 11, ρ 12, ρ 13, ρ 14, ρ 15, ρ 16, ρ 17, ρ 18, ρ 19, ρ 20, ρ 21] ++ r) := by
  obtain ⟨r0, r1, r2, r3, r4, r5, r6, rfl⟩ : ∃ r0 r1 r2 r3 r4 r5 r6, r = [r0, r1, r2, r3, r4, r5, r6] := by
    match r, hr with
    | [r0, r1, r2, r3, r4, r5, r6], _ => exact ⟨r0, r1, r2, r3, r4, r5, r6, rfl⟩
  simp only [List.cons_append, List.nil_append] at ht ⊢
  have hw : ∀ i, i < 21 -> wd (ρ i) := b22_spec hs fun b hb => hB b (List.mem_append_left _ hb)
  have hi := hs.bds (21, (0, 223)) (hB _ (by simp [ordB]))
  simp only at hi
  have t1 := (h.sumBelow _).1 (tok (hs.ks _ (hK (.ext 31 (vars 14 7 ++ vars 14 7 ++ vars 22 7)) (by simp [ordK1]))) (l := [ρ 14, ρ 15, ρ 16, ρ 17, ρ 18, ρ 19, ρ 20, ρ 14, ρ 15, ρ 16, ρ 17, ρ 18, ρ 19, ρ 20, ρ 22, ρ 23, ρ 24, ρ 25, ρ 26, ρ 27, ρ 28]) (by kernel_rfl))
  have t2 := (h.sumBelow _).1 (tok (hs.ks _ (hK (.ext 31 (vars 22 7 ++ vars 0 7 ++ vars 29 7)) (by simp [ordK1]))) (l := [ρ 22, ρ 23, ρ 24, ρ 25, ρ 26, ρ 27, ρ 28, ρ 0, ρ 1, ρ 2, ρ 3, ρ 4, ρ 5, ρ 6, ρ 29, ρ 30, ρ 31, ρ 32, ρ 33, ρ 34, ρ 35]) (by kernel_rfl))
  have tb := hs.ks _ (hK (.test (.cmp .eql (bitIE 7 21) (.const 1)) true) (by simp [ordK1]))
  have te := hs.ks _ (hK (.eq 36 (.sub (.var 21) (.const 1))) (by simp [ordK1]))
  simp only [Con.holds, BE.eval, intCmp] at tb te
  rw [bit_spec ⟨hw 7 (by decide), hw 8 (by decide), hw 9 (by decide), hw 10 (by decide), hw 11 (by decide), hw 12 (by decide), hw 13 (by decide)⟩ hi] at tb
  simp only [IE.eval, beq_iff_eq] at tb te
  have hE := (wv_range (l := [ρ 7, ρ 8, ρ 9, ρ 10, ρ 11, ρ 12, ρ 13]) (i := 0) ⟨hw 7 (by decide), hw 8 (by decide), hw 9 (by decide), hw 10 (by decide), hw 11 (by decide), hw 12 (by decide), hw 13 (by decide)⟩).1
  obtain ⟨m, hm⟩ : ∃ m : Nat, ρ 21 = (m : Int) := Int.eq_ofNat_of_zero_le hi.1
  have hm1 : (ρ 21 + 1).toNat = m + 1 := by omega
  have hm0 : (ρ 36 + 1).toNat = m := by omega
  have hmm : (ρ 21).toNat = m := by omega
  have hbt := bit_top hE m
  rw [hmm] at tb
  have hbit : ((wv [ρ 7, ρ 8, ρ 9, ρ 10, ρ 11, ρ 12, ρ 13] 0 / 2 ^ m) % 2).toNat = 1 := by
    rw [tb]; rfl
  rw [hbit] at hbt
  have q := (h.ordL _).1 ht
  refine (h.ordL _).2 ?_
  obtain ⟨q1, q2⟩ := q
  obtain ⟨m1, e1⟩ := t1
  obtain ⟨m2, e2⟩ := t2
  have f1 : wv [ρ 0, ρ 1, ρ 2, ρ 3, ρ 4, ρ 5, ρ 6, ρ 7, ρ 8, ρ 9, ρ 10, ρ 11, ρ 12, ρ 13, ρ 29, ρ 30, ρ 31, ρ 32, ρ 33, ρ 34, ρ 35, ρ 36, r0, r1, r2, r3, r4, r5, r6] 22 = wv [r0, r1, r2, r3, r4, r5, r6] 0 := rfl
  have f1' : wv [ρ 0, ρ 1, ρ 2, ρ 3, ρ 4, ρ 5, ρ 6, ρ 7, ρ 8, ρ 9, ρ 10, ρ 11, ρ 12, ρ 13, ρ 14, ρ 15, ρ 16, ρ 17, ρ 18, ρ 19, ρ 20, ρ 21, r0, r1, r2, r3, r4, r5, r6] 22 = wv [r0, r1, r2, r3, r4, r5, r6] 0 := rfl
  have f2 : wv [ρ 0, ρ 1, ρ 2, ρ 3, ρ 4, ρ 5, ρ 6, ρ 7, ρ 8, ρ 9, ρ 10, ρ 11, ρ 12, ρ 13, ρ 29, ρ 30, ρ 31, ρ 32, ρ 33, ρ 34, ρ 35, ρ 36, r0, r1, r2, r3, r4, r5, r6] 14 = wv [ρ 29, ρ 30, ρ 31, ρ 32, ρ 33, ρ 34, ρ 35] 0 := rfl
  have f2' : wv [ρ 0, ρ 1, ρ 2, ρ 3, ρ 4, ρ 5, ρ 6, ρ 7, ρ 8, ρ 9, ρ 10, ρ 11, ρ 12, ρ 13, ρ 14, ρ 15, ρ 16, ρ 17, ρ 18, ρ 19, ρ 20, ρ 21, r0, r1, r2, r3, r4, r5, r6] 14 = wv [ρ 14, ρ 15, ρ 16, ρ 17, ρ 18, ρ 19, ρ 20] 0 := rfl
  have f3 : wv [ρ 0, ρ 1, ρ 2, ρ 3, ρ 4, ρ 5, ρ 6, ρ 7, ρ 8, ρ 9, ρ 10, ρ 11, ρ 12, ρ 13, ρ 29, ρ 30, ρ 31, ρ 32, ρ 33, ρ 34, ρ 35, ρ 36, r0, r1, r2, r3, r4, r5, r6] 0 = wv [ρ 0, ρ 1, ρ 2, ρ 3, ρ 4, ρ 5, ρ 6] 0 := rfl
  have f3' : wv [ρ 0, ρ 1, ρ 2, ρ 3, ρ 4, ρ 5, ρ 6, ρ 7, ρ 8, ρ 9, ρ 10, ρ 11, ρ 12, ρ 13, ρ 14, ρ 15, ρ 16, ρ 17, ρ 18, ρ 19, ρ 20, ρ 21, r0, r1, r2, r3, r4, r5, r6] 0 = wv [ρ 0, ρ 1, ρ 2, ρ 3, ρ 4, ρ 5, ρ 6] 0 := rfl
  have f4 : wv [ρ 0, ρ 1, ρ 2, ρ 3, ρ 4, ρ 5, ρ 6, ρ 7, ρ 8, ρ 9, ρ 10, ρ 11, ρ 12, ρ 13, ρ 29, ρ 30, ρ 31, ρ 32, ρ 33, ρ 34, ρ 35, ρ 36, r0, r1, r2, r3, r4, r5, r6] 7 = wv [ρ 7, ρ 8, ρ 9, ρ 10, ρ 11, ρ 12, ρ 13] 0 := rfl
  have f4' : wv [ρ 0, ρ 1, ρ 2, ρ 3, ρ 4, ρ 5, ρ 6, ρ 7, ρ 8, ρ 9, ρ 10, ρ 11, ρ 12, ρ 13, ρ 14, ρ 15, ρ 16, ρ 17, ρ 18, ρ 19, ρ 20, ρ 21, r0, r1, r2, r3, r4, r5, r6] 7 = wv [ρ 7, ρ 8, ρ 9, ρ 10, ρ 11, ρ 12, ρ 13] 0 := rfl
  have f5 : nth [ρ 0, ρ 1, ρ 2, ρ 3, ρ 4, ρ 5, ρ 6, ρ 7, ρ 8, ρ 9, ρ 10, ρ 11, ρ 12, ρ 13, ρ 29, ρ 30, ρ 31, ρ 32, ρ 33, ρ 34, ρ 35, ρ 36, r0, r1, r2, r3, r4, r5, r6] 21 = ρ 36 := rfl
  have f5' : nth [ρ 0, ρ 1, ρ 2, ρ 3, ρ 4, ρ 5, ρ 6, ρ 7, ρ 8, ρ 9, ρ 10, ρ 11, ρ 12, ρ 13, ρ 14, ρ 15, ρ 16, ρ 17, ρ 18, ρ 19, ρ 20, ρ 21, r0, r1, r2, r3, r4, r5, r6] 21 = ρ 21 := rfl
  have g1 : wv [ρ 14, ρ 15, ρ 16, ρ 17, ρ 18, ρ 19, ρ 20, ρ 14, ρ 15, ρ 16, ρ 17, ρ 18, ρ 19, ρ 20, ρ 22, ρ 23, ρ 24, ρ 25, ρ 26, ρ 27, ρ 28] 14 = wv [ρ 22, ρ 23, ρ 24, ρ 25, ρ 26, ρ 27, ρ 28] 0 := rfl
  have g2 : wv [ρ 14, ρ 15, ρ 16, ρ 17, ρ 18, ρ 19, ρ 20, ρ 14, ρ 15, ρ 16, ρ 17, ρ 18, ρ 19, ρ 20, ρ 22, ρ 23, ρ 24, ρ 25, ρ 26, ρ 27, ρ 28] 0 = wv [ρ 14, ρ 15, ρ 16, ρ 17, ρ 18, ρ 19, ρ 20] 0 := rfl
  have g3 : wv [ρ 14, ρ 15, ρ 16, ρ 17, ρ 18, ρ 19, ρ 20, ρ 14, ρ 15, ρ 16, ρ 17, ρ 18, ρ 19, ρ 20, ρ 22, ρ 23, ρ 24, ρ 25, ρ 26, ρ 27, ρ 28] 7 = wv [ρ 14, ρ 15, ρ 16, ρ 17, ρ 18, ρ 19, ρ 20] 0 := rfl
  rw [g1, g2, g3] at e1
  have g4 : wv [ρ 22, ρ 23, ρ 24, ρ 25, ρ 26, ρ 27, ρ 28, ρ 0, ρ 1, ρ 2, ρ 3, ρ 4, ρ 5, ρ 6, ρ 29, ρ 30, ρ 31, ρ 32, ρ 33, ρ 34, ρ 35] 14 = wv [ρ 29, ρ 30, ρ 31, ρ 32, ρ 33, ρ 34, ρ 35] 0 := rfl
  have g5 : wv [ρ 22, ρ 23, ρ 24, ρ 25, ρ 26, ρ 27, ρ 28, ρ 0, ρ 1, ρ 2, ρ 3, ρ 4, ρ 5, ρ 6, ρ 29, ρ 30, ρ 31, ρ 32, ρ 33, ρ 34, ρ 35] 0 = wv [ρ 22, ρ 23, ρ 24, ρ 25, ρ 26, ρ 27, ρ 28] 0 := rfl
  have g6 : wv [ρ 22, ρ 23, ρ 24, ρ 25, ρ 26, ρ 27, ρ 28, ρ 0, ρ 1, ρ 2, ρ 3, ρ 4, ρ 5, ρ 6, ρ 29, ρ 30, ρ 31, ρ 32, ρ 33, ρ 34, ρ 35] 7 = wv [ρ 0, ρ 1, ρ 2, ρ 3, ρ 4, ρ 5, ρ 6] 0 := rfl
  rw [g4, g5, g6] at e2
  refine ⟨q1, fun ha ho => ?_⟩
  rw [f3'] at ha
  rw [f2'] at ho
  have e1 := e1 ho ho
  have hlt1 : wv [ρ 22, ρ 23, ρ 24, ρ 25, ρ 26, ρ 27, ρ 28] 0 < n224 := by rw [e1]; exact Int.emod_lt_of_pos _ (by decide)
  have e2 := e2 hlt1 ha
  have hlt2 : wv [ρ 29, ρ 30, ρ 31, ρ 32, ρ 33, ρ 34, ρ 35] 0 < n224 := by rw [e2]; exact Int.emod_lt_of_pos _ (by decide)
  have q2 := q2 (by rw [f3]; exact ha) (by rw [f2]; exact hlt2)
  rw [f1, f2, f3, f4, f5, hm0] at q2
  have ho2 : wv [ρ 29, ρ 30, ρ 31, ρ 32, ρ 33, ρ 34, ρ 35] 0 = (2 * wv [ρ 14, ρ 15, ρ 16, ρ 17, ρ 18, ρ 19, ρ 20] 0 + wv [ρ 0, ρ 1, ρ 2, ρ 3, ρ 4, ρ 5, ρ 6] 0 * ((1 : Nat) : Int)) % n224 := by
    rw [e2, e1, Int.add_emod, Int.emod_emod_of_dvd _ (Int.dvd_refl _), <- Int.add_emod]
    congr 1
    simp only [Int.natCast_one, Int.mul_one]; omega
  rw [f1', f2', f3', f4', f5', hm1]
  exact ord_step ho2 q2 hbt
theorem ord_end0 (h : FY X) {L : Look} {ρ : Nat -> Int} (hs : Seen X L ρ) (hB : ∀ b ∈ ordB, b ∈ L.bds) (hK : ∀ k ∈ ordK2, k ∈ L.ks) {r : List Int} (hr : r.length = 7) (ht : X 32 ([ρ 0, ρ 1, ρ 2, ρ 3, ρ 4, ρ 5, ρ 6, ρ 7, ρ 8, ρ 9, ρ 10, ρ 11, ρ 12, ρ 13, ρ 22, ρ 23, ρ 24, ρ 25, ρ 26, ρ 27, ρ 28, ρ 29] ++ r)) : X 32 ([ρ 0, ρ 1, ρ 2, ρ 3, ρ 4, ρ 5, ρ 6, ρ 7, ρ 8, ρ 9, ρ 10, ρ 11, ρ 12, ρ 13, ρ 14, ρ 15, ρ 16, ρ 17, ρ 18, ρ 19, ρ 20, ρ 21] ++ r) := by
  obtain ⟨r0, r1, r2, r3, r4, r5, r6, rfl⟩ : ∃ r0 r1 r2 r3 r4 r5 r6, r = [r0, r1, r2, r3, r4, r5, r6] := by
    match r, hr with
    | [r0, r1, r2, r3, r4, r5, r6], _ => exact ⟨r0, r1, r2, r3, r4, r5, r6, rfl⟩
  simp only [List.cons_append, List.nil_append] at ht ⊢
  have hw : ∀ i, i < 21 -> wd (ρ i) := b22_spec hs fun b hb => hB b (List.mem_append_left _ hb)
  have hi := hs.bds (21, (0, 223)) (hB _ (by simp [ordB]))
  simp only at hi
  have t1 := (h.sumBelow _).1 (tok (hs.ks _ (hK (.ext 31 (vars 14 7 ++ vars 14 7 ++ vars 22 7)) (by simp [ordK2]))) (l := [ρ 14, ρ 15, ρ 16, ρ 17, ρ 18, ρ 19, ρ 20, ρ 14, ρ 15, ρ 16, ρ 17, ρ 18, ρ 19, ρ 20, ρ 22, ρ 23, ρ 24, ρ 25, ρ 26, ρ 27, ρ 28]) (by kernel_rfl))
  have tb := hs.ks _ (hK (.test (.cmp .eql (bitIE 7 21) (.const 1)) false) (by simp [ordK2]))
  have te := hs.ks _ (hK (.eq 29 (.sub (.var 21) (.const 1))) (by simp [ordK2]))
  simp only [Con.holds, BE.eval, intCmp] at tb te
  rw [bit_spec ⟨hw 7 (by decide), hw 8 (by decide), hw 9 (by decide), hw 10 (by decide), hw 11 (by decide), hw 12 (by decide), hw 13 (by decide)⟩ hi] at tb
  simp only [IE.eval, beq_eq_false_iff_ne, ne_eq] at tb te
  have hE := (wv_range (l := [ρ 7, ρ 8, ρ 9, ρ 10, ρ 11, ρ 12, ρ 13]) (i := 0) ⟨hw 7 (by decide), hw 8 (by decide), hw 9 (by decide), hw 10 (by decide), hw 11 (by decide), hw 12 (by decide), hw 13 (by decide)⟩).1
  obtain ⟨m, hm⟩ : ∃ m : Nat, ρ 21 = (m : Int) := Int.eq_ofNat_of_zero_le hi.1
  have hm1 : (ρ 21 + 1).toNat = m + 1 := by omega
  have hm0 : (ρ 29 + 1).toNat = m := by omega
  have hmm : (ρ 21).toNat = m := by omega
  have hbt := bit_top hE m
  rw [hmm] at tb
  have hbit : ((wv [ρ 7, ρ 8, ρ 9, ρ 10, ρ 11, ρ 12, ρ 13] 0 / 2 ^ m) % 2).toNat = 0 := by
    rcases Int.emod_two_eq (wv [ρ 7, ρ 8, ρ 9, ρ 10, ρ 11, ρ 12, ρ 13] 0 / 2 ^ m) with h0 | h0
    · rw [h0]; rfl
    · exact absurd h0 tb
  rw [hbit] at hbt
  have q := (h.ordL _).1 ht
  refine (h.ordL _).2 ?_
  obtain ⟨q1, q2⟩ := q
  obtain ⟨m1, e1⟩ := t1
  have f1 : wv [ρ 0, ρ 1, ρ 2, ρ 3, ρ 4, ρ 5, ρ 6, ρ 7, ρ 8, ρ 9, ρ 10, ρ 11, ρ 12, ρ 13, ρ 22, ρ 23, ρ 24, ρ 25, ρ 26, ρ 27, ρ 28, ρ 29, r0, r1, r2, r3, r4, r5, r6] 22 = wv [r0, r1, r2, r3, r4, r5, r6] 0 := rfl
  have f1' : wv [ρ 0, ρ 1, ρ 2, ρ 3, ρ 4, ρ 5, ρ 6, ρ 7, ρ 8, ρ 9, ρ 10, ρ 11, ρ 12, ρ 13, ρ 14, ρ 15, ρ 16, ρ 17, ρ 18, ρ 19, ρ 20, ρ 21, r0, r1, r2, r3, r4, r5, r6] 22 = wv [r0, r1, r2, r3, r4, r5, r6] 0 := rfl
  have f2 : wv [ρ 0, ρ 1, ρ 2, ρ 3, ρ 4, ρ 5, ρ 6, ρ 7, ρ 8, ρ 9, ρ 10, ρ 11, ρ 12, ρ 13, ρ 22, ρ 23, ρ 24, ρ 25, ρ 26, ρ 27, ρ 28, ρ 29, r0, r1, r2, r3, r4, r5, r6] 14 = wv [ρ 22, ρ 23, ρ 24, ρ 25, ρ 26, ρ 27, ρ 28] 0 := rfl
  have f2' : wv [ρ 0, ρ 1, ρ 2, ρ 3, ρ 4, ρ 5, ρ 6, ρ 7, ρ 8, ρ 9, ρ 10, ρ 11, ρ 12, ρ 13, ρ 14, ρ 15, ρ 16, ρ 17, ρ 18, ρ 19, ρ 20, ρ 21, r0, r1, r2, r3, r4, r5, r6] 14 = wv [ρ 14, ρ 15, ρ 16, ρ 17, ρ 18, ρ 19, ρ 20] 0 := rfl
  have f3 : wv [ρ 0, ρ 1, ρ 2, ρ 3, ρ 4, ρ 5, ρ 6, ρ 7, ρ 8, ρ 9, ρ 10, ρ 11, ρ 12, ρ 13, ρ 22, ρ 23, ρ 24, ρ 25, ρ 26, ρ 27, ρ 28, ρ 29, r0, r1, r2, r3, r4, r5, r6] 0 = wv [ρ 0, ρ 1, ρ 2, ρ 3, ρ 4, ρ 5, ρ 6] 0 := rfl
  have f3' : wv [ρ 0, ρ 1, ρ 2, ρ 3, ρ 4, ρ 5, ρ 6, ρ 7, ρ 8, ρ 9, ρ 10, ρ 11, ρ 12, ρ 13, ρ 14, ρ 15, ρ 16, ρ 17, ρ 18, ρ 19, ρ 20, ρ 21, r0, r1, r2, r3, r4, r5, r6] 0 = wv [ρ 0, ρ 1, ρ 2, ρ 3, ρ 4, ρ 5, ρ 6] 0 := rfl
  have f4 : wv [ρ 0, ρ 1, ρ 2, ρ 3, ρ 4, ρ 5, ρ 6, ρ 7, ρ 8, ρ 9, ρ 10, ρ 11, ρ 12, ρ 13, ρ 22, ρ 23, ρ 24, ρ 25, ρ 26, ρ 27, ρ 28, ρ 29, r0, r1, r2, r3, r4, r5, r6] 7 = wv [ρ 7, ρ 8, ρ 9, ρ 10, ρ 11, ρ 12, ρ 13] 0 := rfl
  have f4' : wv [ρ 0, ρ 1, ρ 2, ρ 3, ρ 4, ρ 5, ρ 6, ρ 7, ρ 8, ρ 9, ρ 10, ρ 11, ρ 12, ρ 13, ρ 14, ρ 15, ρ 16, ρ 17, ρ 18, ρ 19, ρ 20, ρ 21, r0, r1, r2, r3, r4, r5, r6] 7 = wv [ρ 7, ρ 8, ρ 9, ρ 10, ρ 11, ρ 12, ρ 13] 0 := rfl
  have f5 : nth [ρ 0, ρ 1, ρ 2, ρ 3, ρ 4, ρ 5, ρ 6, ρ 7, ρ 8, ρ 9, ρ 10, ρ 11, ρ 12, ρ 13, ρ 22, ρ 23, ρ 24, ρ 25, ρ 26, ρ 27, ρ 28, ρ 29, r0, r1, r2, r3, r4, r5, r6] 21 = ρ 29 := rfl
  have f5' : nth [ρ 0, ρ 1, ρ 2, ρ 3, ρ 4, ρ 5, ρ 6, ρ 7, ρ 8, ρ 9, ρ 10, ρ 11, ρ 12, ρ 13, ρ 14, ρ 15, ρ 16, ρ 17, ρ 18, ρ 19, ρ 20, ρ 21, r0, r1, r2, r3, r4, r5, r6] 21 = ρ 21 := rfl
  have g1 : wv [ρ 14, ρ 15, ρ 16, ρ 17, ρ 18, ρ 19, ρ 20, ρ 14, ρ 15, ρ 16, ρ 17, ρ 18, ρ 19, ρ 20, ρ 22, ρ 23, ρ 24, ρ 25, ρ 26, ρ 27, ρ 28] 14 = wv [ρ 22, ρ 23, ρ 24, ρ 25, ρ 26, ρ 27, ρ 28] 0 := rfl
  have g2 : wv [ρ 14, ρ 15, ρ 16, ρ 17, ρ 18, ρ 19, ρ 20, ρ 14, ρ 15, ρ 16, ρ 17, ρ 18, ρ 19, ρ 20, ρ 22, ρ 23, ρ 24, ρ 25, ρ 26, ρ 27, ρ 28] 0 = wv [ρ 14, ρ 15, ρ 16, ρ 17, ρ 18, ρ 19, ρ 20] 0 := rfl
  have g3 : wv [ρ 14, ρ 15, ρ 16, ρ 17, ρ 18, ρ 19, ρ 20, ρ 14, ρ 15, ρ 16, ρ 17, ρ 18, ρ 19, ρ 20, ρ 22, ρ 23, ρ 24, ρ 25, ρ 26, ρ 27, ρ 28] 7 = wv [ρ 14, ρ 15, ρ 16, ρ 17, ρ 18, ρ 19, ρ 20] 0 := rfl
  rw [g1, g2, g3] at e1
  refine ⟨q1, fun ha ho => ?_⟩
  rw [f3'] at ha
  rw [f2'] at ho
  have e1 := e1 ho ho
  have hlt1 : wv [ρ 22, ρ 23, ρ 24, ρ 25, ρ 26, ρ 27, ρ 28] 0 < n224 := by rw [e1]; exact Int.emod_lt_of_pos _ (by decide)
  have q2 := q2 (by rw [f3]; exact ha) (by rw [f2]; exact hlt1)
  rw [f1, f2, f3, f4, f5, hm0] at q2
  have ho2 : wv [ρ 22, ρ 23, ρ 24, ρ 25, ρ 26, ρ 27, ρ 28] 0 = (2 * wv [ρ 14, ρ 15, ρ 16, ρ 17, ρ 18, ρ 19, ρ 20] 0 + wv [ρ 0, ρ 1, ρ 2, ρ 3, ρ 4, ρ 5, ρ 6] 0 * ((0 : Nat) : Int)) % n224 := by
    rw [e1]
    congr 1
    simp only [Int.natCast_zero, Int.mul_zero]; omega
  rw [f1', f2', f3', f4', f5', hm1]
  exact ord_step ho2 q2 hbt
theorem ord_ok (h : FY X) : LoopSp Tryz.prog X (loopIn Tryz.f18 0) ordL.spec := by
  refine loop_by (EI_ok h) (BOK_none _) ord_chk ordM (fun ρ ρ' hh => ?_) fun d hd => ?_
  · have hnv : ordL.core.nv = 22 := rfl
    rw [hnv] at hh
    unfold ordM
    rw [hh 21 (by decide)]
  simp only [ordDs, List.mem_cons, List.not_mem_nil, or_false] at hd
  rcases hd with rfl | rfl | rfl
  · refine ⟨fun ρ hs => ?_, fun d hd => ?_⟩
    · have te := hs.ks (.eq 36 (.sub (.var 21) (.const 1))) (by simp [ordK1])
      have hi := hs.bds (21, (0, 223)) (by simp [ordB])
      simp only [Con.holds, IE.eval] at te hi
      show (ρ 36 + 1).toNat < (ρ 21 + 1).toNat
      omega
    · simp only [List.mem_cons, List.not_mem_nil, or_false] at hd
      rcases hd with rfl | rfl
      · refine endP_of _ 32 _ rfl rfl (fun ρ => [ρ 0, ρ 1, ρ 2, ρ 3, ρ 4, ρ 5, ρ 6, ρ 7, ρ 8, ρ 9, ρ 10, ρ 11, ρ 12, ρ 13, ρ 14, ρ 15, ρ 16, ρ 17, ρ 18, ρ 19, ρ 20, ρ 21] ++ [ρ 29, ρ 30, ρ 31, ρ 32, ρ 33, ρ 34, ρ 35]) (fun ρ => by kernel_rfl) fun ρ hs => ?_
        exact ord_end1 h hs (fun b hb => hb) (fun k hk => List.mem_cons_of_mem _ hk) rfl (tok (hs.ks _ List.mem_cons_self) (l := [ρ 0, ρ 1, ρ 2, ρ 3, ρ 4, ρ 5, ρ 6, ρ 7, ρ 8, ρ 9, ρ 10, ρ 11, ρ 12, ρ 13, ρ 29, ρ 30, ρ 31, ρ 32, ρ 33, ρ 34, ρ 35, ρ 36] ++ [ρ 29, ρ 30, ρ 31, ρ 32, ρ 33, ρ 34, ρ 35]) (by kernel_rfl))
      · refine endP_of _ 32 _ rfl rfl (fun ρ => [ρ 0, ρ 1, ρ 2, ρ 3, ρ 4, ρ 5, ρ 6, ρ 7, ρ 8, ρ 9, ρ 10, ρ 11, ρ 12, ρ 13, ρ 14, ρ 15, ρ 16, ρ 17, ρ 18, ρ 19, ρ 20, ρ 21] ++ [ρ 37, ρ 38, ρ 39, ρ 40, ρ 41, ρ 42, ρ 43]) (fun ρ => by kernel_rfl) fun ρ hs => ?_
        exact ord_end1 h hs (fun b hb => hb) (fun k hk => List.mem_cons_of_mem _ hk) rfl (tok (hs.ks _ List.mem_cons_self) (l := [ρ 0, ρ 1, ρ 2, ρ 3, ρ 4, ρ 5, ρ 6, ρ 7, ρ 8, ρ 9, ρ 10, ρ 11, ρ 12, ρ 13, ρ 29, ρ 30, ρ 31, ρ 32, ρ 33, ρ 34, ρ 35, ρ 36] ++ [ρ 37, ρ 38, ρ 39, ρ 40, ρ 41, ρ 42, ρ 43]) (by kernel_rfl))
  · refine ⟨fun ρ hs => ?_, fun d hd => ?_⟩
    · have te := hs.ks (.eq 29 (.sub (.var 21) (.const 1))) (by simp [ordK2])
      have hi := hs.bds (21, (0, 223)) (by simp [ordB])
      simp only [Con.holds, IE.eval] at te hi
      show (ρ 29 + 1).toNat < (ρ 21 + 1).toNat
      omega
    · simp only [List.mem_cons, List.not_mem_nil, or_false] at hd
      rcases hd with rfl | rfl
      · refine endP_of _ 32 _ rfl rfl (fun ρ => [ρ 0, ρ 1, ρ 2, ρ 3, ρ 4, ρ 5, ρ 6, ρ 7, ρ 8, ρ 9, ρ 10, ρ 11, ρ 12, ρ 13, ρ 14, ρ 15, ρ 16, ρ 17, ρ 18, ρ 19, ρ 20, ρ 21] ++ [ρ 22, ρ 23, ρ 24, ρ 25, ρ 26, ρ 27, ρ 28]) (fun ρ => by kernel_rfl) fun ρ hs => ?_
        exact ord_end0 h hs (fun b hb => hb) (fun k hk => List.mem_cons_of_mem _ hk) rfl (tok (hs.ks _ List.mem_cons_self) (l := [ρ 0, ρ 1, ρ 2, ρ 3, ρ 4, ρ 5, ρ 6, ρ 7, ρ 8, ρ 9, ρ 10, ρ 11, ρ 12, ρ 13, ρ 22, ρ 23, ρ 24, ρ 25, ρ 26, ρ 27, ρ 28, ρ 29] ++ [ρ 22, ρ 23, ρ 24, ρ 25, ρ 26, ρ 27, ρ 28]) (by kernel_rfl))
      · refine endP_of _ 32 _ rfl rfl (fun ρ => [ρ 0, ρ 1, ρ 2, ρ 3, ρ 4, ρ 5, ρ 6, ρ 7, ρ 8, ρ 9, ρ 10, ρ 11, ρ 12, ρ 13, ρ 14, ρ 15, ρ 16, ρ 17, ρ 18, ρ 19, ρ 20, ρ 21] ++ [ρ 30, ρ 31, ρ 32, ρ 33, ρ 34, ρ 35, ρ 36]) (fun ρ => by kernel_rfl) fun ρ hs => ?_
        exact ord_end0 h hs (fun b hb => hb) (fun k hk => List.mem_cons_of_mem _ hk) rfl (tok (hs.ks _ List.mem_cons_self) (l := [ρ 0, ρ 1, ρ 2, ρ 3, ρ 4, ρ 5, ρ 6, ρ 7, ρ 8, ρ 9, ρ 10, ρ 11, ρ 12, ρ 13, ρ 22, ρ 23, ρ 24, ρ 25, ρ 26, ρ 27, ρ 28, ρ 29] ++ [ρ 30, ρ 31, ρ 32, ρ 33, ρ 34, ρ 35, ρ 36]) (by kernel_rfl))
  · refine endP_of _ 32 _ rfl rfl (fun ρ => [ρ 0, ρ 1, ρ 2, ρ 3, ρ 4, ρ 5, ρ 6, ρ 7, ρ 8, ρ 9, ρ 10, ρ 11, ρ 12, ρ 13, ρ 14, ρ 15, ρ 16, ρ 17, ρ 18, ρ 19, ρ 20, ρ 21, ρ 14, ρ 15, ρ 16, ρ 17, ρ 18, ρ 19, ρ 20]) (fun ρ => by kernel_rfl) fun ρ hs => (h.ordL _).2 ?_
    have hw : ∀ i, i < 21 -> wd (ρ i) := b22_spec hs fun b hb => List.mem_append_left _ hb
    have ht := hs.ks _ (List.mem_singleton.2 rfl)
    have hi := hs.bds (21, (-1, 223)) (by simp)
    simp only [Con.holds, BE.eval, IE.eval, intCmp, ge_iff_le, decide_eq_false_iff_not] at ht hi
    have hm : (ρ 21 + 1).toNat = 0 := by omega
    have f1 : wv [ρ 0, ρ 1, ρ 2, ρ 3, ρ 4, ρ 5, ρ 6, ρ 7, ρ 8, ρ 9, ρ 10, ρ 11, ρ 12, ρ 13, ρ 14, ρ 15, ρ 16, ρ 17, ρ 18, ρ 19, ρ 20, ρ 21, ρ 14, ρ 15, ρ 16, ρ 17, ρ 18, ρ 19, ρ 20] 22 = wv [ρ 14, ρ 15, ρ 16, ρ 17, ρ 18, ρ 19, ρ 20] 0 := rfl
    have f2 : wv [ρ 0, ρ 1, ρ 2, ρ 3, ρ 4, ρ 5, ρ 6, ρ 7, ρ 8, ρ 9, ρ 10, ρ 11, ρ 12, ρ 13, ρ 14, ρ 15, ρ 16, ρ 17, ρ 18, ρ 19, ρ 20, ρ 21, ρ 14, ρ 15, ρ 16, ρ 17, ρ 18, ρ 19, ρ 20] 14 = wv [ρ 14, ρ 15, ρ 16, ρ 17, ρ 18, ρ 19, ρ 20] 0 := rfl
    have f5 : nth [ρ 0, ρ 1, ρ 2, ρ 3, ρ 4, ρ 5, ρ 6, ρ 7, ρ 8, ρ 9, ρ 10, ρ 11, ρ 12, ρ 13, ρ 14, ρ 15, ρ 16, ρ 17, ρ 18, ρ 19, ρ 20, ρ 21, ρ 14, ρ 15, ρ 16, ρ 17, ρ 18, ρ 19, ρ 20] 21 = ρ 21 := rfl
    refine ⟨wok_of (b := 14) hw (by decide) rfl rfl rfl rfl rfl rfl rfl, ?_⟩
    rw [f1, f2, f5, hm]
    intro ha ho
    rw [Nat.pow_zero, Nat.mod_one, Int.pow_zero, Int.mul_one, Int.natCast_zero, Int.mul_zero, Int.add_zero]
    exact (Int.emod_eq_of_lt (wv_range (l := [ρ 14, ρ 15, ρ 16, ρ 17, ρ 18, ρ 19, ρ 20]) (i := 0) ⟨hw 14 (by decide), hw 15 (by decide), hw 16 (by decide), hw 17 (by decide), hw 18 (by decide), hw 19 (by decide), hw 20 (by decide)⟩).1 ho).symm
end Go.Proofs.YtmogojlijkddpaaGreat
namespace Go.Vm
def pm2 : Nat := 26959946667150639794667015087019630673557916260026308143510066298879
def nm2 : Nat := 26959946667150639794667015087019625940457807714424391721682722368059
def PowP (l : List Int) : Prop := wok l 14 /\ wv l 14 < p224 /\ wv l 14 % p224 = ipw (wv l 0) (wv l 7).toNat % p224
def OrdTimesP (l : List Int) : Prop := wok l 14 /\ (wv l 0 < n224 -> wv l 14 = (wv l 0 * wv l 7) % n224)
def InvP (l : List Int) : Prop := wok l 7 /\ wv l 7 < p224 /\ wv l 7 % p224 = ipw (wv l 0) pm2 % p224
def OInvLP (l : List Int) : Prop := wok l 22 /\ (wv l 0 < n224 -> wv l 14 < n224 -> wv l 22 < n224 /\
  wv l 22 % n224 = (ipw (wv l 14) (2 ^ (nth l 21 + 1).toNat) * ipw (wv l 0) ((wv l 7).toNat % 2 ^ (nth l 21 + 1).toNat)) % n224)
def OInvP (l : List Int) : Prop := wok l 7 /\ (wv l 0 < n224 -> wv l 7 < n224 /\ wv l 7 % n224 = ipw (wv l 0) nm2 % n224)
structure FZ (X : Tk) : Prop extends FY X where
  pow : ∀ l, X 33 l ↔ PowP l
  ordTimes : ∀ l, X 34 l ↔ OrdTimesP l
  inv : ∀ l, X 35 l ↔ InvP l
  oinvL : ∀ l, X 36 l ↔ OInvLP l
  oinv : ∀ l, X 37 l ↔ OInvP l
theorem mod224 {E : Int} (h : 0 <= E /\ E < 26959946667150639794667015087019630673637144422540572481103610249216) : E.toNat % 2 ^ (223 + 1 : Int).toNat = E.toNat := by
  refine Nat.mod_eq_of_lt ?_
  show E.toNat < 2 ^ 224
  omega
theorem block_bok {P : Program} {X : Tk} {fn : Func} {id : Nat} {sp : Bs} {s : CSm} (hn : nodupB ((blocksOf (bodyOf fn)).map (·.1)) = true) (hl : loopAt (bodyOf fn) id = some (loopIn fn id))
    (h : LoopSp P X (loopIn fn id) s.spec) (hs : sp = (s.asBlock id).spec) : ∀ body, fn.body = some body -> BOK P X (blockB id sp) body := fun body hb => by
  have e : bodyOf fn = body := by unfold bodyOf; rw [hb]
  rw [<- e]
  refine BOK_loops (nodupB_spec hn) fun i sp' hs' => ?_
  unfold blockB at hs'
  split at hs'
  · rename_i hi
    simp only [Option.some.injEq] at hs'
    subst hi hs'
    rw [hs]
    exact ⟨_, hl, block_sum h⟩
  · cases hs'
end Go.Vm
namespace Go.Proofs.YtmogojlijkddpaaGreat
open Go.Vm
variable {X : Tk}
def powT1 : Con := .ext 30 [.var 0, .var 1, .var 2, .var 3, .var 4, .var 5, .var 6, .var 7, .var 8, .var 9, .var 10, .var 11, .var 12, .var 13, .const 1, .const 0, .const 0, .const 0, .const 0, .const 0, .const 0, .const 223, .const 1, .const 0, .const 0, .const 0, .const 0, .const 0, .const 0]
def powT2 : Con := .ext 30 [.var 0, .var 1, .var 2, .var 3, .var 4, .var 5, .var 6, .var 7, .var 8, .var 9, .var 10, .var 11, .var 12, .var 13, .const 1, .const 0, .const 0, .const 0, .const 0, .const 0, .const 0, .const 223, .var 14, .var 15, .var 16, .var 17, .var 18, .var 19, .var 20]
def powFs : List (Nat × Look) := [(0, ⟨[.const 1, .const 0, .const 0, .const 0, .const 0, .const 0, .const 0], b14, [powT1], []⟩), (0, ⟨vars 14 7, b14, [powT2], []⟩)]
theorem pow_nodup : nodupB ((blocksOf (bodyOf Tryz.f56)).map (·.1)) = true := by kernel_rfl
theorem pow_loop : loopAt (bodyOf Tryz.f56) 0 = some (loopIn Tryz.f56 0) := by kernel_rfl
theorem pow_chk2 : chkFn (execFn EI 3000 (blockB 0 (powL.asBlock 0).spec) Tryz.f56 powS.args powS.start) powS powFs = true := by kernel_rfl
theorem pow_ok2 (h : FZ X) : SpecOK Tryz.prog X 56 powS.spec := by
  refine fn_sumB (EI_ok h.toFY) Tryz.func56 (by kernel_rfl) (block_bok pow_nodup pow_loop (pow_ok h.toFY) rfl) pow_chk2 fun d hd => ?_
  simp only [powFs, List.mem_cons, List.not_mem_nil, or_false] at hd
  rcases hd with rfl | rfl
  · refine endP_of _ 33 _ rfl rfl (fun ρ => [ρ 0, ρ 1, ρ 2, ρ 3, ρ 4, ρ 5, ρ 6, ρ 7, ρ 8, ρ 9, ρ 10, ρ 11, ρ 12, ρ 13, 1, 0, 0, 0, 0, 0, 0]) (fun ρ => by kernel_rfl) fun ρ hs => (h.pow _).2 ?_
    have t := (h.powL _).1 (tok (hs.ks powT1 (by simp)) (l := [ρ 0, ρ 1, ρ 2, ρ 3, ρ 4, ρ 5, ρ 6, ρ 7, ρ 8, ρ 9, ρ 10, ρ 11, ρ 12, ρ 13, 1, 0, 0, 0, 0, 0, 0, 223, 1, 0, 0, 0, 0, 0, 0]) (by kernel_rfl))
    have f1 : wv [ρ 0, ρ 1, ρ 2, ρ 3, ρ 4, ρ 5, ρ 6, ρ 7, ρ 8, ρ 9, ρ 10, ρ 11, ρ 12, ρ 13, 1, 0, 0, 0, 0, 0, 0, 223, 1, 0, 0, 0, 0, 0, 0] 22 = wv [1, 0, 0, 0, 0, 0, 0] 0 := rfl
    have f2 : wv [ρ 0, ρ 1, ρ 2, ρ 3, ρ 4, ρ 5, ρ 6, ρ 7, ρ 8, ρ 9, ρ 10, ρ 11, ρ 12, ρ 13, 1, 0, 0, 0, 0, 0, 0, 223, 1, 0, 0, 0, 0, 0, 0] 14 = 1 := by kernel_rfl
    have f3 : wv [ρ 0, ρ 1, ρ 2, ρ 3, ρ 4, ρ 5, ρ 6, ρ 7, ρ 8, ρ 9, ρ 10, ρ 11, ρ 12, ρ 13, 1, 0, 0, 0, 0, 0, 0, 223, 1, 0, 0, 0, 0, 0, 0] 0 = wv [ρ 0, ρ 1, ρ 2, ρ 3, ρ 4, ρ 5, ρ 6] 0 := rfl
    have f4 : wv [ρ 0, ρ 1, ρ 2, ρ 3, ρ 4, ρ 5, ρ 6, ρ 7, ρ 8, ρ 9, ρ 10, ρ 11, ρ 12, ρ 13, 1, 0, 0, 0, 0, 0, 0, 223, 1, 0, 0, 0, 0, 0, 0] 7 = wv [ρ 7, ρ 8, ρ 9, ρ 10, ρ 11, ρ 12, ρ 13] 0 := rfl
    have f5 : nth [ρ 0, ρ 1, ρ 2, ρ 3, ρ 4, ρ 5, ρ 6, ρ 7, ρ 8, ρ 9, ρ 10, ρ 11, ρ 12, ρ 13, 1, 0, 0, 0, 0, 0, 0, 223, 1, 0, 0, 0, 0, 0, 0] 21 = 223 := rfl
    have g1 : wv [ρ 0, ρ 1, ρ 2, ρ 3, ρ 4, ρ 5, ρ 6, ρ 7, ρ 8, ρ 9, ρ 10, ρ 11, ρ 12, ρ 13, 1, 0, 0, 0, 0, 0, 0] 14 = wv [1, 0, 0, 0, 0, 0, 0] 0 := rfl
    have g2 : wv [ρ 0, ρ 1, ρ 2, ρ 3, ρ 4, ρ 5, ρ 6, ρ 7, ρ 8, ρ 9, ρ 10, ρ 11, ρ 12, ρ 13, 1, 0, 0, 0, 0, 0, 0] 0 = wv [ρ 0, ρ 1, ρ 2, ρ 3, ρ 4, ρ 5, ρ 6] 0 := rfl
    have g3 : wv [ρ 0, ρ 1, ρ 2, ρ 3, ρ 4, ρ 5, ρ 6, ρ 7, ρ 8, ρ 9, ρ 10, ρ 11, ρ 12, ρ 13, 1, 0, 0, 0, 0, 0, 0] 7 = wv [ρ 7, ρ 8, ρ 9, ρ 10, ρ 11, ρ 12, ρ 13] 0 := rfl
    obtain ⟨_, b7, b8, b9, b10, b11, b12, b13⟩ := b14_spec hs rfl
    have hE := wv_range (l := [ρ 7, ρ 8, ρ 9, ρ 10, ρ 11, ρ 12, ρ 13]) (i := 0) ⟨b7, b8, b9, b10, b11, b12, b13⟩
    obtain ⟨m, q2, q3⟩ := t
    rw [f1, f2] at q2
    rw [f1, f2, f3, f4, f5, mod224 hE, ipw_one, Int.one_mul] at q3
    refine ⟨by simpa only [wok, nth] using m, ?_, ?_⟩
    · rw [g1]; exact q2 (by decide)
    · rw [g1, g2, g3]; exact q3
  · refine endP_of _ 33 _ rfl rfl (fun ρ => [ρ 0, ρ 1, ρ 2, ρ 3, ρ 4, ρ 5, ρ 6, ρ 7, ρ 8, ρ 9, ρ 10, ρ 11, ρ 12, ρ 13, ρ 14, ρ 15, ρ 16, ρ 17, ρ 18, ρ 19, ρ 20]) (fun ρ => by kernel_rfl) fun ρ hs => (h.pow _).2 ?_
    have t := (h.powL _).1 (tok (hs.ks powT2 (by simp)) (l := [ρ 0, ρ 1, ρ 2, ρ 3, ρ 4, ρ 5, ρ 6, ρ 7, ρ 8, ρ 9, ρ 10, ρ 11, ρ 12, ρ 13, 1, 0, 0, 0, 0, 0, 0, 223, ρ 14, ρ 15, ρ 16, ρ 17, ρ 18, ρ 19, ρ 20]) (by kernel_rfl))
    have f1 : wv [ρ 0, ρ 1, ρ 2, ρ 3, ρ 4, ρ 5, ρ 6, ρ 7, ρ 8, ρ 9, ρ 10, ρ 11, ρ 12, ρ 13, 1, 0, 0, 0, 0, 0, 0, 223, ρ 14, ρ 15, ρ 16, ρ 17, ρ 18, ρ 19, ρ 20] 22 = wv [ρ 14, ρ 15, ρ 16, ρ 17, ρ 18, ρ 19, ρ 20] 0 := rfl
    have f2 : wv [ρ 0, ρ 1, ρ 2, ρ 3, ρ 4, ρ 5, ρ 6, ρ 7, ρ 8, ρ 9, ρ 10, ρ 11, ρ 12, ρ 13, 1, 0, 0, 0, 0, 0, 0, 223, ρ 14, ρ 15, ρ 16, ρ 17, ρ 18, ρ 19, ρ 20] 14 = 1 := by kernel_rfl
    have f3 : wv [ρ 0, ρ 1, ρ 2, ρ 3, ρ 4, ρ 5, ρ 6, ρ 7, ρ 8, ρ 9, ρ 10, ρ 11, ρ 12, ρ 13, 1, 0, 0, 0, 0, 0, 0, 223, ρ 14, ρ 15, ρ 16, ρ 17, ρ 18, ρ 19, ρ 20] 0 = wv [ρ 0, ρ 1, ρ 2, ρ 3, ρ 4, ρ 5, ρ 6] 0 := rfl
    have f4 : wv [ρ 0, ρ 1, ρ 2, ρ 3, ρ 4, ρ 5, ρ 6, ρ 7, ρ 8, ρ 9, ρ 10, ρ 11, ρ 12, ρ 13, 1, 0, 0, 0, 0, 0, 0, 223, ρ 14, ρ 15, ρ 16, ρ 17, ρ 18, ρ 19, ρ 20] 7 = wv [ρ 7, ρ 8, ρ 9, ρ 10, ρ 11, ρ 12, ρ 13] 0 := rfl
    have f5 : nth [ρ 0, ρ 1, ρ 2, ρ 3, ρ 4, ρ 5, ρ 6, ρ 7, ρ 8, ρ 9, ρ 10, ρ 11, ρ 12, ρ 13, 1, 0, 0, 0, 0, 0, 0, 223, ρ 14, ρ 15, ρ 16, ρ 17, ρ 18, ρ 19, ρ 20] 21 = 223 := rfl
    have g1 : wv [ρ 0, ρ 1, ρ 2, ρ 3, ρ 4, ρ 5, ρ 6, ρ 7, ρ 8, ρ 9, ρ 10, ρ 11, ρ 12, ρ 13, ρ 14, ρ 15, ρ 16, ρ 17, ρ 18, ρ 19, ρ 20] 14 = wv [ρ 14, ρ 15, ρ 16, ρ 17, ρ 18, ρ 19, ρ 20] 0 := rfl
    have g2 : wv [ρ 0, ρ 1, ρ 2, ρ 3, ρ 4, ρ 5, ρ 6, ρ 7, ρ 8, ρ 9, ρ 10, ρ 11, ρ 12, ρ 13, ρ 14, ρ 15, ρ 16, ρ 17, ρ 18, ρ 19, ρ 20] 0 = wv [ρ 0, ρ 1, ρ 2, ρ 3, ρ 4, ρ 5, ρ 6] 0 := rfl
    have g3 : wv [ρ 0, ρ 1, ρ 2, ρ 3, ρ 4, ρ 5, ρ 6, ρ 7, ρ 8, ρ 9, ρ 10, ρ 11, ρ 12, ρ 13, ρ 14, ρ 15, ρ 16, ρ 17, ρ 18, ρ 19, ρ 20] 7 = wv [ρ 7, ρ 8, ρ 9, ρ 10, ρ 11, ρ 12, ρ 13] 0 := rfl
    obtain ⟨_, b7, b8, b9, b10, b11, b12, b13⟩ := b14_spec hs rfl
    have hE := wv_range (l := [ρ 7, ρ 8, ρ 9, ρ 10, ρ 11, ρ 12, ρ 13]) (i := 0) ⟨b7, b8, b9, b10, b11, b12, b13⟩
    obtain ⟨m, q2, q3⟩ := t
    rw [f1, f2] at q2
    rw [f1, f2, f3, f4, f5, mod224 hE, ipw_one, Int.one_mul] at q3
    refine ⟨by simpa only [wok, nth] using m, ?_, ?_⟩
    · rw [g1]; exact q2 (by decide)
    · rw [g1, g2, g3]; exact q3
def ordT1 : Con := .ext 32 [.var 0, .var 1, .var 2, .var 3, .var 4, .var 5, .var 6, .var 7, .var 8, .var 9, .var 10, .var 11, .var 12, .var 13, .const 0, .const 0, .const 0, .const 0, .const 0, .const 0, .const 0, .const 223, .const 0, .const 0, .const 0, .const 0, .const 0, .const 0, .const 0]
def ordT2 : Con := .ext 32 [.var 0, .var 1, .var 2, .var 3, .var 4, .var 5, .var 6, .var 7, .var 8, .var 9, .var 10, .var 11, .var 12, .var 13, .const 0, .const 0, .const 0, .const 0, .const 0, .const 0, .const 0, .const 223, .var 14, .var 15, .var 16, .var 17, .var 18, .var 19, .var 20]
def ordFs : List (Nat × Look) := [(0, ⟨[.const 0, .const 0, .const 0, .const 0, .const 0, .const 0, .const 0], b14, [ordT1], []⟩), (0, ⟨vars 14 7, b14, [ordT2], []⟩)]
theorem ord_nodup : nodupB ((blocksOf (bodyOf Tryz.f18)).map (·.1)) = true := by kernel_rfl
theorem ord_loop : loopAt (bodyOf Tryz.f18) 0 = some (loopIn Tryz.f18 0) := by kernel_rfl
theorem ord_chk2 : chkFn (execFn EI 3000 (blockB 0 (ordL.asBlock 0).spec) Tryz.f18 ordTimesS.args ordTimesS.start) ordTimesS ordFs = true := by kernel_rfl
theorem ord_ok2 (h : FZ X) : SpecOK Tryz.prog X 18 ordTimesS.spec := by
  refine fn_sumB (EI_ok h.toFY) Tryz.func18 (by kernel_rfl) (block_bok ord_nodup ord_loop (ord_ok h.toFY) rfl) ord_chk2 fun d hd => ?_
  simp only [ordFs, List.mem_cons, List.not_mem_nil, or_false] at hd
  rcases hd with rfl | rfl
  · refine endP_of _ 34 _ rfl rfl (fun ρ => [ρ 0, ρ 1, ρ 2, ρ 3, ρ 4, ρ 5, ρ 6, ρ 7, ρ 8, ρ 9, ρ 10, ρ 11, ρ 12, ρ 13, 0, 0, 0, 0, 0, 0, 0]) (fun ρ => by kernel_rfl) fun ρ hs => (h.ordTimes _).2 ?_
    have t := (h.ordL _).1 (tok (hs.ks ordT1 (by simp)) (l := [ρ 0, ρ 1, ρ 2, ρ 3, ρ 4, ρ 5, ρ 6, ρ 7, ρ 8, ρ 9, ρ 10, ρ 11, ρ 12, ρ 13, 0, 0, 0, 0, 0, 0, 0, 223, 0, 0, 0, 0, 0, 0, 0]) (by kernel_rfl))
    have f1 : wv [ρ 0, ρ 1, ρ 2, ρ 3, ρ 4, ρ 5, ρ 6, ρ 7, ρ 8, ρ 9, ρ 10, ρ 11, ρ 12, ρ 13, 0, 0, 0, 0, 0, 0, 0, 223, 0, 0, 0, 0, 0, 0, 0] 22 = wv [0, 0, 0, 0, 0, 0, 0] 0 := rfl
    have f2 : wv [ρ 0, ρ 1, ρ 2, ρ 3, ρ 4, ρ 5, ρ 6, ρ 7, ρ 8, ρ 9, ρ 10, ρ 11, ρ 12, ρ 13, 0, 0, 0, 0, 0, 0, 0, 223, 0, 0, 0, 0, 0, 0, 0] 14 = 0 := by kernel_rfl
    have f3 : wv [ρ 0, ρ 1, ρ 2, ρ 3, ρ 4, ρ 5, ρ 6, ρ 7, ρ 8, ρ 9, ρ 10, ρ 11, ρ 12, ρ 13, 0, 0, 0, 0, 0, 0, 0, 223, 0, 0, 0, 0, 0, 0, 0] 0 = wv [ρ 0, ρ 1, ρ 2, ρ 3, ρ 4, ρ 5, ρ 6] 0 := rfl
    have f4 : wv [ρ 0, ρ 1, ρ 2, ρ 3, ρ 4, ρ 5, ρ 6, ρ 7, ρ 8, ρ 9, ρ 10, ρ 11, ρ 12, ρ 13, 0, 0, 0, 0, 0, 0, 0, 223, 0, 0, 0, 0, 0, 0, 0] 7 = wv [ρ 7, ρ 8, ρ 9, ρ 10, ρ 11, ρ 12, ρ 13] 0 := rfl
    have f5 : nth [ρ 0, ρ 1, ρ 2, ρ 3, ρ 4, ρ 5, ρ 6, ρ 7, ρ 8, ρ 9, ρ 10, ρ 11, ρ 12, ρ 13, 0, 0, 0, 0, 0, 0, 0, 223, 0, 0, 0, 0, 0, 0, 0] 21 = 223 := rfl
    have g1 : wv [ρ 0, ρ 1, ρ 2, ρ 3, ρ 4, ρ 5, ρ 6, ρ 7, ρ 8, ρ 9, ρ 10, ρ 11, ρ 12, ρ 13, 0, 0, 0, 0, 0, 0, 0] 14 = wv [0, 0, 0, 0, 0, 0, 0] 0 := rfl
    have g2 : wv [ρ 0, ρ 1, ρ 2, ρ 3, ρ 4, ρ 5, ρ 6, ρ 7, ρ 8, ρ 9, ρ 10, ρ 11, ρ 12, ρ 13, 0, 0, 0, 0, 0, 0, 0] 0 = wv [ρ 0, ρ 1, ρ 2, ρ 3, ρ 4, ρ 5, ρ 6] 0 := rfl
    have g3 : wv [ρ 0, ρ 1, ρ 2, ρ 3, ρ 4, ρ 5, ρ 6, ρ 7, ρ 8, ρ 9, ρ 10, ρ 11, ρ 12, ρ 13, 0, 0, 0, 0, 0, 0, 0] 7 = wv [ρ 7, ρ 8, ρ 9, ρ 10, ρ 11, ρ 12, ρ 13] 0 := rfl
    obtain ⟨_, b7, b8, b9, b10, b11, b12, b13⟩ := b14_spec hs rfl
    have hE := wv_range (l := [ρ 7, ρ 8, ρ 9, ρ 10, ρ 11, ρ 12, ρ 13]) (i := 0) ⟨b7, b8, b9, b10, b11, b12, b13⟩
    obtain ⟨m, q⟩ := t
    rw [f1, f2, f3, f4, f5, mod224 hE, Int.zero_mul, Int.zero_add, Int.toNat_of_nonneg hE.1] at q
    refine ⟨by simpa only [wok, nth] using m, ?_⟩
    rw [g1, g2, g3]
    exact fun ha => q ha (by decide)
  · refine endP_of _ 34 _ rfl rfl (fun ρ => [ρ 0, ρ 1, ρ 2, ρ 3, ρ 4, ρ 5, ρ 6, ρ 7, ρ 8, ρ 9, ρ 10, ρ 11, ρ 12, ρ 13, ρ 14, ρ 15, ρ 16, ρ 17, ρ 18, ρ 19, ρ 20]) (fun ρ => by kernel_rfl) fun ρ hs => (h.ordTimes _).2 ?_
    have t := (h.ordL _).1 (tok (hs.ks ordT2 (by simp)) (l := [ρ 0, ρ 1, ρ 2, ρ 3, ρ 4, ρ 5, ρ 6, ρ 7, ρ 8, ρ 9, ρ 10, ρ 11, ρ 12, ρ 13, 0, 0, 0, 0, 0, 0, 0, 223, ρ 14, ρ 15, ρ 16, ρ 17, ρ 18, ρ 19, ρ 20]) (by kernel_rfl))
    have f1 : wv [ρ 0, ρ 1, ρ 2, ρ 3, ρ 4, ρ 5, ρ 6, ρ 7, ρ 8, ρ 9, ρ 10, ρ 11, ρ 12, ρ 13, 0, 0, 0, 0, 0, 0, 0, 223, ρ 14, ρ 15, ρ 16, ρ 17, ρ 18, ρ 19, ρ 20] 22 = wv [ρ 14, ρ 15, ρ 16, ρ 17, ρ 18, ρ 19, ρ 20] 0 := rfl
    have f2 : wv [ρ 0, ρ 1, ρ 2, ρ 3, ρ 4, ρ 5, ρ 6, ρ 7, ρ 8, ρ 9, ρ 10, ρ 11, ρ 12, ρ 13, 0, 0, 0, 0, 0, 0, 0, 223, ρ 14, ρ 15, ρ 16, ρ 17, ρ 18, ρ 19, ρ 20] 14 = 0 := by kernel_rfl
    have f3 : wv [ρ 0, ρ 1, ρ 2, ρ 3, ρ 4, ρ 5, ρ 6, ρ 7, ρ 8, ρ 9, ρ 10, ρ 11, ρ 12, ρ 13, 0, 0, 0, 0, 0, 0, 0, 223, ρ 14, ρ 15, ρ 16, ρ 17, ρ 18, ρ 19, ρ 20] 0 = wv [ρ 0, ρ 1, ρ 2, ρ 3, ρ 4, ρ 5, ρ 6] 0 := rfl
    have f4 : wv [ρ 0, ρ 1, ρ 2, ρ 3, ρ 4, ρ 5, ρ 6, ρ 7, ρ 8, ρ 9, ρ 10, ρ 11, ρ 12, ρ 13, 0, 0, 0, 0, 0, 0, 0, 223, ρ 14, ρ 15, ρ 16, ρ 17, ρ 18, ρ 19, ρ 20] 7 = wv [ρ 7, ρ 8, ρ 9, ρ 10, ρ 11, ρ 12, ρ 13] 0 := rfl
    have f5 : nth [ρ 0, ρ 1, ρ 2, ρ 3, ρ 4, ρ 5, ρ 6, ρ 7, ρ 8, ρ 9, ρ 10, ρ 11, ρ 12, ρ 13, 0, 0, 0, 0, 0, 0, 0, 223, ρ 14, ρ 15, ρ 16, ρ 17, ρ 18, ρ 19, ρ 20] 21 = 223 := rfl
    have g1 : wv [ρ 0, ρ 1, ρ 2, ρ 3, ρ 4, ρ 5, ρ 6, ρ 7, ρ 8, ρ 9, ρ 10, ρ 11, ρ 12, ρ 13, ρ 14, ρ 15, ρ 16, ρ 17, ρ 18, ρ 19, ρ 20] 14 = wv [ρ 14, ρ 15, ρ 16, ρ 17, ρ 18, ρ 19, ρ 20] 0 := rfl
    have g2 : wv [ρ 0, ρ 1, ρ 2, ρ 3, ρ 4, ρ 5, ρ 6, ρ 7, ρ 8, ρ 9, ρ 10, ρ 11, ρ 12, ρ 13, ρ 14, ρ 15, ρ 16, ρ 17, ρ 18, ρ 19, ρ 20] 0 = wv [ρ 0, ρ 1, ρ 2, ρ 3, ρ 4, ρ 5, ρ 6] 0 := rfl
    have g3 : wv [ρ 0, ρ 1, ρ 2, ρ 3, ρ 4, ρ 5, ρ 6, ρ 7, ρ 8, ρ 9, ρ 10, ρ 11, ρ 12, ρ 13, ρ 14, ρ 15, ρ 16, ρ 17, ρ 18, ρ 19, ρ 20] 7 = wv [ρ 7, ρ 8, ρ 9, ρ 10, ρ 11, ρ 12, ρ 13] 0 := rfl
    obtain ⟨_, b7, b8, b9, b10, b11, b12, b13⟩ := b14_spec hs rfl
    have hE := wv_range (l := [ρ 7, ρ 8, ρ 9, ρ 10, ρ 11, ρ 12, ρ 13]) (i := 0) ⟨b7, b8, b9, b10, b11, b12, b13⟩
    obtain ⟨m, q⟩ := t
    rw [f1, f2, f3, f4, f5, mod224 hE, Int.zero_mul, Int.zero_add, Int.toNat_of_nonneg hE.1] at q
    refine ⟨by simpa only [wok, nth] using m, ?_⟩
    rw [g1, g2, g3]
    exact fun ha => q ha (by decide)
def specK (f : FuncId) : Option (Fs) := match f with | 56 => some powS.spec | 18 => some ordTimesS.spec | f => specI f
theorem specK_ok (h : FZ X) : ∀ f sp, specK f = some sp -> FnOK Tryz.prog f /\ SpecOK Tryz.prog X f sp := fun f sp hs => by
  unfold specK at hs
  split at hs
  · simp only [Option.some.injEq] at hs; subst hs
    exact ⟨fn_ok Tryz.func56 (by kernel_rfl) (by kernel_rfl), pow_ok2 h⟩
  · simp only [Option.some.injEq] at hs; subst hs
    exact ⟨fn_ok Tryz.func18 (by kernel_rfl) (by kernel_rfl), ord_ok2 h⟩
  · exact specI_ok h.toFY _ _ hs
def EK : Env := mkEnv Tryz.prog tyTree fnTree ext0 specK
theorem EK_ok (h : FZ X) : EnvOK Tryz.prog X EK := mkEnv_ok mixed_ok tys_ok fns_ok names_ok ext0_ok (specK_ok h)
def invT : Con := .ext 33 (vars 0 7 ++ [.const 4294967295, .const 4294967295, .const 4294967295, .const 4294967294, .const 4294967295, .const 4294967295, .const 4294967295] ++ vars 7 7)
def invDs : List (Nat × Look) := [(0, ⟨vars 7 7, [], [invT], []⟩)]
theorem inv_chk : chkFn (execCall EK 3000 39 invS.args invS.start) invS invDs = true := by kernel_rfl
theorem inv_ok (h : FZ X) : SpecOK Tryz.prog X 39 invS.spec := by
  refine fn_sum (EK_ok h) inv_chk fun d hd => ?_
  simp only [invDs, List.mem_singleton] at hd
  subst hd
  refine endP_of _ 35 _ rfl rfl (fun ρ => [ρ 0, ρ 1, ρ 2, ρ 3, ρ 4, ρ 5, ρ 6, ρ 7, ρ 8, ρ 9, ρ 10, ρ 11, ρ 12, ρ 13]) (fun ρ => by kernel_rfl) fun ρ hs => (h.inv _).2 ?_
  obtain ⟨m, q2, q3⟩ := (h.pow _).1 (tok (hs.ks invT (by simp)) (l := [ρ 0, ρ 1, ρ 2, ρ 3, ρ 4, ρ 5, ρ 6, 4294967295, 4294967295, 4294967295, 4294967294, 4294967295, 4294967295, 4294967295, ρ 7, ρ 8, ρ 9, ρ 10, ρ 11, ρ 12, ρ 13]) (by kernel_rfl))
  have f1 : wv [ρ 0, ρ 1, ρ 2, ρ 3, ρ 4, ρ 5, ρ 6, 4294967295, 4294967295, 4294967295, 4294967294, 4294967295, 4294967295, 4294967295, ρ 7, ρ 8, ρ 9, ρ 10, ρ 11, ρ 12, ρ 13] 14 = wv [ρ 0, ρ 1, ρ 2, ρ 3, ρ 4, ρ 5, ρ 6, ρ 7, ρ 8, ρ 9, ρ 10, ρ 11, ρ 12, ρ 13] 7 := rfl
  have f2 : wv [ρ 0, ρ 1, ρ 2, ρ 3, ρ 4, ρ 5, ρ 6, 4294967295, 4294967295, 4294967295, 4294967294, 4294967295, 4294967295, 4294967295, ρ 7, ρ 8, ρ 9, ρ 10, ρ 11, ρ 12, ρ 13] 0 = wv [ρ 0, ρ 1, ρ 2, ρ 3, ρ 4, ρ 5, ρ 6, ρ 7, ρ 8, ρ 9, ρ 10, ρ 11, ρ 12, ρ 13] 0 := rfl
  have f3 : (wv [ρ 0, ρ 1, ρ 2, ρ 3, ρ 4, ρ 5, ρ 6, 4294967295, 4294967295, 4294967295, 4294967294, 4294967295, 4294967295, 4294967295, ρ 7, ρ 8, ρ 9, ρ 10, ρ 11, ρ 12, ρ 13] 7).toNat = pm2 := by kernel_rfl
  rw [f1] at q2
  rw [f1, f2, f3] at q3
  exact ⟨by simpa only [wok, nth] using m, q2, q3⟩
open Go.Vm
variable {X : Tk}
def oinvK1 : List Con := [.test (.cmp .geq (.var 21) (.const 0)) true, .ext 34 (vars 14 7 ++ vars 14 7 ++ vars 22 7), .test (.cmp .eql (bitIE 7 21) (.const 1)) true, .ext 34 (vars 22 7 ++ vars 0 7 ++ vars 29 7), .eq 36 (.sub (.var 21) (.const 1))]
def oinvK2 : List Con := [.test (.cmp .geq (.var 21) (.const 0)) true, .ext 34 (vars 14 7 ++ vars 14 7 ++ vars 22 7), .test (.cmp .eql (bitIE 7 21) (.const 1)) false, .eq 29 (.sub (.var 21) (.const 1))]
def oinvB : List (Nat × Int × Int) := b22 ++ [(21, (0, 223))]
def oinvDs : List RoundD :=
  [.go (vars 0 14 ++ vars 29 7 ++ [.var 36]) ⟨[], oinvB, oinvK1, []⟩ [(1, ⟨vars 29 7, oinvB, .ext 36 (vars 0 14 ++ vars 29 7 ++ [.var 36] ++ vars 29 7) :: oinvK1, []⟩), (1, ⟨vars 37 7, oinvB, .ext 36 (vars 0 14 ++ vars 29 7 ++ [.var 36] ++ vars 37 7) :: oinvK1, []⟩)],
   .go (vars 0 14 ++ vars 22 7 ++ [.var 29]) ⟨[], oinvB, oinvK2, []⟩ [(1, ⟨vars 22 7, oinvB, .ext 36 (vars 0 14 ++ vars 22 7 ++ [.var 29] ++ vars 22 7) :: oinvK2, []⟩), (1, ⟨vars 30 7, oinvB, .ext 36 (vars 0 14 ++ vars 22 7 ++ [.var 29] ++ vars 30 7) :: oinvK2, []⟩)],
   .stop 0 ⟨[], b22 ++ [(21, (-1, 223))], [.test (.cmp .geq (.var 21) (.const 0)) false], []⟩]
theorem oinvL_chk : chkLoop (exec EK 3000 (fun _ => none) (loopIn Tryz.f17 0) oinvL.start) oinvL oinvDs = true := by kernel_rfl
def oinvM (ρ : Nat -> Int) : Nat := (ρ 21 + 1).toNat
theorem oinv_end1 (h : FZ X) {L : Look} {ρ : Nat -> Int} (hs : Seen X L ρ) (hB : ∀ b ∈ oinvB, b ∈ L.bds) (hK : ∀ k ∈ oinvK1, k ∈ L.ks) {r : List Int} (hr : r.length = 7) (ht : X 36 ([ρ 0, ρ 1, ρ 2, ρ 3, ρ 4, ρ 5, ρ 6, ρ 7, ρ 8, ρ 9, ρ 10, ρ 11, ρ 12, ρ 13, ρ 29, ρ 30, ρ 31, ρ 32, ρ 33, ρ 34, ρ 35, ρ 36] ++ r)) : X 36 ([ρ 0, ρ 1, ρ 2, ρ 3, ρ 4, ρ 5, ρ 6, ρ 7, ρ 8, ρ 9, ρ 10, ρ 11, ρ 12, ρ 13, ρ 14, ρ 15, ρ 16, ρ 17, ρ 18, ρ 19, ρ 20, ρ 21] ++ r) := by
  obtain ⟨r0, r1, r2, r3, r4, r5, r6, rfl⟩ : ∃ r0 r1 r2 r3 r4 r5 r6, r = [r0, r1, r2, r3, r4, r5, r6] := by
    match r, hr with
    | [r0, r1, r2, r3, r4, r5, r6], _ => exact ⟨r0, r1, r2, r3, r4, r5, r6, rfl⟩
  simp only [List.cons_append, List.nil_append] at ht ⊢
  have hw : ∀ i, i < 21 -> wd (ρ i) := b22_spec hs fun b hb => hB b (List.mem_append_left _ hb)
  have hi := hs.bds (21, (0, 223)) (hB _ (by simp [oinvB]))
  simp only at hi
  have t1 := (h.ordTimes _).1 (tok (hs.ks _ (hK (.ext 34 (vars 14 7 ++ vars 14 7 ++ vars 22 7)) (by simp [oinvK1]))) (l := [ρ 14, ρ 15, ρ 16, ρ 17, ρ 18, ρ 19, ρ 20, ρ 14, ρ 15, ρ 16, ρ 17, ρ 18, ρ 19, ρ 20, ρ 22, ρ 23, ρ 24, ρ 25, ρ 26, ρ 27, ρ 28]) (by kernel_rfl))
  have t2 := (h.ordTimes _).1 (tok (hs.ks _ (hK (.ext 34 (vars 22 7 ++ vars 0 7 ++ vars 29 7)) (by simp [oinvK1]))) (l := [ρ 22, ρ 23, ρ 24, ρ 25, ρ 26, ρ 27, ρ 28, ρ 0, ρ 1, ρ 2, ρ 3, ρ 4, ρ 5, ρ 6, ρ 29, ρ 30, ρ 31, ρ 32, ρ 33, ρ 34, ρ 35]) (by kernel_rfl))
  have tb := hs.ks _ (hK (.test (.cmp .eql (bitIE 7 21) (.const 1)) true) (by simp [oinvK1]))
  have te := hs.ks _ (hK (.eq 36 (.sub (.var 21) (.const 1))) (by simp [oinvK1]))
  simp only [Con.holds, BE.eval, intCmp] at tb te
  rw [bit_spec ⟨hw 7 (by decide), hw 8 (by decide), hw 9 (by decide), hw 10 (by decide), hw 11 (by decide), hw 12 (by decide), hw 13 (by decide)⟩ hi] at tb
  simp only [IE.eval, beq_iff_eq] at tb te
  have hE := (wv_range (l := [ρ 7, ρ 8, ρ 9, ρ 10, ρ 11, ρ 12, ρ 13]) (i := 0) ⟨hw 7 (by decide), hw 8 (by decide), hw 9 (by decide), hw 10 (by decide), hw 11 (by decide), hw 12 (by decide), hw 13 (by decide)⟩).1
  obtain ⟨m, hm⟩ : ∃ m : Nat, ρ 21 = (m : Int) := Int.eq_ofNat_of_zero_le hi.1
  have hm1 : (ρ 21 + 1).toNat = m + 1 := by omega
  have hm0 : (ρ 36 + 1).toNat = m := by omega
  have hmm : (ρ 21).toNat = m := by omega
  have hbt := bit_top hE m
  rw [hmm] at tb
  have hbit : ((wv [ρ 7, ρ 8, ρ 9, ρ 10, ρ 11, ρ 12, ρ 13] 0 / 2 ^ m) % 2).toNat = 1 := by
    rw [tb]; rfl
  rw [hbit] at hbt
  have q := (h.oinvL _).1 ht
  refine (h.oinvL _).2 ?_
  obtain ⟨q1, q2⟩ := q
  obtain ⟨m1, e1⟩ := t1
  obtain ⟨m2, e2⟩ := t2
  have f1 : wv [ρ 0, ρ 1, ρ 2, ρ 3, ρ 4, ρ 5, ρ 6, ρ 7, ρ 8, ρ 9, ρ 10, ρ 11, ρ 12, ρ 13, ρ 29, ρ 30, ρ 31, ρ 32, ρ 33, ρ 34, ρ 35, ρ 36, r0, r1, r2, r3, r4, r5, r6] 22 = wv [r0, r1, r2, r3, r4, r5, r6] 0 := rfl
  have f1' : wv [ρ 0, ρ 1, ρ 2, ρ 3, ρ 4, ρ 5, ρ 6, ρ 7, ρ 8, ρ 9, ρ 10, ρ 11, ρ 12, ρ 13, ρ 14, ρ 15, ρ 16, ρ 17, ρ 18, ρ 19, ρ 20, ρ 21, r0, r1, r2, r3, r4, r5, r6] 22 = wv [r0, r1, r2, r3, r4, r5, r6] 0 := rfl
  have f2 : wv [ρ 0, ρ 1, ρ 2, ρ 3, ρ 4, ρ 5, ρ 6, ρ 7, ρ 8, ρ 9, ρ 10, ρ 11, ρ 12, ρ 13, ρ 29, ρ 30, ρ 31, ρ 32, ρ 33, ρ 34, ρ 35, ρ 36, r0, r1, r2, r3, r4, r5, r6] 14 = wv [ρ 29, ρ 30, ρ 31, ρ 32, ρ 33, ρ 34, ρ 35] 0 := rfl
  have f2' : wv [ρ 0, ρ 1, ρ 2, ρ 3, ρ 4, ρ 5, ρ 6, ρ 7, ρ 8, ρ 9, ρ 10, ρ 11, ρ 12, ρ 13, ρ 14, ρ 15, ρ 16, ρ 17, ρ 18, ρ 19, ρ 20, ρ 21, r0, r1, r2, r3, r4, r5, r6] 14 = wv [ρ 14, ρ 15, ρ 16, ρ 17, ρ 18, ρ 19, ρ 20] 0 := rfl
  have f3 : wv [ρ 0, ρ 1, ρ 2, ρ 3, ρ 4, ρ 5, ρ 6, ρ 7, ρ 8, ρ 9, ρ 10, ρ 11, ρ 12, ρ 13, ρ 29, ρ 30, ρ 31, ρ 32, ρ 33, ρ 34, ρ 35, ρ 36, r0, r1, r2, r3, r4, r5, r6] 0 = wv [ρ 0, ρ 1, ρ 2, ρ 3, ρ 4, ρ 5, ρ 6] 0 := rfl
  have f3' : wv [ρ 0, ρ 1, ρ 2, ρ 3, ρ 4, ρ 5, ρ 6, ρ 7, ρ 8, ρ 9, ρ 10, ρ 11, ρ 12, ρ 13, ρ 14, ρ 15, ρ 16, ρ 17, ρ 18, ρ 19, ρ 20, ρ 21, r0, r1, r2, r3, r4, r5, r6] 0 = wv [ρ 0, ρ 1, ρ 2, ρ 3, ρ 4, ρ 5, ρ 6] 0 := rfl
  have f4 : wv [ρ 0, ρ 1, ρ 2, ρ 3, ρ 4, ρ 5, ρ 6, ρ 7, ρ 8, ρ 9, ρ 10, ρ 11, ρ 12, ρ 13, ρ 29, ρ 30, ρ 31, ρ 32, ρ 33, ρ 34, ρ 35, ρ 36, r0, r1, r2, r3, r4, r5, r6] 7 = wv [ρ 7, ρ 8, ρ 9, ρ 10, ρ 11, ρ 12, ρ 13] 0 := rfl
  have f4' : wv [ρ 0, ρ 1, ρ 2, ρ 3, ρ 4, ρ 5, ρ 6, ρ 7, ρ 8, ρ 9, ρ 10, ρ 11, ρ 12, ρ 13, ρ 14, ρ 15, ρ 16, ρ 17, ρ 18, ρ 19, ρ 20, ρ 21, r0, r1, r2, r3, r4, r5, r6] 7 = wv [ρ 7, ρ 8, ρ 9, ρ 10, ρ 11, ρ 12, ρ 13] 0 := rfl
  have f5 : nth [ρ 0, ρ 1, ρ 2, ρ 3, ρ 4, ρ 5, ρ 6, ρ 7, ρ 8, ρ 9, ρ 10, ρ 11, ρ 12, ρ 13, ρ 29, ρ 30, ρ 31, ρ 32, ρ 33, ρ 34, ρ 35, ρ 36, r0, r1, r2, r3, r4, r5, r6] 21 = ρ 36 := rfl
  have f5' : nth [ρ 0, ρ 1, ρ 2, ρ 3, ρ 4, ρ 5, ρ 6, ρ 7, ρ 8, ρ 9, ρ 10, ρ 11, ρ 12, ρ 13, ρ 14, ρ 15, ρ 16, ρ 17, ρ 18, ρ 19, ρ 20, ρ 21, r0, r1, r2, r3, r4, r5, r6] 21 = ρ 21 := rfl
  have g1 : wv [ρ 14, ρ 15, ρ 16, ρ 17, ρ 18, ρ 19, ρ 20, ρ 14, ρ 15, ρ 16, ρ 17, ρ 18, ρ 19, ρ 20, ρ 22, ρ 23, ρ 24, ρ 25, ρ 26, ρ 27, ρ 28] 14 = wv [ρ 22, ρ 23, ρ 24, ρ 25, ρ 26, ρ 27, ρ 28] 0 := rfl
  have g2 : wv [ρ 14, ρ 15, ρ 16, ρ 17, ρ 18, ρ 19, ρ 20, ρ 14, ρ 15, ρ 16, ρ 17, ρ 18, ρ 19, ρ 20, ρ 22, ρ 23, ρ 24, ρ 25, ρ 26, ρ 27, ρ 28] 0 = wv [ρ 14, ρ 15, ρ 16, ρ 17, ρ 18, ρ 19, ρ 20] 0 := rfl
  have g3 : wv [ρ 14, ρ 15, ρ 16, ρ 17, ρ 18, ρ 19, ρ 20, ρ 14, ρ 15, ρ 16, ρ 17, ρ 18, ρ 19, ρ 20, ρ 22, ρ 23, ρ 24, ρ 25, ρ 26, ρ 27, ρ 28] 7 = wv [ρ 14, ρ 15, ρ 16, ρ 17, ρ 18, ρ 19, ρ 20] 0 := rfl
  rw [g1, g2, g3] at e1
  have g4 : wv [ρ 22, ρ 23, ρ 24, ρ 25, ρ 26, ρ 27, ρ 28, ρ 0, ρ 1, ρ 2, ρ 3, ρ 4, ρ 5, ρ 6, ρ 29, ρ 30, ρ 31, ρ 32, ρ 33, ρ 34, ρ 35] 14 = wv [ρ 29, ρ 30, ρ 31, ρ 32, ρ 33, ρ 34, ρ 35] 0 := rfl
  have g5 : wv [ρ 22, ρ 23, ρ 24, ρ 25, ρ 26, ρ 27, ρ 28, ρ 0, ρ 1, ρ 2, ρ 3, ρ 4, ρ 5, ρ 6, ρ 29, ρ 30, ρ 31, ρ 32, ρ 33, ρ 34, ρ 35] 0 = wv [ρ 22, ρ 23, ρ 24, ρ 25, ρ 26, ρ 27, ρ 28] 0 := rfl
  have g6 : wv [ρ 22, ρ 23, ρ 24, ρ 25, ρ 26, ρ 27, ρ 28, ρ 0, ρ 1, ρ 2, ρ 3, ρ 4, ρ 5, ρ 6, ρ 29, ρ 30, ρ 31, ρ 32, ρ 33, ρ 34, ρ 35] 7 = wv [ρ 0, ρ 1, ρ 2, ρ 3, ρ 4, ρ 5, ρ 6] 0 := rfl
  rw [g4, g5, g6] at e2
  refine ⟨q1, fun ha ho => ?_⟩
  rw [f3'] at ha
  rw [f2'] at ho
  have e1 := e1 ho
  have hlt1 : wv [ρ 22, ρ 23, ρ 24, ρ 25, ρ 26, ρ 27, ρ 28] 0 < n224 := by rw [e1]; exact Int.emod_lt_of_pos _ (by decide)
  have e2 := e2 hlt1
  have hlt2 : wv [ρ 29, ρ 30, ρ 31, ρ 32, ρ 33, ρ 34, ρ 35] 0 < n224 := by rw [e2]; exact Int.emod_lt_of_pos _ (by decide)
  have q2 := q2 (by rw [f3]; exact ha) (by rw [f2]; exact hlt2)
  rw [f1, f2, f3, f4, f5, hm0] at q2
  have ho2 : wv [ρ 29, ρ 30, ρ 31, ρ 32, ρ 33, ρ 34, ρ 35] 0 % n224 = (wv [ρ 14, ρ 15, ρ 16, ρ 17, ρ 18, ρ 19, ρ 20] 0 * wv [ρ 14, ρ 15, ρ 16, ρ 17, ρ 18, ρ 19, ρ 20] 0 * ipw (wv [ρ 0, ρ 1, ρ 2, ρ 3, ρ 4, ρ 5, ρ 6] 0) 1) % n224 := by
    rw [e2, e1, show ipw (wv [ρ 0, ρ 1, ρ 2, ρ 3, ρ 4, ρ 5, ρ 6] 0) 1 = wv [ρ 0, ρ 1, ρ 2, ρ 3, ρ 4, ρ 5, ρ 6] 0 from by rw [ipw_succ, ipw_zero, Int.one_mul], Int.emod_emod_of_dvd _ (Int.dvd_refl _), Int.mul_emod, Int.emod_emod_of_dvd _ (Int.dvd_refl _), <- Int.mul_emod]
  rw [f1', f2', f3', f4', f5', hm1]
  exact ⟨q2.1, pow_step ho2 q2.2 hbt (by decide)⟩
theorem oinv_end0 (h : FZ X) {L : Look} {ρ : Nat -> Int} (hs : Seen X L ρ) (hB : ∀ b ∈ oinvB, b ∈ L.bds) (hK : ∀ k ∈ oinvK2, k ∈ L.ks) {r : List Int} (hr : r.length = 7) (ht : X 36 ([ρ 0, ρ 1, ρ 2, ρ 3, ρ 4, ρ 5, ρ 6, ρ 7, ρ 8, ρ 9, ρ 10, ρ 11, ρ 12, ρ 13, ρ 22, ρ 23, ρ 24, ρ 25, ρ 26, ρ 27, ρ 28, ρ 29] ++ r)) : X 36 ([ρ 0, ρ 1, ρ 2, ρ 3, ρ 4, ρ 5, ρ 6, ρ 7, ρ 8, ρ 9, ρ 10, ρ 11, ρ 12, ρ 13, ρ 14, ρ 15, ρ 16, ρ 17, ρ 18, ρ 19, ρ 20, ρ 21] ++ r) := by
  obtain ⟨r0, r1, r2, r3, r4, r5, r6, rfl⟩ : ∃ r0 r1 r2 r3 r4 r5 r6, r = [r0, r1, r2, r3, r4, r5, r6] := by
    match r, hr with
    | [r0, r1, r2, r3, r4, r5, r6], _ => exact ⟨r0, r1, r2, r3, r4, r5, r6, rfl⟩
  simp only [List.cons_append, List.nil_append] at ht ⊢
  have hw : ∀ i, i < 21 -> wd (ρ i) := b22_spec hs fun b hb => hB b (List.mem_append_left _ hb)
  have hi := hs.bds (21, (0, 223)) (hB _ (by simp [oinvB]))
  simp only at hi
  have t1 := (h.ordTimes _).1 (tok (hs.ks _ (hK (.ext 34 (vars 14 7 ++ vars 14 7 ++ vars 22 7)) (by simp [oinvK2]))) (l := [ρ 14, ρ 15, ρ 16, ρ 17, ρ 18, ρ 19, ρ 20, ρ 14, ρ 15, ρ 16, ρ 17, ρ 18, ρ 19, ρ 20, ρ 22, ρ 23, ρ 24, ρ 25, ρ 26, ρ 27, ρ 28]) (by kernel_rfl))
  have tb := hs.ks _ (hK (.test (.cmp .eql (bitIE 7 21) (.const 1)) false) (by simp [oinvK2]))
  have te := hs.ks _ (hK (.eq 29 (.sub (.var 21) (.const 1))) (by simp [oinvK2]))
  simp only [Con.holds, BE.eval, intCmp] at tb te
  rw [bit_spec ⟨hw 7 (by decide), hw 8 (by decide), hw 9 (by decide), hw 10 (by decide), hw 11 (by decide), hw 12 (by decide), hw 13 (by decide)⟩ hi] at tb
  simp only [IE.eval, beq_eq_false_iff_ne, ne_eq] at tb te
  have hE := (wv_range (l := [ρ 7, ρ 8, ρ 9, ρ 10, ρ 11, ρ 12, ρ 13]) (i := 0) ⟨hw 7 (by decide), hw 8 (by decide), hw 9 (by decide), hw 10 (by decide), hw 11 (by decide), hw 12 (by decide), hw 13 (by decide)⟩).1
  obtain ⟨m, hm⟩ : ∃ m : Nat, ρ 21 = (m : Int) := Int.eq_ofNat_of_zero_le hi.1
  have hm1 : (ρ 21 + 1).toNat = m + 1 := by omega
  have hm0 : (ρ 29 + 1).toNat = m := by omega
  have hmm : (ρ 21).toNat = m := by omega
  have hbt := bit_top hE m
  rw [hmm] at tb
  have hbit : ((wv [ρ 7, ρ 8, ρ 9, ρ 10, ρ 11, ρ 12, ρ 13] 0 / 2 ^ m) % 2).toNat = 0 := by
    rcases Int.emod_two_eq (wv [ρ 7, ρ 8, ρ 9, ρ 10, ρ 11, ρ 12, ρ 13] 0 / 2 ^ m) with h0 | h0
    · rw [h0]; rfl
    · exact absurd h0 tb
  rw [hbit] at hbt
  have q := (h.oinvL _).1 ht
  refine (h.oinvL _).2 ?_
  obtain ⟨q1, q2⟩ := q
  obtain ⟨m1, e1⟩ := t1
  have f1 : wv [ρ 0, ρ 1, ρ 2, ρ 3, ρ 4, ρ 5, ρ 6, ρ 7, ρ 8, ρ 9, ρ 10, ρ 11, ρ 12, ρ 13, ρ 22, ρ 23, ρ 24, ρ 25, ρ 26, ρ 27, ρ 28, ρ 29, r0, r1, r2, r3, r4, r5, r6] 22 = wv [r0, r1, r2, r3, r4, r5, r6] 0 := rfl
  have f1' : wv [ρ 0, ρ 1, ρ 2, ρ 3, ρ 4, ρ 5, ρ 6, ρ 7, ρ 8, ρ 9, ρ 10, ρ 11, ρ 12, ρ 13, ρ 14, ρ 15, ρ 16, ρ 17, ρ 18, ρ 19, ρ 20, ρ 21, r0, r1, r2, r3, r4, r5, r6] 22 = wv [r0, r1, r2, r3, r4, r5, r6] 0 := rfl
  have f2 : wv [ρ 0, ρ 1, ρ 2, ρ 3, ρ 4, ρ 5, ρ 6, ρ 7, ρ 8, ρ 9, ρ 10, ρ 11, ρ 12, ρ 13, ρ 22, ρ 23, ρ 24, ρ 25, ρ 26, ρ 27, ρ 28, ρ 29, r0, r1, r2, r3, r4, r5, r6] 14 = wv [ρ 22, ρ 23, ρ 24, ρ 25, ρ 26, ρ 27, ρ 28] 0 := rfl
  have f2' : wv [ρ 0, ρ 1, ρ 2, ρ 3, ρ 4, ρ 5, ρ 6, ρ 7, ρ 8, ρ 9, ρ 10, ρ 11, ρ 12, ρ 13, ρ 14, ρ 15, ρ 16, ρ 17, ρ 18, ρ 19, ρ 20, ρ 21, r0, r1, r2, r3, r4, r5, r6] 14 = wv [ρ 14, ρ 15, ρ 16, ρ 17, ρ 18, ρ 19, ρ 20] 0 := rfl
  have f3 : wv [ρ 0, ρ 1, ρ 2, ρ 3, ρ 4, ρ 5, ρ 6, ρ 7, ρ 8, ρ 9, ρ 10, ρ 11, ρ 12, ρ 13, ρ 22, ρ 23, ρ 24, ρ 25, ρ 26, ρ 27, ρ 28, ρ 29, r0, r1, r2, r3, r4, r5, r6] 0 = wv [ρ 0, ρ 1, ρ 2, ρ 3, ρ 4, ρ 5, ρ 6] 0 := rfl
  have f3' : wv [ρ 0, ρ 1, ρ 2, ρ 3, ρ 4, ρ 5, ρ 6, ρ 7, ρ 8, ρ 9, ρ 10, ρ 11, ρ 12, ρ 13, ρ 14, ρ 15, ρ 16, ρ 17, ρ 18, ρ 19, ρ 20, ρ 21, r0, r1, r2, r3, r4, r5, r6] 0 = wv [ρ 0, ρ 1, ρ 2, ρ 3, ρ 4, ρ 5, ρ 6] 0 := rfl
  have f4 : wv [ρ 0, ρ 1, ρ 2, ρ 3, ρ 4, ρ 5, ρ 6, ρ 7, ρ 8, ρ 9, ρ 10, ρ 11, ρ 12, ρ 13, ρ 22, ρ 23, ρ 24, ρ 25, ρ 26, ρ 27, ρ 28, ρ 29, r0, r1, r2, r3, r4, r5, r6] 7 = wv [ρ 7, ρ 8, ρ 9, ρ 10, ρ 11, ρ 12, ρ 13] 0 := rfl
  have f4' : wv [ρ 0, ρ 1, ρ 2, ρ 3, ρ 4, ρ 5, ρ 6, ρ 7, ρ 8, ρ 9, ρ 10, ρ 11, ρ 12, ρ 13, ρ 14, ρ 15, ρ 16, ρ 17, ρ 18, ρ 19, ρ 20, ρ 21, r0, r1, r2, r3, r4, r5, r6] 7 = wv [ρ 7, ρ 8, ρ 9, ρ 10, ρ 11, ρ 12, ρ 13] 0 := rfl
  have f5 : nth [ρ 0, ρ 1, ρ 2, ρ 3, ρ 4, ρ 5, ρ 6, ρ 7, ρ 8, ρ 9, ρ 10, ρ 11, ρ 12, ρ 13, ρ 22, ρ 23, ρ 24, ρ 25, ρ 26, ρ 27, ρ 28, ρ 29, r0, r1, r2, r3, r4, r5, r6] 21 = ρ 29 := rfl
  have f5' : nth [ρ 0, ρ 1, ρ 2, ρ 3, ρ 4, ρ 5, ρ 6, ρ 7, ρ 8, ρ 9, ρ 10, ρ 11, ρ 12, ρ 13, ρ 14, ρ 15, ρ 16, ρ 17, ρ 18, ρ 19, ρ 20, ρ 21, r0, r1, r2, r3, r4, r5, r6] 21 = ρ 21 := rfl
  have g1 : wv [ρ 14, ρ 15, ρ 16, ρ 17, ρ 18, ρ 19, ρ 20, ρ 14, ρ 15, ρ 16, ρ 17, ρ 18, ρ 19, ρ 20, ρ 22, ρ 23, ρ 24, ρ 25, ρ 26, ρ 27, ρ 28] 14 = wv [ρ 22, ρ 23, ρ 24, ρ 25, ρ 26, ρ 27, ρ 28] 0 := rfl
  have g2 : wv [ρ 14, ρ 15, ρ 16, ρ 17, ρ 18, ρ 19, ρ 20, ρ 14, ρ 15, ρ 16, ρ 17, ρ 18, ρ 19, ρ 20, ρ 22, ρ 23, ρ 24, ρ 25, ρ 26, ρ 27, ρ 28] 0 = wv [ρ 14, ρ 15, ρ 16, ρ 17, ρ 18, ρ 19, ρ 20] 0 := rfl
  have g3 : wv [ρ 14, ρ 15, ρ 16, ρ 17, ρ 18, ρ 19, ρ 20, ρ 14, ρ 15, ρ 16, ρ 17, ρ 18, ρ 19, ρ 20, ρ 22, ρ 23, ρ 24, ρ 25, ρ 26, ρ 27, ρ 28] 7 = wv [ρ 14, ρ 15, ρ 16, ρ 17, ρ 18, ρ 19, ρ 20] 0 := rfl
  rw [g1, g2, g3] at e1
  refine ⟨q1, fun ha ho => ?_⟩
  rw [f3'] at ha
  rw [f2'] at ho
  have e1 := e1 ho
  have hlt1 : wv [ρ 22, ρ 23, ρ 24, ρ 25, ρ 26, ρ 27, ρ 28] 0 < n224 := by rw [e1]; exact Int.emod_lt_of_pos _ (by decide)
  have q2 := q2 (by rw [f3]; exact ha) (by rw [f2]; exact hlt1)
  rw [f1, f2, f3, f4, f5, hm0] at q2
  have ho2 : wv [ρ 22, ρ 23, ρ 24, ρ 25, ρ 26, ρ 27, ρ 28] 0 % n224 = (wv [ρ 14, ρ 15, ρ 16, ρ 17, ρ 18, ρ 19, ρ 20] 0 * wv [ρ 14, ρ 15, ρ 16, ρ 17, ρ 18, ρ 19, ρ 20] 0 * ipw (wv [ρ 0, ρ 1, ρ 2, ρ 3, ρ 4, ρ 5, ρ 6] 0) 0) % n224 := by
    rw [e1, ipw_zero, Int.mul_one, Int.emod_emod_of_dvd _ (Int.dvd_refl _)]
  rw [f1', f2', f3', f4', f5', hm1]
  exact ⟨q2.1, pow_step ho2 q2.2 hbt (by decide)⟩
theorem oinvL_ok (h : FZ X) : LoopSp Tryz.prog X (loopIn Tryz.f17 0) oinvL.spec := by
  refine loop_by (EK_ok h) (BOK_none _) oinvL_chk oinvM (fun ρ ρ' hh => ?_) fun d hd => ?_
  · have hnv : oinvL.core.nv = 22 := rfl
    rw [hnv] at hh
    unfold oinvM
    rw [hh 21 (by decide)]
  simp only [oinvDs, List.mem_cons, List.not_mem_nil, or_false] at hd
  rcases hd with rfl | rfl | rfl
  · refine ⟨fun ρ hs => ?_, fun d hd => ?_⟩
    · have te := hs.ks (.eq 36 (.sub (.var 21) (.const 1))) (by simp [oinvK1])
      have hi := hs.bds (21, (0, 223)) (by simp [oinvB])
      simp only [Con.holds, IE.eval] at te hi
      show (ρ 36 + 1).toNat < (ρ 21 + 1).toNat
      omega
    · simp only [List.mem_cons, List.not_mem_nil, or_false] at hd
      rcases hd with rfl | rfl
      · refine endP_of _ 36 _ rfl rfl (fun ρ => [ρ 0, ρ 1, ρ 2, ρ 3, ρ 4, ρ 5, ρ 6, ρ 7, ρ 8, ρ 9, ρ 10, ρ 11, ρ 12, ρ 13, ρ 14, ρ 15, ρ 16, ρ 17, ρ 18, ρ 19, ρ 20, ρ 21] ++ [ρ 29, ρ 30, ρ 31, ρ 32, ρ 33, ρ 34, ρ 35]) (fun ρ => by kernel_rfl) fun ρ hs => ?_
        exact oinv_end1 h hs (fun b hb => hb) (fun k hk => List.mem_cons_of_mem _ hk) rfl (tok (hs.ks _ List.mem_cons_self) (l := [ρ 0, ρ 1, ρ 2, ρ 3, ρ 4, ρ 5, ρ 6, ρ 7, ρ 8, ρ 9, ρ 10, ρ 11, ρ 12, ρ 13, ρ 29, ρ 30, ρ 31, ρ 32, ρ 33, ρ 34, ρ 35, ρ 36] ++ [ρ 29, ρ 30, ρ 31, ρ 32, ρ 33, ρ 34, ρ 35]) (by kernel_rfl))
      · refine endP_of _ 36 _ rfl rfl (fun ρ => [ρ 0, ρ 1, ρ 2, ρ 3, ρ 4, ρ 5, ρ 6, ρ 7, ρ 8, ρ 9, ρ 10, ρ 11, ρ 12, ρ 13, ρ 14, ρ 15, ρ 16, ρ 17, ρ 18, ρ 19, ρ 20, ρ 21] ++ [ρ 37, ρ 38, ρ 39, ρ 40, ρ 41, ρ 42, ρ 43]) (fun ρ => by kernel_rfl) fun ρ hs => ?_
        exact oinv_end1 h hs (fun b hb => hb) (fun k hk => List.mem_cons_of_mem _ hk) rfl (tok (hs.ks _ List.mem_cons_self) (l := [ρ 0, ρ 1, ρ 2, ρ 3, ρ 4, ρ 5, ρ 6, ρ 7, ρ 8, ρ 9, ρ 10, ρ 11, ρ 12, ρ 13, ρ 29, ρ 30, ρ 31, ρ 32, ρ 33, ρ 34, ρ 35, ρ 36] ++ [ρ 37, ρ 38, ρ 39, ρ 40, ρ 41, ρ 42, ρ 43]) (by kernel_rfl))
  · refine ⟨fun ρ hs => ?_, fun d hd => ?_⟩
    · have te := hs.ks (.eq 29 (.sub (.var 21) (.const 1))) (by simp [oinvK2])
      have hi := hs.bds (21, (0, 223)) (by simp [oinvB])
      simp only [Con.holds, IE.eval] at te hi
      show (ρ 29 + 1).toNat < (ρ 21 + 1).toNat
      omega
    · simp only [List.mem_cons, List.not_mem_nil, or_false] at hd
      rcases hd with rfl | rfl
      · refine endP_of _ 36 _ rfl rfl (fun ρ => [ρ 0, ρ 1, ρ 2, ρ 3, ρ 4, ρ 5, ρ 6, ρ 7, ρ 8, ρ 9, ρ 10, ρ 11, ρ 12, ρ 13, ρ 14, ρ 15, ρ 16, ρ 17, ρ 18, ρ 19, ρ 20, ρ 21] ++ [ρ 22, ρ 23, ρ 24, ρ 25, ρ 26, ρ 27, ρ 28]) (fun ρ => by kernel_rfl) fun ρ hs => ?_
        exact oinv_end0 h hs (fun b hb => hb) (fun k hk => List.mem_cons_of_mem _ hk) rfl (tok (hs.ks _ List.mem_cons_self) (l := [ρ 0, ρ 1, ρ 2, ρ 3, ρ 4, ρ 5, ρ 6, ρ 7, ρ 8, ρ 9, ρ 10, ρ 11, ρ 12, ρ 13, ρ 22, ρ 23, ρ 24, ρ 25, ρ 26, ρ 27, ρ 28, ρ 29] ++ [ρ 22, ρ 23, ρ 24, ρ 25, ρ 26, ρ 27, ρ 28]) (by kernel_rfl))
      · refine endP_of _ 36 _ rfl rfl (fun ρ => [ρ 0, ρ 1, ρ 2, ρ 3, ρ 4, ρ 5, ρ 6, ρ 7, ρ 8, ρ 9, ρ 10, ρ 11, ρ 12, ρ 13, ρ 14, ρ 15, ρ 16, ρ 17, ρ 18, ρ 19, ρ 20, ρ 21] ++ [ρ 30, ρ 31, ρ 32, ρ 33, ρ 34, ρ 35, ρ 36]) (fun ρ => by kernel_rfl) fun ρ hs => ?_
        exact oinv_end0 h hs (fun b hb => hb) (fun k hk => List.mem_cons_of_mem _ hk) rfl (tok (hs.ks _ List.mem_cons_self) (l := [ρ 0, ρ 1, ρ 2, ρ 3, ρ 4, ρ 5, ρ 6, ρ 7, ρ 8, ρ 9, ρ 10, ρ 11, ρ 12, ρ 13, ρ 22, ρ 23, ρ 24, ρ 25, ρ 26, ρ 27, ρ 28, ρ 29] ++ [ρ 30, ρ 31, ρ 32, ρ 33, ρ 34, ρ 35, ρ 36]) (by kernel_rfl))
  · refine endP_of _ 36 _ rfl rfl (fun ρ => [ρ 0, ρ 1, ρ 2, ρ 3, ρ 4, ρ 5, ρ 6, ρ 7, ρ 8, ρ 9, ρ 10, ρ 11, ρ 12, ρ 13, ρ 14, ρ 15, ρ 16, ρ 17, ρ 18, ρ 19, ρ 20, ρ 21, ρ 14, ρ 15, ρ 16, ρ 17, ρ 18, ρ 19, ρ 20]) (fun ρ => by kernel_rfl) fun ρ hs => (h.oinvL _).2 ?_
    have hw : ∀ i, i < 21 -> wd (ρ i) := b22_spec hs fun b hb => List.mem_append_left _ hb
    have ht := hs.ks _ (List.mem_singleton.2 rfl)
    have hi := hs.bds (21, (-1, 223)) (by simp)
    simp only [Con.holds, BE.eval, IE.eval, intCmp, ge_iff_le, decide_eq_false_iff_not] at ht hi
    have hm : (ρ 21 + 1).toNat = 0 := by omega
    have f1 : wv [ρ 0, ρ 1, ρ 2, ρ 3, ρ 4, ρ 5, ρ 6, ρ 7, ρ 8, ρ 9, ρ 10, ρ 11, ρ 12, ρ 13, ρ 14, ρ 15, ρ 16, ρ 17, ρ 18, ρ 19, ρ 20, ρ 21, ρ 14, ρ 15, ρ 16, ρ 17, ρ 18, ρ 19, ρ 20] 22 = wv [ρ 14, ρ 15, ρ 16, ρ 17, ρ 18, ρ 19, ρ 20] 0 := rfl
    have f2 : wv [ρ 0, ρ 1, ρ 2, ρ 3, ρ 4, ρ 5, ρ 6, ρ 7, ρ 8, ρ 9, ρ 10, ρ 11, ρ 12, ρ 13, ρ 14, ρ 15, ρ 16, ρ 17, ρ 18, ρ 19, ρ 20, ρ 21, ρ 14, ρ 15, ρ 16, ρ 17, ρ 18, ρ 19, ρ 20] 14 = wv [ρ 14, ρ 15, ρ 16, ρ 17, ρ 18, ρ 19, ρ 20] 0 := rfl
    have f5 : nth [ρ 0, ρ 1, ρ 2, ρ 3, ρ 4, ρ 5, ρ 6, ρ 7, ρ 8, ρ 9, ρ 10, ρ 11, ρ 12, ρ 13, ρ 14, ρ 15, ρ 16, ρ 17, ρ 18, ρ 19, ρ 20, ρ 21, ρ 14, ρ 15, ρ 16, ρ 17, ρ 18, ρ 19, ρ 20] 21 = ρ 21 := rfl
    refine ⟨wok_of (b := 14) hw (by decide) rfl rfl rfl rfl rfl rfl rfl, ?_⟩
    rw [f1, f2, f5, hm]
    intro ha ho
    refine ⟨ho, ?_⟩
    rw [Nat.pow_zero, Nat.mod_one, ipw_zero, Int.mul_one, ipw_succ, ipw_zero, Int.one_mul]
def oivT1 : Con := .ext 36 [.var 0, .var 1, .var 2, .var 3, .var 4, .var 5, .var 6, .const 1549543995, .const 333261125, .const 3770216510, .const 4294907554, .const 4294967295, .const 4294967295, .const 4294967295, .const 1, .const 0, .const 0, .const 0, .const 0, .const 0, .const 0, .const 223, .const 1, .const 0, .const 0, .const 0, .const 0, .const 0, .const 0]
def oivT2 : Con := .ext 36 [.var 0, .var 1, .var 2, .var 3, .var 4, .var 5, .var 6, .const 1549543995, .const 333261125, .const 3770216510, .const 4294907554, .const 4294967295, .const 4294967295, .const 4294967295, .const 1, .const 0, .const 0, .const 0, .const 0, .const 0, .const 0, .const 223, .var 7, .var 8, .var 9, .var 10, .var 11, .var 12, .var 13]
def oivFs : List (Nat × Look) := [(0, ⟨[.const 1, .const 0, .const 0, .const 0, .const 0, .const 0, .const 0], (b14.take 7), [oivT1], []⟩), (0, ⟨vars 7 7, (b14.take 7), [oivT2], []⟩)]
theorem oiv_nodup : nodupB ((blocksOf (bodyOf Tryz.f17)).map (·.1)) = true := by kernel_rfl
theorem oiv_loop : loopAt (bodyOf Tryz.f17) 0 = some (loopIn Tryz.f17 0) := by kernel_rfl
theorem oiv_chk2 : chkFn (execFn EK 3000 (blockB 0 (oinvL.asBlock 0).spec) Tryz.f17 oinvS.args oinvS.start) oinvS oivFs = true := by kernel_rfl
theorem oiv_ok2 (h : FZ X) : SpecOK Tryz.prog X 17 oinvS.spec := by
  refine fn_sumB (EK_ok h) Tryz.func17 (by kernel_rfl) (block_bok oiv_nodup oiv_loop (oinvL_ok h) rfl) oiv_chk2 fun d hd => ?_
  simp only [oivFs, List.mem_cons, List.not_mem_nil, or_false] at hd
  rcases hd with rfl | rfl
  · refine endP_of _ 37 _ rfl rfl (fun ρ => [ρ 0, ρ 1, ρ 2, ρ 3, ρ 4, ρ 5, ρ 6, 1, 0, 0, 0, 0, 0, 0]) (fun ρ => by kernel_rfl) fun ρ hs => (h.oinv _).2 ?_
    have t := (h.oinvL _).1 (tok (hs.ks oivT1 (by simp)) (l := [ρ 0, ρ 1, ρ 2, ρ 3, ρ 4, ρ 5, ρ 6, 1549543995, 333261125, 3770216510, 4294907554, 4294967295, 4294967295, 4294967295, 1, 0, 0, 0, 0, 0, 0, 223, 1, 0, 0, 0, 0, 0, 0]) (by kernel_rfl))
    have f1 : wv [ρ 0, ρ 1, ρ 2, ρ 3, ρ 4, ρ 5, ρ 6, 1549543995, 333261125, 3770216510, 4294907554, 4294967295, 4294967295, 4294967295, 1, 0, 0, 0, 0, 0, 0, 223, 1, 0, 0, 0, 0, 0, 0] 22 = wv [1, 0, 0, 0, 0, 0, 0] 0 := rfl
    have f2 : wv [ρ 0, ρ 1, ρ 2, ρ 3, ρ 4, ρ 5, ρ 6, 1549543995, 333261125, 3770216510, 4294907554, 4294967295, 4294967295, 4294967295, 1, 0, 0, 0, 0, 0, 0, 223, 1, 0, 0, 0, 0, 0, 0] 14 = 1 := by kernel_rfl
    have f3 : wv [ρ 0, ρ 1, ρ 2, ρ 3, ρ 4, ρ 5, ρ 6, 1549543995, 333261125, 3770216510, 4294907554, 4294967295, 4294967295, 4294967295, 1, 0, 0, 0, 0, 0, 0, 223, 1, 0, 0, 0, 0, 0, 0] 0 = wv [ρ 0, ρ 1, ρ 2, ρ 3, ρ 4, ρ 5, ρ 6] 0 := rfl
    have f4 : wv [ρ 0, ρ 1, ρ 2, ρ 3, ρ 4, ρ 5, ρ 6, 1549543995, 333261125, 3770216510, 4294907554, 4294967295, 4294967295, 4294967295, 1, 0, 0, 0, 0, 0, 0, 223, 1, 0, 0, 0, 0, 0, 0] 7 = wv [1549543995, 333261125, 3770216510, 4294907554, 4294967295, 4294967295, 4294967295] 0 := rfl
    have f5 : nth [ρ 0, ρ 1, ρ 2, ρ 3, ρ 4, ρ 5, ρ 6, 1549543995, 333261125, 3770216510, 4294907554, 4294967295, 4294967295, 4294967295, 1, 0, 0, 0, 0, 0, 0, 223, 1, 0, 0, 0, 0, 0, 0] 21 = 223 := rfl
    have g1 : wv [ρ 0, ρ 1, ρ 2, ρ 3, ρ 4, ρ 5, ρ 6, 1, 0, 0, 0, 0, 0, 0] 7 = wv [1, 0, 0, 0, 0, 0, 0] 0 := rfl
    have g2 : wv [ρ 0, ρ 1, ρ 2, ρ 3, ρ 4, ρ 5, ρ 6, 1, 0, 0, 0, 0, 0, 0] 0 = wv [ρ 0, ρ 1, ρ 2, ρ 3, ρ 4, ρ 5, ρ 6] 0 := rfl
    obtain ⟨m, q⟩ := t
    have f6 : (wv [1549543995, 333261125, 3770216510, 4294907554, 4294967295, 4294967295, 4294967295] 0).toNat % 2 ^ (223 + 1 : Int).toNat = nm2 := by kernel_rfl
    rw [f1, f2, f3, f4, f5, f6, ipw_one, Int.one_mul] at q
    refine ⟨by simpa only [wok, nth] using m, ?_⟩
    rw [g1, g2]
    exact fun ha => q ha (by decide)
  · refine endP_of _ 37 _ rfl rfl (fun ρ => [ρ 0, ρ 1, ρ 2, ρ 3, ρ 4, ρ 5, ρ 6, ρ 7, ρ 8, ρ 9, ρ 10, ρ 11, ρ 12, ρ 13]) (fun ρ => by kernel_rfl) fun ρ hs => (h.oinv _).2 ?_
    have t := (h.oinvL _).1 (tok (hs.ks oivT2 (by simp)) (l := [ρ 0, ρ 1, ρ 2, ρ 3, ρ 4, ρ 5, ρ 6, 1549543995, 333261125, 3770216510, 4294907554, 4294967295, 4294967295, 4294967295, 1, 0, 0, 0, 0, 0, 0, 223, ρ 7, ρ 8, ρ 9, ρ 10, ρ 11, ρ 12, ρ 13]) (by kernel_rfl))
    have f1 : wv [ρ 0, ρ 1, ρ 2, ρ 3, ρ 4, ρ 5, ρ 6, 1549543995, 333261125, 3770216510, 4294907554, 4294967295, 4294967295, 4294967295, 1, 0, 0, 0, 0, 0, 0, 223, ρ 7, ρ 8, ρ 9, ρ 10, ρ 11, ρ 12, ρ 13] 22 = wv [ρ 7, ρ 8, ρ 9, ρ 10, ρ 11, ρ 12, ρ 13] 0 := rfl
    have f2 : wv [ρ 0, ρ 1, ρ 2, ρ 3, ρ 4, ρ 5, ρ 6, 1549543995, 333261125, 3770216510, 4294907554, 4294967295, 4294967295, 4294967295, 1, 0, 0, 0, 0, 0, 0, 223, ρ 7, ρ 8, ρ 9, ρ 10, ρ 11, ρ 12, ρ 13] 14 = 1 := by kernel_rfl
    have f3 : wv [ρ 0, ρ 1, ρ 2, ρ 3, ρ 4, ρ 5, ρ 6, 1549543995, 333261125, 3770216510, 4294907554, 4294967295, 4294967295, 4294967295, 1, 0, 0, 0, 0, 0, 0, 223, ρ 7, ρ 8, ρ 9, ρ 10, ρ 11, ρ 12, ρ 13] 0 = wv [ρ 0, ρ 1, ρ 2, ρ 3, ρ 4, ρ 5, ρ 6] 0 := rfl
    have f4 : wv [ρ 0, ρ 1, ρ 2, ρ 3, ρ 4, ρ 5, ρ 6, 1549543995, 333261125, 3770216510, 4294907554, 4294967295, 4294967295, 4294967295, 1, 0, 0, 0, 0, 0, 0, 223, ρ 7, ρ 8, ρ 9, ρ 10, ρ 11, ρ 12, ρ 13] 7 = wv [1549543995, 333261125, 3770216510, 4294907554, 4294967295, 4294967295, 4294967295] 0 := rfl
    have f5 : nth [ρ 0, ρ 1, ρ 2, ρ 3, ρ 4, ρ 5, ρ 6, 1549543995, 333261125, 3770216510, 4294907554, 4294967295, 4294967295, 4294967295, 1, 0, 0, 0, 0, 0, 0, 223, ρ 7, ρ 8, ρ 9, ρ 10, ρ 11, ρ 12, ρ 13] 21 = 223 := rfl
    have g1 : wv [ρ 0, ρ 1, ρ 2, ρ 3, ρ 4, ρ 5, ρ 6, ρ 7, ρ 8, ρ 9, ρ 10, ρ 11, ρ 12, ρ 13] 7 = wv [ρ 7, ρ 8, ρ 9, ρ 10, ρ 11, ρ 12, ρ 13] 0 := rfl
    have g2 : wv [ρ 0, ρ 1, ρ 2, ρ 3, ρ 4, ρ 5, ρ 6, ρ 7, ρ 8, ρ 9, ρ 10, ρ 11, ρ 12, ρ 13] 0 = wv [ρ 0, ρ 1, ρ 2, ρ 3, ρ 4, ρ 5, ρ 6] 0 := rfl
    obtain ⟨m, q⟩ := t
    have f6 : (wv [1549543995, 333261125, 3770216510, 4294907554, 4294967295, 4294967295, 4294967295] 0).toNat % 2 ^ (223 + 1 : Int).toNat = nm2 := by kernel_rfl
    rw [f1, f2, f3, f4, f5, f6, ipw_one, Int.one_mul] at q
    refine ⟨by simpa only [wok, nth] using m, ?_⟩
    rw [g1, g2]
    exact fun ha => q ha (by decide)
def specL (f : FuncId) : Option (Fs) := match f with | 39 => some invS.spec | 17 => some oinvS.spec | f => specK f
theorem specL_ok (h : FZ X) : ∀ f sp, specL f = some sp -> FnOK Tryz.prog f /\ SpecOK Tryz.prog X f sp := fun f sp hs => by
  unfold specL at hs
  split at hs
  · simp only [Option.some.injEq] at hs; subst hs
    exact ⟨fn_ok Tryz.func39 (by kernel_rfl) (by kernel_rfl), inv_ok h⟩
  · simp only [Option.some.injEq] at hs; subst hs
    exact ⟨fn_ok Tryz.func17 (by kernel_rfl) (by kernel_rfl), oiv_ok2 h⟩
  · exact specK_ok h _ _ hs
def EL : Env := mkEnv Tryz.prog tyTree fnTree ext0 specL
theorem EL_ok (h : FZ X) : EnvOK Tryz.prog X EL := mkEnv_ok mixed_ok tys_ok fns_ok names_ok ext0_ok (specL_ok h)
end Go.Proofs.YtmogojlijkddpaaGreat
end
