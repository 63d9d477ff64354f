/- The proof of laws.FnP224Verify, text 19 of 36. Conditions: none. -/
import Derived.Test.YtmogojlijkddpaaGreatT17
noncomputable section

set_option maxRecDepth 100000
namespace Go.Vm
open Go.Proofs.YtmogojlijkddpaaGreat (v4)
abbrev N4 := Fin nN
instance : NeZero nN := ⟨by decide⟩
def ψ (x : Int) : N4 := zc x
def vn (l : List Int) : N4 := ψ (wv4 l)
def Rn : N4 := ψ 3403815367970668603528788584357805139025239226713044004624713075665
theorem ψ_mul (a b : Int) : ψ (a * b) = ψ a * ψ b := zc_mul a b
theorem ψ_add (a b : Int) : ψ (a + b) = ψ a + ψ b := zc_add a b
theorem ψ_one : ψ 1 = 1 := zc_one
theorem n224_eq : n224 = ((nN : Nat) : Int) := by decide
theorem ψ_eq {a b : Int} (h : a % n224 = b % n224) : ψ a = ψ b := zc_eq (by rw [<- n224_eq]; exact h)
theorem ψ_n (k : Int) : ψ (n224 * k) = 0 := by
  have : ψ (n224 * k) = ψ 0 := ψ_eq (by simp)
  rw [this]; exact zc_zero
theorem RnR : ψ R256 * Rn = 1 := by
  unfold Rn
  rw [<- ψ_mul, <- ψ_one]
  exact ψ_eq (by decide)
def okN (l : List Int) : Prop := wordsOK l /\ 0 <= wv4 l /\ wv4 l < n224
theorem vn_val {l : List Int} (h : okN l) : ((vn l).val : Int) = wv4 l := by
  have := zc_val (p := nN) (wv4 l)
  rw [<- n224_eq, Int.emod_eq_of_lt h.2.1 h.2.2] at this
  exact this
section
variable {p : Nat} [NeZero p]
theorem fn1 (r a b R i k : Fin p) (h : R * i = 1) (e : r * R = a * b + k) (hk : k = 0) : r = a * b * i := by subst hk; grobner
end
def MmP (l : List Int) : Prop := n4 (wv4 l) -> n4 (wv4 (l.drop 4)) -> okN (l.drop 8) /\ vn (l.drop 8) = vn l * vn (l.drop 4) * Rn
structure FP (X : Tk) : Prop extends FQ X where
  mm : ∀ l, X 89 l ↔ okN (l.drop 8) /\ vn (l.drop 8) = vn l * vn (l.drop 4) * Rn
def b4 (i : Nat) : List (Nat × Int × Int) := [(i, W64'), (i + 1, W64'), (i + 2, W64'), (i + 3, (0, 4294967295))]
theorem n4_of {L : Look} {X : Tk} {ρ : Nat -> Int} {i : Nat} (hs : Seen X L ρ) (h : ∀ x ∈ b4 i, x ∈ L.bds) : n4 (wv4 (Q4 ρ i)) := by
  have h0 := hs.bds _ (h (i, W64') (by simp [b4]))
  have h1 := hs.bds _ (h (i + 1, W64') (by simp [b4]))
  have h2 := hs.bds _ (h (i + 2, W64') (by simp [b4]))
  have h3 := hs.bds _ (h (i + 3, (0, 4294967295)) (by simp [b4]))
  simp only [W64'] at h0 h1 h2 h3
  show 0 <= v4 (ρ i) (ρ (i + 1)) (ρ (i + 2)) (ρ (i + 3)) /\ v4 (ρ i) (ρ (i + 1)) (ρ (i + 2)) (ρ (i + 3)) < _
  unfold v4
  omega
theorem top32 {l : List Int} (h : okN l) : ∀ (i : Nat) (r : Int × Int), W4[i]? = some r -> r.1 <= nth l i /\ nth l i <= r.2 := fun i r hr => by
  obtain ⟨hw, h0, h1⟩ := h
  have w0 := hw 0 (by omega)
  have w1 := hw 1 (by omega)
  have w2 := hw 2 (by omega)
  have w3 := hw 3 (by omega)
  match i, hr with
  | 0, hr => cases hr; exact w0
  | 1, hr => cases hr; exact w1
  | 2, hr => cases hr; exact w2
  | 3, hr =>
    cases hr
    refine ⟨w3.1, ?_⟩
    have e : wv4 l = nth l 0 + 18446744073709551616 * nth l 1 + 340282366920938463463374607431768211456 * nth l 2 + 6277101735386680763835789423207666416102355444464034512896 * nth l 3 := rfl
    rw [e] at h1
    unfold n224 at h1
    show nth l 3 <= 4294967295
    omega
  | n + 4, hr => simp [W4] at hr
section
variable {X : Tk} {ρ : Nat -> Int}
theorem mm_fact {c : MI} {st : List Step} {a b : Poly} {bds : List (Nat × Int × Int)} (hs : Seen X (mmLk c st a b bds) ρ) (hst : st.all Step.good = true) {A B : List Int} (ea : Poly.eval ρ a = wv4 A) (eb : Poly.eval ρ b = wv4 B) (ha : n4 (wv4 A)) (hb : n4 (wv4 B)) :
    okN (Q4 ρ c.o) /\ vn (Q4 ρ c.o) = vn A * vn B * Rn := by
  obtain ⟨h1, h2, h3, m, h4⟩ := mm_core hs hst (by rw [ea]; exact ha) (by rw [eb]; exact hb)
  refine ⟨⟨h1, h2, h3⟩, ?_⟩
  have e := congrArg ψ h4
  rw [ψ_mul, ψ_add, ψ_mul, ea, eb] at e
  exact fn1 _ _ _ _ _ _ RnR e (ψ_n m)
theorem mm_tight (h : FP X) {s : Sm} {k : Nat} {b : List IE} (hk : s.nv = k) (hb : b.length = 4) : Tighter X s (mmO k b) W4 := by
  refine ⟨rfl, fun σ hp i r hr => ?_⟩
  have t := hp (89, vars 0 4 ++ b ++ vars k 4) (List.mem_singleton.2 rfl)
  obtain ⟨b0, b1, b2, b3, rfl⟩ : ∃ b0 b1 b2 b3, b = [b0, b1, b2, b3] := by
    match b, hb with
    | [b0, b1, b2, b3], _ => exact ⟨b0, b1, b2, b3, rfl⟩
  have t' := ((h.mm _).1 t).1
  have e : okN (Q4 σ k) := Eq.mp rfl t'
  have := top32 e i r hr
  rw [hk]
  match i, hr with
  | 0, hr => exact this
  | 1, hr => exact this
  | 2, hr => exact this
  | 3, hr => exact this
  | n + 4, hr => simp [W4] at hr
end
def mi1 (k : Nat) : MI := ⟨k, 27, 94, 161, 225, 4, 66, 133, 200, 238, 246, 255, 258, 259⟩
def mi3 : MI := ⟨4, 27, 92, 157, 217, 4, 66, 131, 196, 230, 238, 247, 250, 251⟩
def mi7 : MI := ⟨4, 12, 58, 104, 150, 2, 48, 94, 140, 163, 171, 180, 183, 184⟩
def lv (i : Nat) : Poly := limbs 0 [i, i + 1, i + 2, i + 3]
def rrC : Int := 18736321316799972354316900901010793960983508926169534893853787651349
def rrL : List Int := [2996154245097553173, 12378424334381104971, 7697038227981551702, 2984868193]
def st1 : List Step := [⟨115792089237316195423570985008687907853269984665640564039457584007913129639936, 51, 52, 53, 54, 55, 56, 57, 58, 59, .const 18446744073709551615, .var 35, .var 25, .var 50⟩, ⟨115792089237316195423570985008687907853269984665640564039457584007913129639936, 76, 77, 78, 79, 80, 81, 82, 83, 84, .var 1, .var 5, .var 56, .var 75⟩, ⟨2135987035920910082395021706169552114602704522356652769947041607822219725780640550022962086936576, 85, 86, 87, 88, 89, 90, 91, 92, 93, .var 2, .var 5, .var 65, .var 83⟩, ⟨2135987035920910082395021706169552114602704522356652769947041607822219725780640550022962086936576, 118, 119, 120, 121, 122, 123, 124, 125, 126, .const 18446744073709551615, .var 102, .var 90, .var 117⟩, ⟨2135987035920910082395021706169552114602704522356652769947041607822219725780640550022962086936576, 143, 144, 145, 146, 147, 148, 149, 150, 151, .var 1, .var 6, .var 123, .var 142⟩, ⟨39402006196394479212279040100143613805079739270465446667948293404245721771497210611414266254884915640806627990306816, 152, 153, 154, 155, 156, 157, 158, 159, 160, .var 2, .var 6, .var 132, .var 150⟩, ⟨39402006196394479212279040100143613805079739270465446667948293404245721771497210611414266254884915640806627990306816, 185, 186, 187, 188, 189, 190, 191, 192, 193, .const 18446744073709551615, .var 169, .var 157, .var 184⟩, ⟨726838724295606890549323807888004534353641360687318060281490199180639288113397923326191050713763565560762521606266177933534601628614656, 249, 250, 251, 252, 253, 254, 255, 256, 257, .const 18446744073709551615, .var 233, .var 223, .var 248⟩]
def st2 : List Step := [⟨115792089237316195423570985008687907853269984665640564039457584007913129639936, 47, 48, 49, 50, 51, 52, 53, 54, 55, .const 18446744073709551615, .var 31, .var 21, .var 46⟩, ⟨115792089237316195423570985008687907853269984665640564039457584007913129639936, 72, 73, 74, 75, 76, 77, 78, 79, 80, .var 1, .var 1, .var 52, .var 71⟩, ⟨2135987035920910082395021706169552114602704522356652769947041607822219725780640550022962086936576, 81, 82, 83, 84, 85, 86, 87, 88, 89, .var 2, .var 1, .var 61, .var 79⟩, ⟨2135987035920910082395021706169552114602704522356652769947041607822219725780640550022962086936576, 114, 115, 116, 117, 118, 119, 120, 121, 122, .const 18446744073709551615, .var 98, .var 86, .var 113⟩, ⟨2135987035920910082395021706169552114602704522356652769947041607822219725780640550022962086936576, 139, 140, 141, 142, 143, 144, 145, 146, 147, .var 1, .var 2, .var 119, .var 138⟩, ⟨39402006196394479212279040100143613805079739270465446667948293404245721771497210611414266254884915640806627990306816, 148, 149, 150, 151, 152, 153, 154, 155, 156, .var 2, .var 2, .var 128, .var 146⟩, ⟨39402006196394479212279040100143613805079739270465446667948293404245721771497210611414266254884915640806627990306816, 181, 182, 183, 184, 185, 186, 187, 188, 189, .const 18446744073709551615, .var 165, .var 153, .var 180⟩, ⟨726838724295606890549323807888004534353641360687318060281490199180639288113397923326191050713763565560762521606266177933534601628614656, 245, 246, 247, 248, 249, 250, 251, 252, 253, .const 18446744073709551615, .var 229, .var 219, .var 244⟩]
def st3 : List Step := [⟨115792089237316195423570985008687907853269984665640564039457584007913129639936, 47, 48, 49, 50, 51, 52, 53, 54, 55, .const 18446744073709551615, .var 31, .var 21, .var 46⟩, ⟨2135987035920910082395021706169552114602704522356652769947041607822219725780640550022962086936576, 112, 113, 114, 115, 116, 117, 118, 119, 120, .const 18446744073709551615, .var 96, .var 85, .var 111⟩, ⟨39402006196394479212279040100143613805079739270465446667948293404245721771497210611414266254884915640806627990306816, 177, 178, 179, 180, 181, 182, 183, 184, 185, .const 18446744073709551615, .var 161, .var 150, .var 176⟩, ⟨726838724295606890549323807888004534353641360687318060281490199180639288113397923326191050713763565560762521606266177933534601628614656, 237, 238, 239, 240, 241, 242, 243, 244, 245, .const 18446744073709551615, .var 221, .var 215, .var 236⟩]
def st6 : List Step := [⟨115792089237316195423570985008687907853269984665640564039457584007913129639936, 55, 56, 57, 58, 59, 60, 61, 62, 63, .const 18446744073709551615, .var 39, .var 29, .var 54⟩, ⟨115792089237316195423570985008687907853269984665640564039457584007913129639936, 80, 81, 82, 83, 84, 85, 86, 87, 88, .var 1, .var 5, .var 60, .var 79⟩, ⟨2135987035920910082395021706169552114602704522356652769947041607822219725780640550022962086936576, 89, 90, 91, 92, 93, 94, 95, 96, 97, .var 2, .var 5, .var 69, .var 87⟩, ⟨2135987035920910082395021706169552114602704522356652769947041607822219725780640550022962086936576, 122, 123, 124, 125, 126, 127, 128, 129, 130, .const 18446744073709551615, .var 106, .var 94, .var 121⟩, ⟨2135987035920910082395021706169552114602704522356652769947041607822219725780640550022962086936576, 147, 148, 149, 150, 151, 152, 153, 154, 155, .var 1, .var 6, .var 127, .var 146⟩, ⟨39402006196394479212279040100143613805079739270465446667948293404245721771497210611414266254884915640806627990306816, 156, 157, 158, 159, 160, 161, 162, 163, 164, .var 2, .var 6, .var 136, .var 154⟩, ⟨39402006196394479212279040100143613805079739270465446667948293404245721771497210611414266254884915640806627990306816, 189, 190, 191, 192, 193, 194, 195, 196, 197, .const 18446744073709551615, .var 173, .var 161, .var 188⟩, ⟨726838724295606890549323807888004534353641360687318060281490199180639288113397923326191050713763565560762521606266177933534601628614656, 253, 254, 255, 256, 257, 258, 259, 260, 261, .const 18446744073709551615, .var 237, .var 227, .var 252⟩]
def st7 : List Step := [⟨115792089237316195423570985008687907853269984665640564039457584007913129639936, 32, 33, 34, 35, 36, 37, 38, 39, 40, .const 18446744073709551615, .var 16, .var 12, .var 31⟩, ⟨2135987035920910082395021706169552114602704522356652769947041607822219725780640550022962086936576, 78, 79, 80, 81, 82, 83, 84, 85, 86, .const 18446744073709551615, .var 62, .var 58, .var 77⟩, ⟨39402006196394479212279040100143613805079739270465446667948293404245721771497210611414266254884915640806627990306816, 124, 125, 126, 127, 128, 129, 130, 131, 132, .const 18446744073709551615, .var 108, .var 104, .var 123⟩, ⟨726838724295606890549323807888004534353641360687318060281490199180639288113397923326191050713763565560762521606266177933534601628614656, 170, 171, 172, 173, 174, 175, 176, 177, 178, .const 18446744073709551615, .var 154, .var 150, .var 169⟩]
def mm1Lk : Look := mmLk (mi1 8) st1 (lv 0) (lv 4) (b4 0 ++ b4 4)
def mm2Lk : Look := mmLk (mi1 4) st2 (lv 0) (lv 0) (b4 0)
def mm3Lk : Look := mmLk mi3 st3 (lv 0) (pconst rrC) (b4 0)
def mm6Lk : Look := mmLk (mi1 12) st6 (lv 0) (lv 4) (b4 0 ++ b4 4)
def mm7Lk : Look := mmLk mi7 st7 (lv 0) (pconst 1) (b4 0)
theorem lv_eval {ρ : Nat -> Int} {i : Nat} : Poly.eval ρ (lv i) = wv4 (Q4 ρ i) := by
  unfold lv
  rw [limbs4]; rfl
theorem const_eval {ρ : Nat -> Int} {n : Int} : Poly.eval ρ (pconst n) = n := by simp [eval_const]
end Go.Vm
namespace Go.Proofs.YtmogojlijkddpaaGreat
open Go.Vm
variable {X : Tk}
theorem mm1_chk : chkFn (execCall E0 3000 94 mm1.args mm1.start) mm1 [(0, mm1Lk)] = true := by kernel_rfl
theorem mm2_chk : chkFn (execCall E0 3000 94 mm2.args mm2.start) mm2 [(0, mm2Lk)] = true := by kernel_rfl
theorem mm3_chk : chkFn (execCall E0 3000 94 mm3.args mm3.start) mm3 [(0, mm3Lk)] = true := by kernel_rfl
theorem mm4_chk : chkFn (execCall E0 3000 94 mm4.args mm4.start) mm4 [(0, mm2Lk)] = true := by kernel_rfl
theorem mm5_chk : chkFn (execCall E0 3000 94 mm5.args mm5.start) mm5 [(0, mm1Lk)] = true := by kernel_rfl
theorem mm6_chk : chkFn (execCall E0 3000 94 mm6.args mm6.start) mm6 [(0, mm6Lk)] = true := by kernel_rfl
theorem mm7_chk : chkFn (execCall E0 3000 94 mm7.args mm7.start) mm7 [(0, mm7Lk)] = true := by kernel_rfl
theorem mm1_end (h : FP X) {s : Sm} (hn : s.nv = 8) (ho : s.outs = [mmO 8 (vars 4 4)]) : EndP X s 0 mm1Lk := by
  refine endP_of (s := s) (mmO 8 (vars 4 4)) 89 _ (by rw [ho]; rfl) rfl (fun ρ => Q4 ρ 0 ++ Q4 ρ 4 ++ Q4 ρ 278) (fun ρ => by rw [hn]; kernel_rfl) fun ρ hs => (h.mm _).2 ?_
  exact Eq.mp rfl (mm_fact hs (by decide) lv_eval lv_eval (n4_of hs fun x hx => List.mem_append_right _ (List.mem_append_left _ hx)) (n4_of hs fun x hx => List.mem_append_right _ (List.mem_append_right _ hx)))
theorem mm2_end (h : FP X) {s : Sm} (hn : s.nv = 4) (ho : s.outs = [mmO 4 (vars 0 4)]) : EndP X s 0 mm2Lk := by
  refine endP_of (s := s) (mmO 4 (vars 0 4)) 89 _ (by rw [ho]; rfl) rfl (fun ρ => Q4 ρ 0 ++ Q4 ρ 0 ++ Q4 ρ 274) (fun ρ => by rw [hn]; kernel_rfl) fun ρ hs => (h.mm _).2 ?_
  exact Eq.mp rfl (mm_fact hs (by decide) lv_eval lv_eval (n4_of hs fun x hx => List.mem_append_right _ hx) (n4_of hs fun x hx => List.mem_append_right _ hx))
theorem mm3_end (h : FP X) : EndP X mm3 0 mm3Lk := by
  refine endP_of (s := mm3) _ 89 _ rfl rfl (fun ρ => Q4 ρ 0 ++ rrL ++ Q4 ρ 266) (fun ρ => by kernel_rfl) fun ρ hs => (h.mm _).2 ?_
  exact Eq.mp rfl (mm_fact (B := rrL) hs (by decide) lv_eval (const_eval.trans (by decide)) (n4_of hs fun x hx => List.mem_append_right _ hx) ⟨by decide, by decide⟩)
theorem mm6_end (h : FP X) : EndP X mm6 0 mm6Lk := by
  refine endP_of (s := mm6) _ 89 _ rfl rfl (fun ρ => Q4 ρ 0 ++ Q4 ρ 4 ++ Q4 ρ 282) (fun ρ => by kernel_rfl) fun ρ hs => (h.mm _).2 ?_
  exact Eq.mp rfl (mm_fact hs (by decide) lv_eval lv_eval (n4_of hs fun x hx => List.mem_append_right _ (List.mem_append_left _ hx)) (n4_of hs fun x hx => List.mem_append_right _ (List.mem_append_right _ hx)))
theorem mm7_end (h : FP X) : EndP X mm7 0 mm7Lk := by
  refine endP_of (s := mm7) _ 89 _ rfl rfl (fun ρ => Q4 ρ 0 ++ [1, 0, 0, 0] ++ Q4 ρ 199) (fun ρ => by kernel_rfl) fun ρ hs => (h.mm _).2 ?_
  exact Eq.mp rfl (mm_fact (B := [1, 0, 0, 0]) hs (by decide) lv_eval (const_eval.trans (by decide)) (n4_of hs fun x hx => List.mem_append_right _ hx) ⟨by decide, by decide⟩)
theorem mmT_ok (h : FP X) {s : Sm} {k : Nat} {b : List IE} (ok : SpecOK Tryz.prog X 94 s.spec) (hk : s.nv = k) (hb : b.length = 4) (ho : s.outs = [mmO k b]) : SpecOK Tryz.prog X 94 (s.tighten [W4]).spec :=
  ok.tight (by rw [ho]; rfl) fun i o w h1 h2 => by
    rw [ho] at h1
    match i, h1, h2 with
    | 0, h1, h2 => cases h1; cases h2; exact mm_tight h hk hb
    | n + 1, h1, h2 => simp at h2
def mmSs : List Sm := [mm4, mm5, mm1, mm6, mm2, mm3, mm7].map fun s => s.tighten [W4]
theorem mm_ok (h : FP X) : SpecOK Tryz.prog X 94 (firstSp mmSs) := SpecOK.first fun s hs => by
  simp only [mmSs, List.map_cons, List.map_nil, List.mem_cons, List.not_mem_nil, or_false] at hs
  have h0 : EnvOK Tryz.prog X E0 := E0_ok
  rcases hs with rfl | rfl | rfl | rfl | rfl | rfl | rfl
  · exact mmT_ok h (fn_sum h0 mm4_chk (one_ds (mm2_end h rfl rfl))) rfl rfl rfl
  · exact mmT_ok h (fn_sum h0 mm5_chk (one_ds (mm1_end h rfl rfl))) rfl rfl rfl
  · exact mmT_ok h (fn_sum h0 mm1_chk (one_ds (mm1_end h rfl rfl))) rfl rfl rfl
  · exact mmT_ok h (fn_sum h0 mm6_chk (one_ds (mm6_end h))) rfl rfl rfl
  · exact mmT_ok h (fn_sum h0 mm2_chk (one_ds (mm2_end h rfl rfl))) rfl rfl rfl
  · exact mmT_ok h (fn_sum h0 mm3_chk (one_ds (mm3_end h))) rfl rfl rfl
  · exact mmT_ok h (fn_sum h0 mm7_chk (one_ds (mm7_end h))) rfl rfl rfl
end Go.Proofs.YtmogojlijkddpaaGreat
end
