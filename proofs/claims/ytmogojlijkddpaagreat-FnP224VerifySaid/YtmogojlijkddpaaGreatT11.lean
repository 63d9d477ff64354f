/- The proof of laws.FnP224Verify, text 12 of 36. Conditions: none. -/
import Derived.KernelRfl
import Derived.Test.YtmogojlijkddpaaGreatT07
import Derived.Test.YtmogojlijkddpaaGreatT10
noncomputable section

set_option maxRecDepth 100000
namespace Go.Vm
section
variable {X : Tk} {L : Look} {ρ : Nat -> Int} {hs : List Int}
theorem verF_eq {qx qy : Int} {rs ss hs : List Int} (c : (bn rs ≠ 0 /\ bn rs < n224) /\ (bn ss ≠ 0 /\ bn ss < n224)) {w u v : Int} (hw : w = ipw (bn ss) nm2 % n224) (hu : u = ((bn hs % n224) * w) % n224) (hv : v = (bn rs * w) % n224)
    {o1 o2 : Option (Int × Int)} (h1 : multF gX gY (toB 28 u) = o1) (h2 : multF qx qy (toB 28 v) = o2) : verF qx qy rs ss hs = verM o1 o2 (bn rs) := by
  unfold verF
  rw [if_pos c, <- hw, <- hu, <- hv, h1, h2]
theorem verF_no {qx qy : Int} {rs ss hs : List Int} (c : ¬ ((bn rs ≠ 0 /\ bn rs < n224) /\ (bn ss ≠ 0 /\ bn ss < n224))) : verF qx qy rs ss hs = false := by
  unfold verF
  rw [if_neg c]
theorem toB_of {k : Int} {l : List Int} (h : (∀ x ∈ l, byteOK x) /\ bn l = k) (hl : l.length = 28) : toB 28 k = l := by rw [<- h.2]; exact toB_bn 28 l hl h.1
theorem oinv_of (h : FZ X) {a c : List Int} (ha : a.length = 7) (hc : c.length = 7) (hn : wv a 0 < n224) (t : X 37 (a ++ c)) : wv c 0 = ipw (wv a 0) nm2 % n224 := by
  obtain ⟨ρ, rfl⟩ := of7 ha
  obtain ⟨σ, rfl⟩ := of7 hc
  have q : wok (W7 σ 0) 0 /\ (wv (W7 ρ 0) 0 < n224 -> wv (W7 σ 0) 0 < n224 /\ wv (W7 σ 0) 0 % n224 = ipw (wv (W7 ρ 0) 0) nm2 % n224) := Eq.mp (by kernel_rfl) ((h.oinv _).1 t)
  obtain ⟨q1, q2⟩ := q
  obtain ⟨q3, q4⟩ := q2 hn
  rw [<- q4]
  exact (Int.emod_eq_of_lt (wv_range q1).1 q3).symm
theorem ordT_of (h : FZ X) {a b c : List Int} (ha : a.length = 7) (hb : b.length = 7) (hc : c.length = 7) (hn : wv a 0 < n224) (t : X 34 (a ++ b ++ c)) : wv c 0 = (wv a 0 * wv b 0) % n224 := by
  obtain ⟨ρ, rfl⟩ := of7 ha
  obtain ⟨σ, rfl⟩ := of7 hb
  obtain ⟨τ, rfl⟩ := of7 hc
  have q : wok (W7 τ 0) 0 /\ (wv (W7 ρ 0) 0 < n224 -> wv (W7 τ 0) 0 = (wv (W7 ρ 0) 0 * wv (W7 σ 0) 0) % n224) := Eq.mp (by kernel_rfl) ((h.ordTimes _).1 t)
  exact q.2 hn
theorem n_pos : (0 : Int) < n224 := by decide
theorem flag_end {n : Int} {b : Bool} (h : n = if b then 1 else 0) : (n = 0 \/ n = 1) /\ (n = 1 ↔ b = true) := by
  cases b <;> simp [h]
end
end Go.Vm
namespace Go.Proofs.YtmogojlijkddpaaGreat
open Go.Vm
variable {X : Tk}
def specT (f : FuncId) : Option (Fs) := match f with | 19 => some hashS.spec | f => specR2 f
theorem specT_ok {hs : List Int} (h : FU X hs) : ∀ f sp, specT f = some sp -> FnOK Tryz.prog f /\ SpecOK Tryz.prog X f sp := fun f sp hh => by
  unfold specT at hh
  split at hh
  · simp only [Option.some.injEq] at hh
    subst hh
    exact ⟨fn_ok Tryz.func19 (by kernel_rfl) (by kernel_rfl), hash_ok h⟩
  · exact specR2_ok h.toFV f sp hh
def ET : Env := mkEnv Tryz.prog tyTree fnTree ext0 specT
theorem ET_ok {hs : List Int} (h : FU X hs) : EnvOK Tryz.prog X ET := mkEnv_ok mixed_ok tys_ok fns_ok names_ok ext0_ok (specT_ok h)
def gE : List IE := [.const 291249441, .const 875725014, .const 1455558946, .const 1241760211, .const 840143033, .const 1807007615, .const 3071151293, .const 2231402036, .const 1154843033, .const 1510426468, .const 3443750304, .const 1277353958, .const 3052872699, .const 3174523784]
def oE : List IE := [.const 1, .const 0, .const 0, .const 0, .const 0, .const 0, .const 0, .const 0, .const 0, .const 0, .const 0, .const 0, .const 0, .const 0, .const 0]
def verP : List Con := [.ext 51 (vars 14 28 ++ [.var 71]), .test (.not (.cmp .eql (.var 71) (.const 1))) false, .ext 51 (vars 42 28 ++ [.var 72]), .test (.not (.cmp .eql (.var 72) (.const 1))) false, .ext 49 (vars 42 28 ++ vars 73 7), .ext 37 (vars 73 14), .ext 54 (vars 87 7), .ext 34 (vars 87 7 ++ vars 80 7 ++ vars 94 7), .ext 49 (vars 14 28 ++ vars 101 7), .ext 34 (vars 101 7 ++ vars 80 7 ++ vars 108 7)]
def verL0 : Look := ⟨[.const 0], [], [.ext 51 (vars 14 28 ++ [.var 71]), .test (.not (.cmp .eql (.var 71) (.const 1))) false, .ext 51 (vars 42 28 ++ [.var 72]), .test (.not (.cmp .eql (.var 72) (.const 1))) true], []⟩
def verL1 : Look := ⟨[.const 0], [], verP ++ [.ext 48 (vars 94 7 ++ vars 115 28), .ext 46 (gE ++ vars 115 28 ++ oE), .ext 48 (vars 108 7 ++ vars 143 28), .ext 46 (vars 0 14 ++ vars 143 28 ++ oE)], []⟩
def verL2 : Look := ⟨[.const 1], [], verP ++ [.ext 48 (vars 94 7 ++ vars 115 28), .ext 46 (gE ++ vars 115 28 ++ oE), .ext 48 (vars 108 7 ++ vars 143 28), .ext 46 (vars 0 14 ++ vars 143 28 ++ [.const 0] ++ vars 171 14), .ext 50 (vars 171 7 ++ vars 171 7), .ext 49 (vars 14 28 ++ vars 185 7), .ext 26 (vars 171 7 ++ vars 185 8), .test (.cmp .eql (.var 192) (.const 1)) true], []⟩
def verL3 : Look := ⟨[.const 0], [], verP ++ [.ext 48 (vars 94 7 ++ vars 115 28), .ext 46 (gE ++ vars 115 28 ++ oE), .ext 48 (vars 108 7 ++ vars 143 28), .ext 46 (vars 0 14 ++ vars 143 28 ++ [.const 0] ++ vars 171 14), .ext 50 (vars 171 7 ++ vars 171 7), .ext 49 (vars 14 28 ++ vars 185 7), .ext 26 (vars 171 7 ++ vars 185 8), .test (.cmp .eql (.var 192) (.const 1)) false], []⟩
def verL4 : Look := ⟨[.const 1], [], verP ++ [.ext 48 (vars 94 7 ++ vars 115 28), .ext 46 (gE ++ vars 115 28 ++ oE), .ext 48 (vars 108 7 ++ vars 143 28), .ext 46 (vars 0 14 ++ vars 143 28 ++ [.const 0] ++ vars 171 14), .ext 50 (vars 171 7 ++ vars 185 7), .ext 49 (vars 14 28 ++ vars 192 7), .ext 26 (vars 185 15), .test (.cmp .eql (.var 199) (.const 1)) true], []⟩
def verL5 : Look := ⟨[.const 0], [], verP ++ [.ext 48 (vars 94 7 ++ vars 115 28), .ext 46 (gE ++ vars 115 28 ++ oE), .ext 48 (vars 108 7 ++ vars 143 28), .ext 46 (vars 0 14 ++ vars 143 28 ++ [.const 0] ++ vars 171 14), .ext 50 (vars 171 7 ++ vars 185 7), .ext 49 (vars 14 28 ++ vars 192 7), .ext 26 (vars 185 15), .test (.cmp .eql (.var 199) (.const 1)) false], []⟩
def verL6 : Look := ⟨[.const 1], [], verP ++ [.ext 48 (vars 94 7 ++ vars 115 28), .ext 46 (gE ++ vars 115 28 ++ [.const 0] ++ vars 143 14), .ext 48 (vars 108 7 ++ vars 157 28), .ext 46 (vars 0 14 ++ vars 157 28 ++ oE), .ext 50 (vars 143 7 ++ vars 143 7), .ext 49 (vars 14 28 ++ vars 185 7), .ext 26 (vars 143 7 ++ vars 185 8), .test (.cmp .eql (.var 192) (.const 1)) true], []⟩
def verL7 : Look := ⟨[.const 0], [], verP ++ [.ext 48 (vars 94 7 ++ vars 115 28), .ext 46 (gE ++ vars 115 28 ++ [.const 0] ++ vars 143 14), .ext 48 (vars 108 7 ++ vars 157 28), .ext 46 (vars 0 14 ++ vars 157 28 ++ oE), .ext 50 (vars 143 7 ++ vars 143 7), .ext 49 (vars 14 28 ++ vars 185 7), .ext 26 (vars 143 7 ++ vars 185 8), .test (.cmp .eql (.var 192) (.const 1)) false], []⟩
def verL8 : Look := ⟨[.const 1], [], verP ++ [.ext 48 (vars 94 7 ++ vars 115 28), .ext 46 (gE ++ vars 115 28 ++ [.const 0] ++ vars 143 14), .ext 48 (vars 108 7 ++ vars 157 28), .ext 46 (vars 0 14 ++ vars 157 28 ++ oE), .ext 50 (vars 143 7 ++ vars 185 7), .ext 49 (vars 14 28 ++ vars 192 7), .ext 26 (vars 185 15), .test (.cmp .eql (.var 199) (.const 1)) true], []⟩
def verL9 : Look := ⟨[.const 0], [], verP ++ [.ext 48 (vars 94 7 ++ vars 115 28), .ext 46 (gE ++ vars 115 28 ++ [.const 0] ++ vars 143 14), .ext 48 (vars 108 7 ++ vars 157 28), .ext 46 (vars 0 14 ++ vars 157 28 ++ oE), .ext 50 (vars 143 7 ++ vars 185 7), .ext 49 (vars 14 28 ++ vars 192 7), .ext 26 (vars 185 15), .test (.cmp .eql (.var 199) (.const 1)) false], []⟩
def verL10 : Look := ⟨[.const 0], [], verP ++ [.ext 48 (vars 94 7 ++ vars 115 28), .ext 46 (gE ++ vars 115 28 ++ [.const 0] ++ vars 143 14), .ext 48 (vars 108 7 ++ vars 157 28), .ext 46 (vars 0 14 ++ vars 157 28 ++ [.const 0] ++ vars 185 14), .ext 47 (vars 143 14 ++ vars 185 14 ++ oE)], []⟩
def verL11 : Look := ⟨[.const 1], [], verP ++ [.ext 48 (vars 94 7 ++ vars 115 28), .ext 46 (gE ++ vars 115 28 ++ [.const 0] ++ vars 143 14), .ext 48 (vars 108 7 ++ vars 157 28), .ext 46 (vars 0 14 ++ vars 157 28 ++ [.const 0] ++ vars 185 14), .ext 47 (vars 143 14 ++ vars 185 14 ++ [.const 0] ++ vars 199 14), .ext 50 (vars 199 7 ++ vars 199 7), .ext 49 (vars 14 28 ++ vars 213 7), .ext 26 (vars 199 7 ++ vars 213 8), .test (.cmp .eql (.var 220) (.const 1)) true], []⟩
def verL12 : Look := ⟨[.const 0], [], verP ++ [.ext 48 (vars 94 7 ++ vars 115 28), .ext 46 (gE ++ vars 115 28 ++ [.const 0] ++ vars 143 14), .ext 48 (vars 108 7 ++ vars 157 28), .ext 46 (vars 0 14 ++ vars 157 28 ++ [.const 0] ++ vars 185 14), .ext 47 (vars 143 14 ++ vars 185 14 ++ [.const 0] ++ vars 199 14), .ext 50 (vars 199 7 ++ vars 199 7), .ext 49 (vars 14 28 ++ vars 213 7), .ext 26 (vars 199 7 ++ vars 213 8), .test (.cmp .eql (.var 220) (.const 1)) false], []⟩
def verL13 : Look := ⟨[.const 1], [], verP ++ [.ext 48 (vars 94 7 ++ vars 115 28), .ext 46 (gE ++ vars 115 28 ++ [.const 0] ++ vars 143 14), .ext 48 (vars 108 7 ++ vars 157 28), .ext 46 (vars 0 14 ++ vars 157 28 ++ [.const 0] ++ vars 185 14), .ext 47 (vars 143 14 ++ vars 185 14 ++ [.const 0] ++ vars 199 14), .ext 50 (vars 199 7 ++ vars 213 7), .ext 49 (vars 14 28 ++ vars 220 7), .ext 26 (vars 213 15), .test (.cmp .eql (.var 227) (.const 1)) true], []⟩
def verL14 : Look := ⟨[.const 0], [], verP ++ [.ext 48 (vars 94 7 ++ vars 115 28), .ext 46 (gE ++ vars 115 28 ++ [.const 0] ++ vars 143 14), .ext 48 (vars 108 7 ++ vars 157 28), .ext 46 (vars 0 14 ++ vars 157 28 ++ [.const 0] ++ vars 185 14), .ext 47 (vars 143 14 ++ vars 185 14 ++ [.const 0] ++ vars 199 14), .ext 50 (vars 199 7 ++ vars 213 7), .ext 49 (vars 14 28 ++ vars 220 7), .ext 26 (vars 213 15), .test (.cmp .eql (.var 227) (.const 1)) false], []⟩
def verL15 : Look := ⟨[.const 0], [], [.ext 51 (vars 14 28 ++ [.var 71]), .test (.not (.cmp .eql (.var 71) (.const 1))) true], []⟩
def verDs : List (Nat × Look) := [(0, verL0), (0, verL1), (0, verL1), (0, verL2), (0, verL3), (0, verL4), (0, verL5), (0, verL2), (0, verL3), (0, verL4), (0, verL5), (0, verL1), (0, verL2), (0, verL3), (0, verL4), (0, verL5), (0, verL1), (0, verL2), (0, verL3), (0, verL4), (0, verL5), (0, verL6), (0, verL7), (0, verL8), (0, verL9), (0, verL6), (0, verL7), (0, verL8), (0, verL9), (0, verL10), (0, verL11), (0, verL12), (0, verL13), (0, verL14), (0, verL10), (0, verL11), (0, verL12), (0, verL13), (0, verL14), (0, verL6), (0, verL7), (0, verL8), (0, verL9), (0, verL10), (0, verL11), (0, verL12), (0, verL13), (0, verL14), (0, verL6), (0, verL7), (0, verL8), (0, verL9), (0, verL10), (0, verL11), (0, verL12), (0, verL13), (0, verL14), (0, verL1), (0, verL2), (0, verL3), (0, verL4), (0, verL5), (0, verL6), (0, verL7), (0, verL8), (0, verL9), (0, verL10), (0, verL11), (0, verL12), (0, verL13), (0, verL14), (0, verL1), (0, verL2), (0, verL3), (0, verL4), (0, verL5), (0, verL6), (0, verL7), (0, verL8), (0, verL9), (0, verL10), (0, verL11), (0, verL12), (0, verL13), (0, verL14), (0, verL1), (0, verL2), (0, verL3), (0, verL4), (0, verL5), (0, verL6), (0, verL7), (0, verL8), (0, verL9), (0, verL10), (0, verL11), (0, verL12), (0, verL13), (0, verL14), (0, verL15)]
theorem ver_chk : chkFn (execCall ET 3000 7 verS.args verS.start) verS verDs = true := by kernel_rfl
theorem ver_run {hs : List Int} (h : FU X hs) {L : Look} {ρ : Nat -> Int} (hL : Seen X L ρ) {r : List Con} (e : L.ks = verP ++ r) : ((bn (W28 ρ 14) ≠ 0 /\ bn (W28 ρ 14) < n224) /\ (bn (W28 ρ 42) ≠ 0 /\ bn (W28 ρ 42) < n224)) /\ wv (W7 ρ 80) 0 = ipw (bn (W28 ρ 42)) nm2 % n224 /\
    wv (W7 ρ 94) 0 = (bn (hs.take 28) % n224 * wv (W7 ρ 80) 0) % n224 /\ wv (W7 ρ 108) 0 = (bn (W28 ρ 14) * wv (W7 ρ 80) 0) % n224 := by
  have hs' : Seen X ⟨[], [], verP, []⟩ ρ := ⟨fun _ hb => (by cases hb), fun k hk => hL.ks k (by rw [e]; exact List.mem_append_left _ hk), fun _ hb => (by cases hb)⟩
  have hV : FV X := h.toFV
  have hW : FW X := hV.toFW
  have hZ : FZ X := hW.toFZ
  have hX : FX X := hZ.toFY.toFX
  have t0 := inOrder_of hV (ks := W28 ρ 14) (c := [ρ 71]) rfl rfl (tokAt hs' 0 (by kernel_rfl))
  have o1 := oneNot hs' 1 (d := 71) (b := false) rfl
  have r := t0.2.1 (o1.symm ▸ rfl)
  have t2 := inOrder_of hV (ks := W28 ρ 42) (c := [ρ 72]) rfl rfl (tokAt hs' 2 (by kernel_rfl))
  have o3 := oneNot hs' 3 (d := 72) (b := false) rfl
  have s := t2.2.1 (o3.symm ▸ rfl)
  have t4 := num_of hV (ks := W28 ρ 42) (a := W7 ρ 73) rfl rfl (tokAt hs' 4 (by kernel_rfl))
  have t5 := oinv_of hZ (a := W7 ρ 73) (c := W7 ρ 80) rfl rfl (by rw [t4.2]; exact s.2) (tokAt hs' 5 (by kernel_rfl))
  have t6 : HashP hs (W7 ρ 87) := (h.hash _).1 (tokAt hs' 6 (by kernel_rfl))
  have t7 := ordT_of hZ (a := W7 ρ 87) (b := W7 ρ 80) (c := W7 ρ 94) rfl rfl rfl (by rw [t6.2]; exact Int.emod_lt_of_pos _ n_pos) (tokAt hs' 7 (by kernel_rfl))
  have t8 := num_of hV (ks := W28 ρ 14) (a := W7 ρ 101) rfl rfl (tokAt hs' 8 (by kernel_rfl))
  have t9 := ordT_of hZ (a := W7 ρ 101) (b := W7 ρ 80) (c := W7 ρ 108) rfl rfl rfl (by rw [t8.2]; exact r.2) (tokAt hs' 9 (by kernel_rfl))
  rw [t4.2] at t5
  rw [t6.2] at t7
  rw [t8.2] at t9
  exact ⟨⟨r, s⟩, t5, t7, t9⟩
theorem ver_end0 {hs : List Int} (h : FU X hs) : EndP X verS 0 verL0 := by
  refine endP_of _ 55 _ rfl rfl (fun ρ => W7 ρ 0 ++ W7 ρ 7 ++ W28 ρ 14 ++ W28 ρ 42 ++ [0]) (fun ρ => by kernel_rfl) fun ρ hs' => (h.ver _).2 ?_
  have hV := h.toFV
  have hW := hV.toFW
  have hX := hW.toFX
  refine Eq.mp (by kernel_rfl : (((0 : Int) = 0 \/ (0 : Int) = 1) /\ ((0 : Int) = 1 ↔ verF (wv (W7 ρ 0) 0) (wv (W7 ρ 7) 0) (W28 ρ 14) (W28 ρ 42) (hs.take 28) = true)) = VerP hs (W7 ρ 0 ++ W7 ρ 7 ++ W28 ρ 14 ++ W28 ρ 42 ++ [0])) ?_
  refine flag_end ?_
  have t0 := inOrder_of hV (ks := W28 ρ 14) (c := [ρ 71]) rfl rfl (tokAt hs' 0 (by kernel_rfl))
  have o1 := oneNot hs' 1 (d := 71) (b := false) rfl
  have r := t0.2.1 (o1.symm ▸ rfl)
  have t2 := inOrder_of hV (ks := W28 ρ 42) (c := [ρ 72]) rfl rfl (tokAt hs' 2 (by kernel_rfl))
  have o3 := oneNot hs' 3 (d := 72) (b := true) rfl
  rw [verF_no fun c => absurd (o3.mp (t2.2.2 c.2)) (by decide)]
  rfl
theorem ver_end1 {hs : List Int} (h : FU X hs) : EndP X verS 0 verL1 := by
  refine endP_of _ 55 _ rfl rfl (fun ρ => W7 ρ 0 ++ W7 ρ 7 ++ W28 ρ 14 ++ W28 ρ 42 ++ [0]) (fun ρ => by kernel_rfl) fun ρ hs' => (h.ver _).2 ?_
  have hV := h.toFV
  have hW := hV.toFW
  have hX := hW.toFX
  refine Eq.mp (by kernel_rfl : (((0 : Int) = 0 \/ (0 : Int) = 1) /\ ((0 : Int) = 1 ↔ verF (wv (W7 ρ 0) 0) (wv (W7 ρ 7) 0) (W28 ρ 14) (W28 ρ 42) (hs.take 28) = true)) = VerP hs (W7 ρ 0 ++ W7 ρ 7 ++ W28 ρ 14 ++ W28 ρ 42 ++ [0])) ?_
  refine flag_end ?_
  obtain ⟨⟨r, s⟩, t5, t7, t9⟩ := ver_run h hs' rfl
  have t10 := byts_of hV (a := W7 ρ 94) (ks := (W28 ρ 115)) rfl rfl (tokAt hs' 10 (by kernel_rfl))
  have t11 := mult_of hW (a := [291249441, 875725014, 1455558946, 1241760211, 840143033, 1807007615, 3071151293]) (b := [2231402036, 1154843033, 1510426468, 3443750304, 1277353958, 3052872699, 3174523784]) (ks := (W28 ρ 115)) (f := 1) (c := [0, 0, 0, 0, 0, 0, 0]) (d := [0, 0, 0, 0, 0, 0, 0]) rfl rfl rfl rfl rfl (tokAt hs' 11 (by kernel_rfl))
  have t12 := byts_of hV (a := W7 ρ 108) (ks := (W28 ρ 143)) rfl rfl (tokAt hs' 12 (by kernel_rfl))
  have t13 := mult_of hW (a := (W7 ρ 0)) (b := (W7 ρ 7)) (ks := (W28 ρ 143)) (f := 1) (c := [0, 0, 0, 0, 0, 0, 0]) (d := [0, 0, 0, 0, 0, 0, 0]) rfl rfl rfl rfl rfl (tokAt hs' 13 (by kernel_rfl))
  have m1 := t11.2.2.2
  have m2 := t13.2.2.2
  rw [if_pos rfl] at m1
  rw [if_pos rfl] at m2
  have gx : wv [291249441, 875725014, 1455558946, 1241760211, 840143033, 1807007615, 3071151293] 0 = gX := by kernel_rfl
  have gy : wv [2231402036, 1154843033, 1510426468, 3443750304, 1277353958, 3052872699, 3174523784] 0 = gY := by kernel_rfl
  rw [gx, gy, <- toB_of t10 rfl] at m1
  rw [<- toB_of t12 rfl] at m2
  rw [verF_eq ⟨r, s⟩ t5 t7 t9 m1 m2]
  rfl
theorem ver_end2 {hs : List Int} (h : FU X hs) : EndP X verS 0 verL2 := by
  refine endP_of _ 55 _ rfl rfl (fun ρ => W7 ρ 0 ++ W7 ρ 7 ++ W28 ρ 14 ++ W28 ρ 42 ++ [1]) (fun ρ => by kernel_rfl) fun ρ hs' => (h.ver _).2 ?_
  have hV := h.toFV
  have hW := hV.toFW
  have hX := hW.toFX
  refine Eq.mp (by kernel_rfl : (((1 : Int) = 0 \/ (1 : Int) = 1) /\ ((1 : Int) = 1 ↔ verF (wv (W7 ρ 0) 0) (wv (W7 ρ 7) 0) (W28 ρ 14) (W28 ρ 42) (hs.take 28) = true)) = VerP hs (W7 ρ 0 ++ W7 ρ 7 ++ W28 ρ 14 ++ W28 ρ 42 ++ [1])) ?_
  refine flag_end ?_
  obtain ⟨⟨r, s⟩, t5, t7, t9⟩ := ver_run h hs' rfl
  have t10 := byts_of hV (a := W7 ρ 94) (ks := (W28 ρ 115)) rfl rfl (tokAt hs' 10 (by kernel_rfl))
  have t11 := mult_of hW (a := [291249441, 875725014, 1455558946, 1241760211, 840143033, 1807007615, 3071151293]) (b := [2231402036, 1154843033, 1510426468, 3443750304, 1277353958, 3052872699, 3174523784]) (ks := (W28 ρ 115)) (f := 1) (c := [0, 0, 0, 0, 0, 0, 0]) (d := [0, 0, 0, 0, 0, 0, 0]) rfl rfl rfl rfl rfl (tokAt hs' 11 (by kernel_rfl))
  have t12 := byts_of hV (a := W7 ρ 108) (ks := (W28 ρ 143)) rfl rfl (tokAt hs' 12 (by kernel_rfl))
  have t13 := mult_of hW (a := (W7 ρ 0)) (b := (W7 ρ 7)) (ks := (W28 ρ 143)) (f := 0) (c := (W7 ρ 171)) (d := (W7 ρ 178)) rfl rfl rfl rfl rfl (tokAt hs' 13 (by kernel_rfl))
  have m1 := t11.2.2.2
  have m2 := t13.2.2.2
  rw [if_pos rfl] at m1
  rw [if_neg (by decide)] at m2
  have gx : wv [291249441, 875725014, 1455558946, 1241760211, 840143033, 1807007615, 3071151293] 0 = gX := by kernel_rfl
  have gy : wv [2231402036, 1154843033, 1510426468, 3443750304, 1277353958, 3052872699, 3174523784] 0 = gY := by kernel_rfl
  rw [gx, gy, <- toB_of t10 rfl] at m1
  rw [<- toB_of t12 rfl] at m2
  rw [verF_eq ⟨r, s⟩ t5 t7 t9 m1 m2]
  have t14 := ordRest_of hV (a := (W7 ρ 171)) (c := (W7 ρ 171)) rfl rfl (tokAt hs' 14 (by kernel_rfl))
  have t15 := num_of hV (ks := W28 ρ 14) (a := (W7 ρ 185)) rfl rfl (tokAt hs' 15 (by kernel_rfl))
  have t16 := same_of hX (a := (W7 ρ 171)) (b := (W7 ρ 185)) (c := [ρ 192]) rfl rfl rfl (tokAt hs' 16 (by kernel_rfl))
  have o := oneAt hs' 17 (d := 192) (b := true) rfl
  have e := t16.2
  rw [t14.2, t15.2] at e
  have q := e.1 (o.symm ▸ rfl)
  simp only [verM, q, beq_self_eq_true, if_true]
theorem ver_end3 {hs : List Int} (h : FU X hs) : EndP X verS 0 verL3 := by
  refine endP_of _ 55 _ rfl rfl (fun ρ => W7 ρ 0 ++ W7 ρ 7 ++ W28 ρ 14 ++ W28 ρ 42 ++ [0]) (fun ρ => by kernel_rfl) fun ρ hs' => (h.ver _).2 ?_
  have hV := h.toFV
  have hW := hV.toFW
  have hX := hW.toFX
  refine Eq.mp (by kernel_rfl : (((0 : Int) = 0 \/ (0 : Int) = 1) /\ ((0 : Int) = 1 ↔ verF (wv (W7 ρ 0) 0) (wv (W7 ρ 7) 0) (W28 ρ 14) (W28 ρ 42) (hs.take 28) = true)) = VerP hs (W7 ρ 0 ++ W7 ρ 7 ++ W28 ρ 14 ++ W28 ρ 42 ++ [0])) ?_
  refine flag_end ?_
  obtain ⟨⟨r, s⟩, t5, t7, t9⟩ := ver_run h hs' rfl
  have t10 := byts_of hV (a := W7 ρ 94) (ks := (W28 ρ 115)) rfl rfl (tokAt hs' 10 (by kernel_rfl))
  have t11 := mult_of hW (a := [291249441, 875725014, 1455558946, 1241760211, 840143033, 1807007615, 3071151293]) (b := [2231402036, 1154843033, 1510426468, 3443750304, 1277353958, 3052872699, 3174523784]) (ks := (W28 ρ 115)) (f := 1) (c := [0, 0, 0, 0, 0, 0, 0]) (d := [0, 0, 0, 0, 0, 0, 0]) rfl rfl rfl rfl rfl (tokAt hs' 11 (by kernel_rfl))
  have t12 := byts_of hV (a := W7 ρ 108) (ks := (W28 ρ 143)) rfl rfl (tokAt hs' 12 (by kernel_rfl))
  have t13 := mult_of hW (a := (W7 ρ 0)) (b := (W7 ρ 7)) (ks := (W28 ρ 143)) (f := 0) (c := (W7 ρ 171)) (d := (W7 ρ 178)) rfl rfl rfl rfl rfl (tokAt hs' 13 (by kernel_rfl))
  have m1 := t11.2.2.2
  have m2 := t13.2.2.2
  rw [if_pos rfl] at m1
  rw [if_neg (by decide)] at m2
  have gx : wv [291249441, 875725014, 1455558946, 1241760211, 840143033, 1807007615, 3071151293] 0 = gX := by kernel_rfl
  have gy : wv [2231402036, 1154843033, 1510426468, 3443750304, 1277353958, 3052872699, 3174523784] 0 = gY := by kernel_rfl
  rw [gx, gy, <- toB_of t10 rfl] at m1
  rw [<- toB_of t12 rfl] at m2
  rw [verF_eq ⟨r, s⟩ t5 t7 t9 m1 m2]
  have t14 := ordRest_of hV (a := (W7 ρ 171)) (c := (W7 ρ 171)) rfl rfl (tokAt hs' 14 (by kernel_rfl))
  have t15 := num_of hV (ks := W28 ρ 14) (a := (W7 ρ 185)) rfl rfl (tokAt hs' 15 (by kernel_rfl))
  have t16 := same_of hX (a := (W7 ρ 171)) (b := (W7 ρ 185)) (c := [ρ 192]) rfl rfl rfl (tokAt hs' 16 (by kernel_rfl))
  have o := oneAt hs' 17 (d := 192) (b := false) rfl
  have e := t16.2
  rw [t14.2, t15.2] at e
  have q : ¬ wv (W7 ρ 171) 0 % n224 = bn (W28 ρ 14) := fun q => absurd (o.mp (e.2 q)) (by decide)
  simp only [verM, beq_false_of_ne q]
  rfl
theorem ver_end4 {hs : List Int} (h : FU X hs) : EndP X verS 0 verL4 := by
  refine endP_of _ 55 _ rfl rfl (fun ρ => W7 ρ 0 ++ W7 ρ 7 ++ W28 ρ 14 ++ W28 ρ 42 ++ [1]) (fun ρ => by kernel_rfl) fun ρ hs' => (h.ver _).2 ?_
  have hV := h.toFV
  have hW := hV.toFW
  have hX := hW.toFX
  refine Eq.mp (by kernel_rfl : (((1 : Int) = 0 \/ (1 : Int) = 1) /\ ((1 : Int) = 1 ↔ verF (wv (W7 ρ 0) 0) (wv (W7 ρ 7) 0) (W28 ρ 14) (W28 ρ 42) (hs.take 28) = true)) = VerP hs (W7 ρ 0 ++ W7 ρ 7 ++ W28 ρ 14 ++ W28 ρ 42 ++ [1])) ?_
  refine flag_end ?_
  obtain ⟨⟨r, s⟩, t5, t7, t9⟩ := ver_run h hs' rfl
  have t10 := byts_of hV (a := W7 ρ 94) (ks := (W28 ρ 115)) rfl rfl (tokAt hs' 10 (by kernel_rfl))
  have t11 := mult_of hW (a := [291249441, 875725014, 1455558946, 1241760211, 840143033, 1807007615, 3071151293]) (b := [2231402036, 1154843033, 1510426468, 3443750304, 1277353958, 3052872699, 3174523784]) (ks := (W28 ρ 115)) (f := 1) (c := [0, 0, 0, 0, 0, 0, 0]) (d := [0, 0, 0, 0, 0, 0, 0]) rfl rfl rfl rfl rfl (tokAt hs' 11 (by kernel_rfl))
  have t12 := byts_of hV (a := W7 ρ 108) (ks := (W28 ρ 143)) rfl rfl (tokAt hs' 12 (by kernel_rfl))
  have t13 := mult_of hW (a := (W7 ρ 0)) (b := (W7 ρ 7)) (ks := (W28 ρ 143)) (f := 0) (c := (W7 ρ 171)) (d := (W7 ρ 178)) rfl rfl rfl rfl rfl (tokAt hs' 13 (by kernel_rfl))
  have m1 := t11.2.2.2
  have m2 := t13.2.2.2
  rw [if_pos rfl] at m1
  rw [if_neg (by decide)] at m2
  have gx : wv [291249441, 875725014, 1455558946, 1241760211, 840143033, 1807007615, 3071151293] 0 = gX := by kernel_rfl
  have gy : wv [2231402036, 1154843033, 1510426468, 3443750304, 1277353958, 3052872699, 3174523784] 0 = gY := by kernel_rfl
  rw [gx, gy, <- toB_of t10 rfl] at m1
  rw [<- toB_of t12 rfl] at m2
  rw [verF_eq ⟨r, s⟩ t5 t7 t9 m1 m2]
  have t14 := ordRest_of hV (a := (W7 ρ 171)) (c := (W7 ρ 185)) rfl rfl (tokAt hs' 14 (by kernel_rfl))
  have t15 := num_of hV (ks := W28 ρ 14) (a := (W7 ρ 192)) rfl rfl (tokAt hs' 15 (by kernel_rfl))
  have t16 := same_of hX (a := (W7 ρ 185)) (b := (W7 ρ 192)) (c := [ρ 199]) rfl rfl rfl (tokAt hs' 16 (by kernel_rfl))
  have o := oneAt hs' 17 (d := 199) (b := true) rfl
  have e := t16.2
  rw [t14.2, t15.2] at e
  have q := e.1 (o.symm ▸ rfl)
  simp only [verM, q, beq_self_eq_true, if_true]
theorem ver_end5 {hs : List Int} (h : FU X hs) : EndP X verS 0 verL5 := by
  refine endP_of _ 55 _ rfl rfl (fun ρ => W7 ρ 0 ++ W7 ρ 7 ++ W28 ρ 14 ++ W28 ρ 42 ++ [0]) (fun ρ => by kernel_rfl) fun ρ hs' => (h.ver _).2 ?_
  have hV := h.toFV
  have hW := hV.toFW
  have hX := hW.toFX
  refine Eq.mp (by kernel_rfl : (((0 : Int) = 0 \/ (0 : Int) = 1) /\ ((0 : Int) = 1 ↔ verF (wv (W7 ρ 0) 0) (wv (W7 ρ 7) 0) (W28 ρ 14) (W28 ρ 42) (hs.take 28) = true)) = VerP hs (W7 ρ 0 ++ W7 ρ 7 ++ W28 ρ 14 ++ W28 ρ 42 ++ [0])) ?_
  refine flag_end ?_
  obtain ⟨⟨r, s⟩, t5, t7, t9⟩ := ver_run h hs' rfl
  have t10 := byts_of hV (a := W7 ρ 94) (ks := (W28 ρ 115)) rfl rfl (tokAt hs' 10 (by kernel_rfl))
  have t11 := mult_of hW (a := [291249441, 875725014, 1455558946, 1241760211, 840143033, 1807007615, 3071151293]) (b := [2231402036, 1154843033, 1510426468, 3443750304, 1277353958, 3052872699, 3174523784]) (ks := (W28 ρ 115)) (f := 1) (c := [0, 0, 0, 0, 0, 0, 0]) (d := [0, 0, 0, 0, 0, 0, 0]) rfl rfl rfl rfl rfl (tokAt hs' 11 (by kernel_rfl))
  have t12 := byts_of hV (a := W7 ρ 108) (ks := (W28 ρ 143)) rfl rfl (tokAt hs' 12 (by kernel_rfl))
  have t13 := mult_of hW (a := (W7 ρ 0)) (b := (W7 ρ 7)) (ks := (W28 ρ 143)) (f := 0) (c := (W7 ρ 171)) (d := (W7 ρ 178)) rfl rfl rfl rfl rfl (tokAt hs' 13 (by kernel_rfl))
  have m1 := t11.2.2.2
  have m2 := t13.2.2.2
  rw [if_pos rfl] at m1
  rw [if_neg (by decide)] at m2
  have gx : wv [291249441, 875725014, 1455558946, 1241760211, 840143033, 1807007615, 3071151293] 0 = gX := by kernel_rfl
  have gy : wv [2231402036, 1154843033, 1510426468, 3443750304, 1277353958, 3052872699, 3174523784] 0 = gY := by kernel_rfl
  rw [gx, gy, <- toB_of t10 rfl] at m1
  rw [<- toB_of t12 rfl] at m2
  rw [verF_eq ⟨r, s⟩ t5 t7 t9 m1 m2]
  have t14 := ordRest_of hV (a := (W7 ρ 171)) (c := (W7 ρ 185)) rfl rfl (tokAt hs' 14 (by kernel_rfl))
  have t15 := num_of hV (ks := W28 ρ 14) (a := (W7 ρ 192)) rfl rfl (tokAt hs' 15 (by kernel_rfl))
  have t16 := same_of hX (a := (W7 ρ 185)) (b := (W7 ρ 192)) (c := [ρ 199]) rfl rfl rfl (tokAt hs' 16 (by kernel_rfl))
  have o := oneAt hs' 17 (d := 199) (b := false) rfl
  have e := t16.2
  rw [t14.2, t15.2] at e
  have q : ¬ wv (W7 ρ 171) 0 % n224 = bn (W28 ρ 14) := fun q => absurd (o.mp (e.2 q)) (by decide)
  simp only [verM, beq_false_of_ne q]
  rfl
theorem ver_end6 {hs : List Int} (h : FU X hs) : EndP X verS 0 verL6 := by
  refine endP_of _ 55 _ rfl rfl (fun ρ => W7 ρ 0 ++ W7 ρ 7 ++ W28 ρ 14 ++ W28 ρ 42 ++ [1]) (fun ρ => by kernel_rfl) fun ρ hs' => (h.ver _).2 ?_
  have hV := h.toFV
  have hW := hV.toFW
  have hX := hW.toFX
  refine Eq.mp (by kernel_rfl : (((1 : Int) = 0 \/ (1 : Int) = 1) /\ ((1 : Int) = 1 ↔ verF (wv (W7 ρ 0) 0) (wv (W7 ρ 7) 0) (W28 ρ 14) (W28 ρ 42) (hs.take 28) = true)) = VerP hs (W7 ρ 0 ++ W7 ρ 7 ++ W28 ρ 14 ++ W28 ρ 42 ++ [1])) ?_
  refine flag_end ?_
  obtain ⟨⟨r, s⟩, t5, t7, t9⟩ := ver_run h hs' rfl
  have t10 := byts_of hV (a := W7 ρ 94) (ks := (W28 ρ 115)) rfl rfl (tokAt hs' 10 (by kernel_rfl))
  have t11 := mult_of hW (a := [291249441, 875725014, 1455558946, 1241760211, 840143033, 1807007615, 3071151293]) (b := [2231402036, 1154843033, 1510426468, 3443750304, 1277353958, 3052872699, 3174523784]) (ks := (W28 ρ 115)) (f := 0) (c := (W7 ρ 143)) (d := (W7 ρ 150)) rfl rfl rfl rfl rfl (tokAt hs' 11 (by kernel_rfl))
  have t12 := byts_of hV (a := W7 ρ 108) (ks := (W28 ρ 157)) rfl rfl (tokAt hs' 12 (by kernel_rfl))
  have t13 := mult_of hW (a := (W7 ρ 0)) (b := (W7 ρ 7)) (ks := (W28 ρ 157)) (f := 1) (c := [0, 0, 0, 0, 0, 0, 0]) (d := [0, 0, 0, 0, 0, 0, 0]) rfl rfl rfl rfl rfl (tokAt hs' 13 (by kernel_rfl))
  have m1 := t11.2.2.2
  have m2 := t13.2.2.2
  rw [if_neg (by decide)] at m1
  rw [if_pos rfl] at m2
  have gx : wv [291249441, 875725014, 1455558946, 1241760211, 840143033, 1807007615, 3071151293] 0 = gX := by kernel_rfl
  have gy : wv [2231402036, 1154843033, 1510426468, 3443750304, 1277353958, 3052872699, 3174523784] 0 = gY := by kernel_rfl
  rw [gx, gy, <- toB_of t10 rfl] at m1
  rw [<- toB_of t12 rfl] at m2
  rw [verF_eq ⟨r, s⟩ t5 t7 t9 m1 m2]
  have t14 := ordRest_of hV (a := (W7 ρ 143)) (c := (W7 ρ 143)) rfl rfl (tokAt hs' 14 (by kernel_rfl))
  have t15 := num_of hV (ks := W28 ρ 14) (a := (W7 ρ 185)) rfl rfl (tokAt hs' 15 (by kernel_rfl))
  have t16 := same_of hX (a := (W7 ρ 143)) (b := (W7 ρ 185)) (c := [ρ 192]) rfl rfl rfl (tokAt hs' 16 (by kernel_rfl))
  have o := oneAt hs' 17 (d := 192) (b := true) rfl
  have e := t16.2
  rw [t14.2, t15.2] at e
  have q := e.1 (o.symm ▸ rfl)
  simp only [verM, q, beq_self_eq_true, if_true]
theorem ver_end7 {hs : List Int} (h : FU X hs) : EndP X verS 0 verL7 := by
  refine endP_of _ 55 _ rfl rfl (fun ρ => W7 ρ 0 ++ W7 ρ 7 ++ W28 ρ 14 ++ W28 ρ 42 ++ [0]) (fun ρ => by kernel_rfl) fun ρ hs' => (h.ver _).2 ?_
  have hV := h.toFV
  have hW := hV.toFW
  have hX := hW.toFX
  refine Eq.mp (by kernel_rfl : (((0 : Int) = 0 \/ (0 : Int) = 1) /\ ((0 : Int) = 1 ↔ verF (wv (W7 ρ 0) 0) (wv (W7 ρ 7) 0) (W28 ρ 14) (W28 ρ 42) (hs.take 28) = true)) = VerP hs (W7 ρ 0 ++ W7 ρ 7 ++ W28 ρ 14 ++ W28 ρ 42 ++ [0])) ?_
  refine flag_end ?_
  obtain ⟨⟨r, s⟩, t5, t7, t9⟩ := ver_run h hs' rfl
  have t10 := byts_of hV (a := W7 ρ 94) (ks := (W28 ρ 115)) rfl rfl (tokAt hs' 10 (by kernel_rfl))
  have t11 := mult_of hW (a := [291249441, 875725014, 1455558946, 1241760211, 840143033, 1807007615, 3071151293]) (b := [2231402036, 1154843033, 1510426468, 3443750304, 1277353958, 3052872699, 3174523784]) (ks := (W28 ρ 115)) (f := 0) (c := (W7 ρ 143)) (d := (W7 ρ 150)) rfl rfl rfl rfl rfl (tokAt hs' 11 (by kernel_rfl))
  have t12 := byts_of hV (a := W7 ρ 108) (ks := (W28 ρ 157)) rfl rfl (tokAt hs' 12 (by kernel_rfl))
  have t13 := mult_of hW (a := (W7 ρ 0)) (b := (W7 ρ 7)) (ks := (W28 ρ 157)) (f := 1) (c := [0, 0, 0, 0, 0, 0, 0]) (d := [0, 0, 0, 0, 0, 0, 0]) rfl rfl rfl rfl rfl (tokAt hs' 13 (by kernel_rfl))
  have m1 := t11.2.2.2
  have m2 := t13.2.2.2
  rw [if_neg (by decide)] at m1
  rw [if_pos rfl] at m2
  have gx : wv [291249441, 875725014, 1455558946, 1241760211, 840143033, 1807007615, 3071151293] 0 = gX := by kernel_rfl
  have gy : wv [2231402036, 1154843033, 1510426468, 3443750304, 1277353958, 3052872699, 3174523784] 0 = gY := by kernel_rfl
  rw [gx, gy, <- toB_of t10 rfl] at m1
  rw [<- toB_of t12 rfl] at m2
  rw [verF_eq ⟨r, s⟩ t5 t7 t9 m1 m2]
  have t14 := ordRest_of hV (a := (W7 ρ 143)) (c := (W7 ρ 143)) rfl rfl (tokAt hs' 14 (by kernel_rfl))
  have t15 := num_of hV (ks := W28 ρ 14) (a := (W7 ρ 185)) rfl rfl (tokAt hs' 15 (by kernel_rfl))
  have t16 := same_of hX (a := (W7 ρ 143)) (b := (W7 ρ 185)) (c := [ρ 192]) rfl rfl rfl (tokAt hs' 16 (by kernel_rfl))
  have o := oneAt hs' 17 (d := 192) (b := false) rfl
  have e := t16.2
  rw [t14.2, t15.2] at e
  have q : ¬ wv (W7 ρ 143) 0 % n224 = bn (W28 ρ 14) := fun q => absurd (o.mp (e.2 q)) (by decide)
  simp only [verM, beq_false_of_ne q]
  rfl
theorem ver_end8 {hs : List Int} (h : FU X hs) : EndP X verS 0 verL8 := by
  refine endP_of _ 55 _ rfl rfl (fun ρ => W7 ρ 0 ++ W7 ρ 7 ++ W28 ρ 14 ++ W28 ρ 42 ++ [1]) (fun ρ => by kernel_rfl) fun ρ hs' => (h.ver _).2 ?_
  have hV := h.toFV
  have hW := hV.toFW
  have hX := hW.toFX
  refine Eq.mp (by kernel_rfl : (((1 : Int) = 0 \/ (1 : Int) = 1) /\ ((1 : Int) = 1 ↔ verF (wv (W7 ρ 0) 0) (wv (W7 ρ 7) 0) (W28 ρ 14) (W28 ρ 42) (hs.take 28) = true)) = VerP hs (W7 ρ 0 ++ W7 ρ 7 ++ W28 ρ 14 ++ W28 ρ 42 ++ [1])) ?_
  refine flag_end ?_
  obtain ⟨⟨r, s⟩, t5, t7, t9⟩ := ver_run h hs' rfl
  have t10 := byts_of hV (a := W7 ρ 94) (ks := (W28 ρ 115)) rfl rfl (tokAt hs' 10 (by kernel_rfl))
  have t11 := mult_of hW (a := [291249441, 875725014, 1455558946, 1241760211, 840143033, 1807007615, 3071151293]) (b := [2231402036, 1154843033, 1510426468, 3443750304, 1277353958, 3052872699, 3174523784]) (ks := (W28 ρ 115)) (f := 0) (c := (W7 ρ 143)) (d := (W7 ρ 150)) rfl rfl rfl rfl rfl (tokAt hs' 11 (by kernel_rfl))
  have t12 := byts_of hV (a := W7 ρ 108) (ks := (W28 ρ 157)) rfl rfl (tokAt hs' 12 (by kernel_rfl))
  have t13 := mult_of hW (a := (W7 ρ 0)) (b := (W7 ρ 7)) (ks := (W28 ρ 157)) (f := 1) (c := [0, 0, 0, 0, 0, 0, 0]) (d := [0, 0, 0, 0, 0, 0, 0]) rfl rfl rfl rfl rfl (tokAt hs' 13 (by kernel_rfl))
  have m1 := t11.2.2.2
  have m2 := t13.2.2.2
  rw [if_neg (by decide)] at m1
  rw [if_pos rfl] at m2
  have gx : wv [291249441, 875725014, 1455558946, 1241760211, 840143033, 1807007615, 3071151293] 0 = gX := by kernel_rfl
  have gy : wv [2231402036, 1154843033, 1510426468, 3443750304, 1277353958, 3052872699, 3174523784] 0 = gY := by kernel_rfl
  rw [gx, gy, <- toB_of t10 rfl] at m1
  rw [<- toB_of t12 rfl] at m2
  rw [verF_eq ⟨r, s⟩ t5 t7 t9 m1 m2]
  have t14 := ordRest_of hV (a := (W7 ρ 143)) (c := (W7 ρ 185)) rfl rfl (tokAt hs' 14 (by kernel_rfl))
  have t15 := num_of hV (ks := W28 ρ 14) (a := (W7 ρ 192)) rfl rfl (tokAt hs' 15 (by kernel_rfl))
  have t16 := same_of hX (a := (W7 ρ 185)) (b := (W7 ρ 192)) (c := [ρ 199]) rfl rfl rfl (tokAt hs' 16 (by kernel_rfl))
  have o := oneAt hs' 17 (d := 199) (b := true) rfl
  have e := t16.2
  rw [t14.2, t15.2] at e
  have q := e.1 (o.symm ▸ rfl)
  simp only [verM, q, beq_self_eq_true, if_true]
theorem ver_end9 {hs : List Int} (h : FU X hs) : EndP X verS 0 verL9 := by
  refine endP_of _ 55 _ rfl rfl (fun ρ => W7 ρ 0 ++ W7 ρ 7 ++ W28 ρ 14 ++ W28 ρ 42 ++ [0]) (fun ρ => by kernel_rfl) fun ρ hs' => (h.ver _).2 ?_
  have hV := h.toFV
  have hW := hV.toFW
  have hX := hW.toFX
  refine Eq.mp (by kernel_rfl : (((0 : Int) = 0 \/ (0 : Int) = 1) /\ ((0 : Int) = 1 ↔ verF (wv (W7 ρ 0) 0) (wv (W7 ρ 7) 0) (W28 ρ 14) (W28 ρ 42) (hs.take 28) = true)) = VerP hs (W7 ρ 0 ++ W7 ρ 7 ++ W28 ρ 14 ++ W28 ρ 42 ++ [0])) ?_
  refine flag_end ?_
  obtain ⟨⟨r, s⟩, t5, t7, t9⟩ := ver_run h hs' rfl
  have t10 := byts_of hV (a := W7 ρ 94) (ks := (W28 ρ 115)) rfl rfl (tokAt hs' 10 (by kernel_rfl))
  have t11 := mult_of hW (a := [291249441, 875725014, 1455558946, 1241760211, 840143033, 1807007615, 3071151293]) (b := [2231402036, 1154843033, 1510426468, 3443750304, 1277353958, 3052872699, 3174523784]) (ks := (W28 ρ 115)) (f := 0) (c := (W7 ρ 143)) (d := (W7 ρ 150)) rfl rfl rfl rfl rfl (tokAt hs' 11 (by kernel_rfl))
  have t12 := byts_of hV (a := W7 ρ 108) (ks := (W28 ρ 157)) rfl rfl (tokAt hs' 12 (by kernel_rfl))
  have t13 := mult_of hW (a := (W7 ρ 0)) (b := (W7 ρ 7)) (ks := (W28 ρ 157)) (f := 1) (c := [0, 0, 0, 0, 0, 0, 0]) (d := [0, 0, 0, 0, 0, 0, 0]) rfl rfl rfl rfl rfl (tokAt hs' 13 (by kernel_rfl))
  have m1 := t11.2.2.2
  have m2 := t13.2.2.2
  rw [if_neg (by decide)] at m1
  rw [if_pos rfl] at m2
  have gx : wv [291249441, 875725014, 1455558946, 1241760211, 840143033, 1807007615, 3071151293] 0 = gX := by kernel_rfl
  have gy : wv [2231402036, 1154843033, 1510426468, 3443750304, 1277353958, 3052872699, 3174523784] 0 = gY := by kernel_rfl
  rw [gx, gy, <- toB_of t10 rfl] at m1
  rw [<- toB_of t12 rfl] at m2
  rw [verF_eq ⟨r, s⟩ t5 t7 t9 m1 m2]
  have t14 := ordRest_of hV (a := (W7 ρ 143)) (c := (W7 ρ 185)) rfl rfl (tokAt hs' 14 (by kernel_rfl))
  have t15 := num_of hV (ks := W28 ρ 14) (a := (W7 ρ 192)) rfl rfl (tokAt hs' 15 (by kernel_rfl))
  have t16 := same_of hX (a := (W7 ρ 185)) (b := (W7 ρ 192)) (c := [ρ 199]) rfl rfl rfl (tokAt hs' 16 (by kernel_rfl))
  have o := oneAt hs' 17 (d := 199) (b := false) rfl
  have e := t16.2
  rw [t14.2, t15.2] at e
  have q : ¬ wv (W7 ρ 143) 0 % n224 = bn (W28 ρ 14) := fun q => absurd (o.mp (e.2 q)) (by decide)
  simp only [verM, beq_false_of_ne q]
  rfl
theorem ver_end10 {hs : List Int} (h : FU X hs) : EndP X verS 0 verL10 := by
  refine endP_of _ 55 _ rfl rfl (fun ρ => W7 ρ 0 ++ W7 ρ 7 ++ W28 ρ 14 ++ W28 ρ 42 ++ [0]) (fun ρ => by kernel_rfl) fun ρ hs' => (h.ver _).2 ?_
  have hV := h.toFV
  have hW := hV.toFW
  have hX := hW.toFX
  refine Eq.mp (by kernel_rfl : (((0 : Int) = 0 \/ (0 : Int) = 1) /\ ((0 : Int) = 1 ↔ verF (wv (W7 ρ 0) 0) (wv (W7 ρ 7) 0) (W28 ρ 14) (W28 ρ 42) (hs.take 28) = true)) = VerP hs (W7 ρ 0 ++ W7 ρ 7 ++ W28 ρ 14 ++ W28 ρ 42 ++ [0])) ?_
  refine flag_end ?_
  obtain ⟨⟨r, s⟩, t5, t7, t9⟩ := ver_run h hs' rfl
  have t10 := byts_of hV (a := W7 ρ 94) (ks := (W28 ρ 115)) rfl rfl (tokAt hs' 10 (by kernel_rfl))
  have t11 := mult_of hW (a := [291249441, 875725014, 1455558946, 1241760211, 840143033, 1807007615, 3071151293]) (b := [2231402036, 1154843033, 1510426468, 3443750304, 1277353958, 3052872699, 3174523784]) (ks := (W28 ρ 115)) (f := 0) (c := (W7 ρ 143)) (d := (W7 ρ 150)) rfl rfl rfl rfl rfl (tokAt hs' 11 (by kernel_rfl))
  have t12 := byts_of hV (a := W7 ρ 108) (ks := (W28 ρ 157)) rfl rfl (tokAt hs' 12 (by kernel_rfl))
  have t13 := mult_of hW (a := (W7 ρ 0)) (b := (W7 ρ 7)) (ks := (W28 ρ 157)) (f := 0) (c := (W7 ρ 185)) (d := (W7 ρ 192)) rfl rfl rfl rfl rfl (tokAt hs' 13 (by kernel_rfl))
  have m1 := t11.2.2.2
  have m2 := t13.2.2.2
  rw [if_neg (by decide)] at m1
  rw [if_neg (by decide)] at m2
  have gx : wv [291249441, 875725014, 1455558946, 1241760211, 840143033, 1807007615, 3071151293] 0 = gX := by kernel_rfl
  have gy : wv [2231402036, 1154843033, 1510426468, 3443750304, 1277353958, 3052872699, 3174523784] 0 = gY := by kernel_rfl
  rw [gx, gy, <- toB_of t10 rfl] at m1
  rw [<- toB_of t12 rfl] at m2
  rw [verF_eq ⟨r, s⟩ t5 t7 t9 m1 m2]
  have t14 := sum_of hV (a := (W7 ρ 143)) (b := (W7 ρ 150)) (p := (W7 ρ 185)) (q := (W7 ρ 192)) (f := 1) (c := [0, 0, 0, 0, 0, 0, 0]) (d := [0, 0, 0, 0, 0, 0, 0]) rfl rfl rfl rfl rfl rfl (tokAt hs' 14 (by kernel_rfl))
  have m3 := t14.2.2.2
  rw [if_pos rfl] at m3
  simp only [verM, m3]
  rfl
theorem ver_end11 {hs : List Int} (h : FU X hs) : EndP X verS 0 verL11 := by
  refine endP_of _ 55 _ rfl rfl (fun ρ => W7 ρ 0 ++ W7 ρ 7 ++ W28 ρ 14 ++ W28 ρ 42 ++ [1]) (fun ρ => by kernel_rfl) fun ρ hs' => (h.ver _).2 ?_
  have hV := h.toFV
  have hW := hV.toFW
  have hX := hW.toFX
  refine Eq.mp (by kernel_rfl : (((1 : Int) = 0 \/ (1 : Int) = 1) /\ ((1 : Int) = 1 ↔ verF (wv (W7 ρ 0) 0) (wv (W7 ρ 7) 0) (W28 ρ 14) (W28 ρ 42) (hs.take 28) = true)) = VerP hs (W7 ρ 0 ++ W7 ρ 7 ++ W28 ρ 14 ++ W28 ρ 42 ++ [1])) ?_
  refine flag_end ?_
  obtain ⟨⟨r, s⟩, t5, t7, t9⟩ := ver_run h hs' rfl
  have t10 := byts_of hV (a := W7 ρ 94) (ks := (W28 ρ 115)) rfl rfl (tokAt hs' 10 (by kernel_rfl))
  have t11 := mult_of hW (a := [291249441, 875725014, 1455558946, 1241760211, 840143033, 1807007615, 3071151293]) (b := [2231402036, 1154843033, 1510426468, 3443750304, 1277353958, 3052872699, 3174523784]) (ks := (W28 ρ 115)) (f := 0) (c := (W7 ρ 143)) (d := (W7 ρ 150)) rfl rfl rfl rfl rfl (tokAt hs' 11 (by kernel_rfl))
  have t12 := byts_of hV (a := W7 ρ 108) (ks := (W28 ρ 157)) rfl rfl (tokAt hs' 12 (by kernel_rfl))
  have t13 := mult_of hW (a := (W7 ρ 0)) (b := (W7 ρ 7)) (ks := (W28 ρ 157)) (f := 0) (c := (W7 ρ 185)) (d := (W7 ρ 192)) rfl rfl rfl rfl rfl (tokAt hs' 13 (by kernel_rfl))
  have m1 := t11.2.2.2
  have m2 := t13.2.2.2
  rw [if_neg (by decide)] at m1
  rw [if_neg (by decide)] at m2
  have gx : wv [291249441, 875725014, 1455558946, 1241760211, 840143033, 1807007615, 3071151293] 0 = gX := by kernel_rfl
  have gy : wv [2231402036, 1154843033, 1510426468, 3443750304, 1277353958, 3052872699, 3174523784] 0 = gY := by kernel_rfl
  rw [gx, gy, <- toB_of t10 rfl] at m1
  rw [<- toB_of t12 rfl] at m2
  rw [verF_eq ⟨r, s⟩ t5 t7 t9 m1 m2]
  have t14 := sum_of hV (a := (W7 ρ 143)) (b := (W7 ρ 150)) (p := (W7 ρ 185)) (q := (W7 ρ 192)) (f := 0) (c := (W7 ρ 199)) (d := (W7 ρ 206)) rfl rfl rfl rfl rfl rfl (tokAt hs' 14 (by kernel_rfl))
  have m3 := t14.2.2.2
  rw [if_neg (by decide)] at m3
  simp only [verM, m3]
  have t15 := ordRest_of hV (a := (W7 ρ 199)) (c := (W7 ρ 199)) rfl rfl (tokAt hs' 15 (by kernel_rfl))
  have t16 := num_of hV (ks := W28 ρ 14) (a := (W7 ρ 213)) rfl rfl (tokAt hs' 16 (by kernel_rfl))
  have t17 := same_of hX (a := (W7 ρ 199)) (b := (W7 ρ 213)) (c := [ρ 220]) rfl rfl rfl (tokAt hs' 17 (by kernel_rfl))
  have o := oneAt hs' 18 (d := 220) (b := true) rfl
  have e := t17.2
  rw [t15.2, t16.2] at e
  have q := e.1 (o.symm ▸ rfl)
  simp only [q, beq_self_eq_true, if_true]
theorem ver_end12 {hs : List Int} (h : FU X hs) : EndP X verS 0 verL12 := by
  refine endP_of _ 55 _ rfl rfl (fun ρ => W7 ρ 0 ++ W7 ρ 7 ++ W28 ρ 14 ++ W28 ρ 42 ++ [0]) (fun ρ => by kernel_rfl) fun ρ hs' => (h.ver _).2 ?_
  have hV := h.toFV
  have hW := hV.toFW
  have hX := hW.toFX
  refine Eq.mp (by kernel_rfl : (((0 : Int) = 0 \/ (0 : Int) = 1) /\ ((0 : Int) = 1 ↔ verF (wv (W7 ρ 0) 0) (wv (W7 ρ 7) 0) (W28 ρ 14) (W28 ρ 42) (hs.take 28) = true)) = VerP hs (W7 ρ 0 ++ W7 ρ 7 ++ W28 ρ 14 ++ W28 ρ 42 ++ [0])) ?_
  refine flag_end ?_
  obtain ⟨⟨r, s⟩, t5, t7, t9⟩ := ver_run h hs' rfl
  have t10 := byts_of hV (a := W7 ρ 94) (ks := (W28 ρ 115)) rfl rfl (tokAt hs' 10 (by kernel_rfl))
  have t11 := mult_of hW (a := [291249441, 875725014, 1455558946, 1241760211, 840143033, 1807007615, 3071151293]) (b := [2231402036, 1154843033, 1510426468, 3443750304, 1277353958, 3052872699, 3174523784]) (ks := (W28 ρ 115)) (f := 0) (c := (W7 ρ 143)) (d := (W7 ρ 150)) rfl rfl rfl rfl rfl (tokAt hs' 11 (by kernel_rfl))
  have t12 := byts_of hV (a := W7 ρ 108) (ks := (W28 ρ 157)) rfl rfl (tokAt hs' 12 (by kernel_rfl))
  have t13 := mult_of hW (a := (W7 ρ 0)) (b := (W7 ρ 7)) (ks := (W28 ρ 157)) (f := 0) (c := (W7 ρ 185)) (d := (W7 ρ 192)) rfl rfl rfl rfl rfl (tokAt hs' 13 (by kernel_rfl))
  have m1 := t11.2.2.2
  have m2 := t13.2.2.2
  rw [if_neg (by decide)] at m1
  rw [if_neg (by decide)] at m2
  have gx : wv [291249441, 875725014, 1455558946, 1241760211, 840143033, 1807007615, 3071151293] 0 = gX := by kernel_rfl
  have gy : wv [2231402036, 1154843033, 1510426468, 3443750304, 1277353958, 3052872699, 3174523784] 0 = gY := by kernel_rfl
  rw [gx, gy, <- toB_of t10 rfl] at m1
  rw [<- toB_of t12 rfl] at m2
  rw [verF_eq ⟨r, s⟩ t5 t7 t9 m1 m2]
  have t14 := sum_of hV (a := (W7 ρ 143)) (b := (W7 ρ 150)) (p := (W7 ρ 185)) (q := (W7 ρ 192)) (f := 0) (c := (W7 ρ 199)) (d := (W7 ρ 206)) rfl rfl rfl rfl rfl rfl (tokAt hs' 14 (by kernel_rfl))
  have m3 := t14.2.2.2
  rw [if_neg (by decide)] at m3
  simp only [verM, m3]
  have t15 := ordRest_of hV (a := (W7 ρ 199)) (c := (W7 ρ 199)) rfl rfl (tokAt hs' 15 (by kernel_rfl))
  have t16 := num_of hV (ks := W28 ρ 14) (a := (W7 ρ 213)) rfl rfl (tokAt hs' 16 (by kernel_rfl))
  have t17 := same_of hX (a := (W7 ρ 199)) (b := (W7 ρ 213)) (c := [ρ 220]) rfl rfl rfl (tokAt hs' 17 (by kernel_rfl))
  have o := oneAt hs' 18 (d := 220) (b := false) rfl
  have e := t17.2
  rw [t15.2, t16.2] at e
  have q : ¬ wv (W7 ρ 199) 0 % n224 = bn (W28 ρ 14) := fun q => absurd (o.mp (e.2 q)) (by decide)
  simp only [beq_false_of_ne q]
  rfl
theorem ver_end13 {hs : List Int} (h : FU X hs) : EndP X verS 0 verL13 := by
  refine endP_of _ 55 _ rfl rfl (fun ρ => W7 ρ 0 ++ W7 ρ 7 ++ W28 ρ 14 ++ W28 ρ 42 ++ [1]) (fun ρ => by kernel_rfl) fun ρ hs' => (h.ver _).2 ?_
  have hV := h.toFV
  have hW := hV.toFW
  have hX := hW.toFX
  refine Eq.mp (by kernel_rfl : (((1 : Int) = 0 \/ (1 : Int) = 1) /\ ((1 : Int) = 1 ↔ verF (wv (W7 ρ 0) 0) (wv (W7 ρ 7) 0) (W28 ρ 14) (W28 ρ 42) (hs.take 28) = true)) = VerP hs (W7 ρ 0 ++ W7 ρ 7 ++ W28 ρ 14 ++ W28 ρ 42 ++ [1])) ?_
  refine flag_end ?_
  obtain ⟨⟨r, s⟩, t5, t7, t9⟩ := ver_run h hs' rfl
  have t10 := byts_of hV (a := W7 ρ 94) (ks := (W28 ρ 115)) rfl rfl (tokAt hs' 10 (by kernel_rfl))
  have t11 := mult_of hW (a := [291249441, 875725014, 1455558946, 1241760211, 840143033, 1807007615, 3071151293]) (b := [2231402036, 1154843033, 1510426468, 3443750304, 1277353958, 3052872699, 3174523784]) (ks := (W28 ρ 115)) (f := 0) (c := (W7 ρ 143)) (d := (W7 ρ 150)) rfl rfl rfl rfl rfl (tokAt hs' 11 (by kernel_rfl))
  have t12 := byts_of hV (a := W7 ρ 108) (ks := (W28 ρ 157)) rfl rfl (tokAt hs' 12 (by kernel_rfl))
  have t13 := mult_of hW (a := (W7 ρ 0)) (b := (W7 ρ 7)) (ks := (W28 ρ 157)) (f := 0) (c := (W7 ρ 185)) (d := (W7 ρ 192)) rfl rfl rfl rfl rfl (tokAt hs' 13 (by kernel_rfl))
  have m1 := t11.2.2.2
  have m2 := t13.2.2.2
  rw [if_neg (by decide)] at m1
  rw [if_neg (by decide)] at m2
  have gx : wv [291249441, 875725014, 1455558946, 1241760211, 840143033, 1807007615, 3071151293] 0 = gX := by kernel_rfl
  have gy : wv [2231402036, 1154843033, 1510426468, 3443750304, 1277353958, 3052872699, 3174523784] 0 = gY := by kernel_rfl
  rw [gx, gy, <- toB_of t10 rfl] at m1
  rw [<- toB_of t12 rfl] at m2
  rw [verF_eq ⟨r, s⟩ t5 t7 t9 m1 m2]
  have t14 := sum_of hV (a := (W7 ρ 143)) (b := (W7 ρ 150)) (p := (W7 ρ 185)) (q := (W7 ρ 192)) (f := 0) (c := (W7 ρ 199)) (d := (W7 ρ 206)) rfl rfl rfl rfl rfl rfl (tokAt hs' 14 (by kernel_rfl))
  have m3 := t14.2.2.2
  rw [if_neg (by decide)] at m3
  simp only [verM, m3]
  have t15 := ordRest_of hV (a := (W7 ρ 199)) (c := (W7 ρ 213)) rfl rfl (tokAt hs' 15 (by kernel_rfl))
  have t16 := num_of hV (ks := W28 ρ 14) (a := (W7 ρ 220)) rfl rfl (tokAt hs' 16 (by kernel_rfl))
  have t17 := same_of hX (a := (W7 ρ 213)) (b := (W7 ρ 220)) (c := [ρ 227]) rfl rfl rfl (tokAt hs' 17 (by kernel_rfl))
  have o := oneAt hs' 18 (d := 227) (b := true) rfl
  have e := t17.2
  rw [t15.2, t16.2] at e
  have q := e.1 (o.symm ▸ rfl)
  simp only [q, beq_self_eq_true, if_true]
theorem ver_end14 {hs : List Int} (h : FU X hs) : EndP X verS 0 verL14 := by
  refine endP_of _ 55 _ rfl rfl (fun ρ => W7 ρ 0 ++ W7 ρ 7 ++ W28 ρ 14 ++ W28 ρ 42 ++ [0]) (fun ρ => by kernel_rfl) fun ρ hs' => (h.ver _).2 ?_
  have hV := h.toFV
  have hW := hV.toFW
  have hX := hW.toFX
  refine Eq.mp (by kernel_rfl : (((0 : Int) = 0 \/ (0 : Int) = 1) /\ ((0 : Int) = 1 ↔ verF (wv (W7 ρ 0) 0) (wv (W7 ρ 7) 0) (W28 ρ 14) (W28 ρ 42) (hs.take 28) = true)) = VerP hs (W7 ρ 0 ++ W7 ρ 7 ++ W28 ρ 14 ++ W28 ρ 42 ++ [0])) ?_
  refine flag_end ?_
  obtain ⟨⟨r, s⟩, t5, t7, t9⟩ := ver_run h hs' rfl
  have t10 := byts_of hV (a := W7 ρ 94) (ks := (W28 ρ 115)) rfl rfl (tokAt hs' 10 (by kernel_rfl))
  have t11 := mult_of hW (a := [291249441, 875725014, 1455558946, 1241760211, 840143033, 1807007615, 3071151293]) (b := [2231402036, 1154843033, 1510426468, 3443750304, 1277353958, 3052872699, 3174523784]) (ks := (W28 ρ 115)) (f := 0) (c := (W7 ρ 143)) (d := (W7 ρ 150)) rfl rfl rfl rfl rfl (tokAt hs' 11 (by kernel_rfl))
  have t12 := byts_of hV (a := W7 ρ 108) (ks := (W28 ρ 157)) rfl rfl (tokAt hs' 12 (by kernel_rfl))
  have t13 := mult_of hW (a := (W7 ρ 0)) (b := (W7 ρ 7)) (ks := (W28 ρ 157)) (f := 0) (c := (W7 ρ 185)) (d := (W7 ρ 192)) rfl rfl rfl rfl rfl (tokAt hs' 13 (by kernel_rfl))
  have m1 := t11.2.2.2
  have m2 := t13.2.2.2
  rw [if_neg (by decide)] at m1
  rw [if_neg (by decide)] at m2
  have gx : wv [291249441, 875725014, 1455558946, 1241760211, 840143033, 1807007615, 3071151293] 0 = gX := by kernel_rfl
  have gy : wv [2231402036, 1154843033, 1510426468, 3443750304, 1277353958, 3052872699, 3174523784] 0 = gY := by kernel_rfl
  rw [gx, gy, <- toB_of t10 rfl] at m1
  rw [<- toB_of t12 rfl] at m2
  rw [verF_eq ⟨r, s⟩ t5 t7 t9 m1 m2]
  have t14 := sum_of hV (a := (W7 ρ 143)) (b := (W7 ρ 150)) (p := (W7 ρ 185)) (q := (W7 ρ 192)) (f := 0) (c := (W7 ρ 199)) (d := (W7 ρ 206)) rfl rfl rfl rfl rfl rfl (tokAt hs' 14 (by kernel_rfl))
  have m3 := t14.2.2.2
  rw [if_neg (by decide)] at m3
  simp only [verM, m3]
  have t15 := ordRest_of hV (a := (W7 ρ 199)) (c := (W7 ρ 213)) rfl rfl (tokAt hs' 15 (by kernel_rfl))
  have t16 := num_of hV (ks := W28 ρ 14) (a := (W7 ρ 220)) rfl rfl (tokAt hs' 16 (by kernel_rfl))
  have t17 := same_of hX (a := (W7 ρ 213)) (b := (W7 ρ 220)) (c := [ρ 227]) rfl rfl rfl (tokAt hs' 17 (by kernel_rfl))
  have o := oneAt hs' 18 (d := 227) (b := false) rfl
  have e := t17.2
  rw [t15.2, t16.2] at e
  have q : ¬ wv (W7 ρ 199) 0 % n224 = bn (W28 ρ 14) := fun q => absurd (o.mp (e.2 q)) (by decide)
  simp only [beq_false_of_ne q]
  rfl
theorem ver_end15 {hs : List Int} (h : FU X hs) : EndP X verS 0 verL15 := by
  refine endP_of _ 55 _ rfl rfl (fun ρ => W7 ρ 0 ++ W7 ρ 7 ++ W28 ρ 14 ++ W28 ρ 42 ++ [0]) (fun ρ => by kernel_rfl) fun ρ hs' => (h.ver _).2 ?_
  have hV := h.toFV
  have hW := hV.toFW
  have hX := hW.toFX
  refine Eq.mp (by kernel_rfl : (((0 : Int) = 0 \/ (0 : Int) = 1) /\ ((0 : Int) = 1 ↔ verF (wv (W7 ρ 0) 0) (wv (W7 ρ 7) 0) (W28 ρ 14) (W28 ρ 42) (hs.take 28) = true)) = VerP hs (W7 ρ 0 ++ W7 ρ 7 ++ W28 ρ 14 ++ W28 ρ 42 ++ [0])) ?_
  refine flag_end ?_
  have t0 := inOrder_of hV (ks := W28 ρ 14) (c := [ρ 71]) rfl rfl (tokAt hs' 0 (by kernel_rfl))
  have o1 := oneNot hs' 1 (d := 71) (b := true) rfl
  rw [verF_no fun c => absurd (o1.mp (t0.2.2 c.1)) (by decide)]
  rfl
theorem ver_ok {hs : List Int} (h : FU X hs) : SpecOK Tryz.prog X 7 verS.spec := by
  refine fn_sum (ET_ok h) ver_chk fun d hd => ?_
  simp only [verDs, List.mem_cons, List.not_mem_nil, or_false] at hd
  have key : d = (0, verL0) \/ d = (0, verL1) \/ d = (0, verL2) \/ d = (0, verL3) \/ d = (0, verL4) \/ d = (0, verL5) \/ d = (0, verL6) \/ d = (0, verL7) \/ d = (0, verL8) \/ d = (0, verL9) \/ d = (0, verL10) \/ d = (0, verL11) \/ d = (0, verL12) \/ d = (0, verL13) \/ d = (0, verL14) \/ d = (0, verL15) -> EndP X verS d.1 d.2 := fun q => by
    rcases q with rfl | rfl | rfl | rfl | rfl | rfl | rfl | rfl | rfl | rfl | rfl | rfl | rfl | rfl | rfl | rfl
    · exact ver_end0 h
    · exact ver_end1 h
    · exact ver_end2 h
    · exact ver_end3 h
    · exact ver_end4 h
    · exact ver_end5 h
    · exact ver_end6 h
    · exact ver_end7 h
    · exact ver_end8 h
    · exact ver_end9 h
    · exact ver_end10 h
    · exact ver_end11 h
    · exact ver_end12 h
    · exact ver_end13 h
    · exact ver_end14 h
    · exact ver_end15 h
  refine key ?_
  rcases hd with e | e | e | e | e | e | e | e | e | e | e | e | e | e | e | e | e | e | e | e | e | e | e | e | e | e | e | e | e | e | e | e | e | e | e | e | e | e | e | e | e | e | e | e | e | e | e | e | e | e | e | e | e | e | e | e | e | e | e | e | e | e | e | e | e | e | e | e | e | e | e | e | e | e | e | e | e | e | e | e | e | e | e | e | e | e | e | e | e | e | e | e | e | e | e | e | e | e | e | e
  · exact .inl e
  · exact .inr (.inl e)
  · exact .inr (.inl e)
  · exact .inr (.inr (.inl e))
  · exact .inr (.inr (.inr (.inl e)))
  · exact .inr (.inr (.inr (.inr (.inl e))))
  · exact .inr (.inr (.inr (.inr (.inr (.inl e)))))
  · exact .inr (.inr (.inl e))
  · exact .inr (.inr (.inr (.inl e)))
  · exact .inr (.inr (.inr (.inr (.inl e))))
  · exact .inr (.inr (.inr (.inr (.inr (.inl e)))))
  · exact .inr (.inl e)
  · exact .inr (.inr (.inl e))
  · exact .inr (.inr (.inr (.inl e)))
  · exact .inr (.inr (.inr (.inr (.inl e))))
  · exact .inr (.inr (.inr (.inr (.inr (.inl e)))))
  · exact .inr (.inl e)
  · exact .inr (.inr (.inl e))
  · exact .inr (.inr (.inr (.inl e)))
  · exact .inr (.inr (.inr (.inr (.inl e))))
  · exact .inr (.inr (.inr (.inr (.inr (.inl e)))))
  · exact .inr (.inr (.inr (.inr (.inr (.inr (.inl e))))))
  · exact .inr (.inr (.inr (.inr (.inr (.inr (.inr (.inl e)))))))
  · exact .inr (.inr (.inr (.inr (.inr (.inr (.inr (.inr (.inl e))))))))
  · exact .inr (.inr (.inr (.inr (.inr (.inr (.inr (.inr (.inr (.inl e)))))))))
  · exact .inr (.inr (.inr (.inr (.inr (.inr (.inl e))))))
  · exact .inr (.inr (.inr (.inr (.inr (.inr (.inr (.inl e)))))))
  · exact .inr (.inr (.inr (.inr (.inr (.inr (.inr (.inr (.inl e))))))))
  · exact .inr (.inr (.inr (.inr (.inr (.inr (.inr (.inr (.inr (.inl e)))))))))
  · exact .inr (.inr (.inr (.inr (.inr (.inr (.inr (.inr (.inr (.inr (.inl e))))))))))
  · exact .inr (.inr (.inr (.inr (.inr (.inr (.inr (.inr (.inr (.inr (.inr (.inl e)))))))))))
  · exact .inr (.inr (.inr (.inr (.inr (.inr (.inr (.inr (.inr (.inr (.inr (.inr (.inl e))))))))))))
  · exact .inr (.inr (.inr (.inr (.inr (.inr (.inr (.inr (.inr (.inr (.inr (.inr (.inr (.inl e)))))))))))))
  · exact .inr (.inr (.inr (.inr (.inr (.inr (.inr (.inr (.inr (.inr (.inr (.inr (.inr (.inr (.inl e))))))))))))))
  · exact .inr (.inr (.inr (.inr (.inr (.inr (.inr (.inr (.inr (.inr (.inl e))))))))))
  · exact .inr (.inr (.inr (.inr (.inr (.inr (.inr (.inr (.inr (.inr (.inr (.inl e)))))))))))
  · exact .inr (.inr (.inr (.inr (.inr (.inr (.inr (.inr (.inr (.inr (.inr (.inr (.inl e))))))))))))
  · exact .inr (.inr (.inr (.inr (.inr (.inr (.inr (.inr (.inr (.inr (.inr (.inr (.inr (.inl e)))))))))))))
  · exact .inr (.inr (.inr (.inr (.inr (.inr (.inr (.inr (.inr (.inr (.inr (.inr (.inr (.inr (.inl e))))))))))))))
  · exact .inr (.inr (.inr (.inr (.inr (.inr (.inl e))))))
  · exact .inr (.inr (.inr (.inr (.inr (.inr (.inr (.inl e)))))))
  · exact .inr (.inr (.inr (.inr (.inr (.inr (.inr (.inr (.inl e))))))))
  · exact .inr (.inr (.inr (.inr (.inr (.inr (.inr (.inr (.inr (.inl e)))))))))
  · exact .inr (.inr (.inr (.inr (.inr (.inr (.inr (.inr (.inr (.inr (.inl e))))))))))
  · exact .inr (.inr (.inr (.inr (.inr (.inr (.inr (.inr (.inr (.inr (.inr (.inl e)))))))))))
  · exact .inr (.inr (.inr (.inr (.inr (.inr (.inr (.inr (.inr (.inr (.inr (.inr (.inl e))))))))))))
  · exact .inr (.inr (.inr (.inr (.inr (.inr (.inr (.inr (.inr (.inr (.inr (.inr (.inr (.inl e)))))))))))))
  · exact .inr (.inr (.inr (.inr (.inr (.inr (.inr (.inr (.inr (.inr (.inr (.inr (.inr (.inr (.inl e))))))))))))))
  · exact .inr (.inr (.inr (.inr (.inr (.inr (.inl e))))))
  · exact .inr (.inr (.inr (.inr (.inr (.inr (.inr (.inl e)))))))
  · exact .inr (.inr (.inr (.inr (.inr (.inr (.inr (.inr (.inl e))))))))
  · exact .inr (.inr (.inr (.inr (.inr (.inr (.inr (.inr (.inr (.inl e)))))))))
  · exact .inr (.inr (.inr (.inr (.inr (.inr (.inr (.inr (.inr (.inr (.inl e))))))))))
  · exact .inr (.inr (.inr (.inr (.inr (.inr (.inr (.inr (.inr (.inr (.inr (.inl e)))))))))))
  · exact .inr (.inr (.inr (.inr (.inr (.inr (.inr (.inr (.inr (.inr (.inr (.inr (.inl e))))))))))))
  · exact .inr (.inr (.inr (.inr (.inr (.inr (.inr (.inr (.inr (.inr (.inr (.inr (.inr (.inl e)))))))))))))
  · exact .inr (.inr (.inr (.inr (.inr (.inr (.inr (.inr (.inr (.inr (.inr (.inr (.inr (.inr (.inl e))))))))))))))
  · exact .inr (.inl e)
  · exact .inr (.inr (.inl e))
  · exact .inr (.inr (.inr (.inl e)))
  · exact .inr (.inr (.inr (.inr (.inl e))))
  · exact .inr (.inr (.inr (.inr (.inr (.inl e)))))
  · exact .inr (.inr (.inr (.inr (.inr (.inr (.inl e))))))
  · exact .inr (.inr (.inr (.inr (.inr (.inr (.inr (.inl e)))))))
  · exact .inr (.inr (.inr (.inr (.inr (.inr (.inr (.inr (.inl e))))))))
  · exact .inr (.inr (.inr (.inr (.inr (.inr (.inr (.inr (.inr (.inl e)))))))))
  · exact .inr (.inr (.inr (.inr (.inr (.inr (.inr (.inr (.inr (.inr (.inl e))))))))))
  · exact .inr (.inr (.inr (.inr (.inr (.inr (.inr (.inr (.inr (.inr (.inr (.inl e)))))))))))
  · exact .inr (.inr (.inr (.inr (.inr (.inr (.inr (.inr (.inr (.inr (.inr (.inr (.inl e))))))))))))
  · exact .inr (.inr (.inr (.inr (.inr (.inr (.inr (.inr (.inr (.inr (.inr (.inr (.inr (.inl e)))))))))))))
  · exact .inr (.inr (.inr (.inr (.inr (.inr (.inr (.inr (.inr (.inr (.inr (.inr (.inr (.inr (.inl e))))))))))))))
  · exact .inr (.inl e)
  · exact .inr (.inr (.inl e))
  · exact .inr (.inr (.inr (.inl e)))
  · exact .inr (.inr (.inr (.inr (.inl e))))
  · exact .inr (.inr (.inr (.inr (.inr (.inl e)))))
  · exact .inr (.inr (.inr (.inr (.inr (.inr (.inl e))))))
  · exact .inr (.inr (.inr (.inr (.inr (.inr (.inr (.inl e)))))))
  · exact .inr (.inr (.inr (.inr (.inr (.inr (.inr (.inr (.inl e))))))))
  · exact .inr (.inr (.inr (.inr (.inr (.inr (.inr (.inr (.inr (.inl e)))))))))
  · exact .inr (.inr (.inr (.inr (.inr (.inr (.inr (.inr (.inr (.inr (.inl e))))))))))
  · exact .inr (.inr (.inr (.inr (.inr (.inr (.inr (.inr (.inr (.inr (.inr (.inl e)))))))))))
  · exact .inr (.inr (.inr (.inr (.inr (.inr (.inr (.inr (.inr (.inr (.inr (.inr (.inl e))))))))))))
  · exact .inr (.inr (.inr (.inr (.inr (.inr (.inr (.inr (.inr (.inr (.inr (.inr (.inr (.inl e)))))))))))))
  · exact .inr (.inr (.inr (.inr (.inr (.inr (.inr (.inr (.inr (.inr (.inr (.inr (.inr (.inr (.inl e))))))))))))))
  · exact .inr (.inl e)
  · exact .inr (.inr (.inl e))
  · exact .inr (.inr (.inr (.inl e)))
  · exact .inr (.inr (.inr (.inr (.inl e))))
  · exact .inr (.inr (.inr (.inr (.inr (.inl e)))))
  · exact .inr (.inr (.inr (.inr (.inr (.inr (.inl e))))))
  · exact .inr (.inr (.inr (.inr (.inr (.inr (.inr (.inl e)))))))
  · exact .inr (.inr (.inr (.inr (.inr (.inr (.inr (.inr (.inl e))))))))
  · exact .inr (.inr (.inr (.inr (.inr (.inr (.inr (.inr (.inr (.inl e)))))))))
  · exact .inr (.inr (.inr (.inr (.inr (.inr (.inr (.inr (.inr (.inr (.inl e))))))))))
  · exact .inr (.inr (.inr (.inr (.inr (.inr (.inr (.inr (.inr (.inr (.inr (.inl e)))))))))))
  · exact .inr (.inr (.inr (.inr (.inr (.inr (.inr (.inr (.inr (.inr (.inr (.inr (.inl e))))))))))))
  · exact .inr (.inr (.inr (.inr (.inr (.inr (.inr (.inr (.inr (.inr (.inr (.inr (.inr (.inl e)))))))))))))
  · exact .inr (.inr (.inr (.inr (.inr (.inr (.inr (.inr (.inr (.inr (.inr (.inr (.inr (.inr (.inl e))))))))))))))
  · exact .inr (.inr (.inr (.inr (.inr (.inr (.inr (.inr (.inr (.inr (.inr (.inr (.inr (.inr (.inr (e)))))))))))))))
end Go.Proofs.YtmogojlijkddpaaGreat
namespace Go.Vm
def W64 : Int × Int := (0, 18446744073709551615)
def elt (i : Nat) : List SV := [.int .u64 (.var i), .int .u64 (.var (i + 1)), .int .u64 (.var (i + 2)), .int .u64 (.var (i + 3))]
def sameOut (M : Mt) : Nat -> List Nat -> Bool
  | _, [] => true
  | i, o :: os => ieSame (M.f i) (.var o) && sameOut M (i + 1) os
def chkMont (s : Sm) (o : SmO) (d : Mont) (lo : Nat) (ins : List Nat) (x : SV × St) : Bool :=
  match s.matchOut o x.1 x.2 with
  | none => false
  | some M => montOK d x.2 && sameOut M lo (ins ++ d.out) && ins.all fun i => bdIs x.2.bd i 18446744073709551615
theorem sameOut_spec {M : Mt} : ∀ {l : List Nat} {i : Nat}, sameOut M i l = true -> ∀ (j : Nat) o, l[j]? = some o -> M.f (i + j) = .var o
  | [], _, _, j, o, h => by simp at h
  | x :: l, i, h, j, o, hj => by
    simp only [sameOut, Bool.and_eq_true] at h
    cases j with
    | zero =>
      simp only [List.getElem?_cons_zero, Option.some.injEq] at hj
      subst hj
      exact same_ie h.1
    | succ j =>
      have := sameOut_spec h.2 j o (by simpa using hj)
      rw [show i + (j + 1) = i + 1 + j by omega]; exact this
def chkAll (r : Option (List (SV × St))) (p : SV × St -> Bool) : Bool :=
  match r with
  | some ls => (splitB ls).all p
  | none => false
theorem chkAll_spec {r : Option (List (SV × St))} {p : SV × St -> Bool} (h : chkAll r p = true) : ∃ ls, r = some ls /\ ∀ v S', (v, S') ∈ splitB ls -> p (v, S') = true := by
  unfold chkAll at h
  split at h
  · rename_i ls
    exact ⟨ls, rfl, fun v S' hm => List.all_eq_true.1 h _ hm⟩
  · cases h
end Go.Vm
namespace Go.Proofs.YtmogojlijkddpaaGreat
open Go.Vm
def pp : Int := 26959946667150639794667015087019630673557916260026308143510066298881
def v4 (a b c d : Int) : Int := a + 18446744073709551616 * b + 340282366920938463463374607431768211456 * c + 6277101735386680763835789423207666416102355444464034512896 * d
def MulP (l : List Int) : Prop :=
  match l with
  | [a0, a1, a2, a3, b0, b1, b2, b3, r0, r1, r2, r3] =>
    v4 a0 a1 a2 a3 < pp -> v4 b0 b1 b2 b3 < pp -> 0 <= v4 r0 r1 r2 r3 /\ v4 r0 r1 r2 r3 < pp /\
      ∃ k, v4 r0 r1 r2 r3 * 115792089237316195423570985008687907853269984665640564039457584007913129639936 = v4 a0 a1 a2 a3 * v4 b0 b1 b2 b3 + pp * k
  | _ => True
def mulO : SmO := { nbd := List.replicate 4 W64, val := .tup [], writes := [(0, elt 12)], news := [], post := [(1, [.var 4, .var 5, .var 6, .var 7, .var 8, .var 9, .var 10, .var 11, .var 12, .var 13, .var 14, .var 15])] }
def mulS : Sm := { bd := List.replicate 12 W64, args := [.ptr 0 0, .ptr 1 0, .ptr 2 0], mem := [⟨89, elt 0, true⟩, ⟨89, elt 4, true⟩, ⟨89, elt 8, true⟩], al := [0, 1, 2], outs := [mulO] }
def mulD : Mont :=
  { p := pp, a := limbs 0 [4, 5, 6, 7], b := limbs 0 [8, 9, 10, 11], T := [188, 190, 192, 194], top := some 196, D := [197, 199, 201, 203, 205], m := [28, 76, 125, 174], low := [40, 88, 137, 186],
    bw := 206, msk := [207, 209, 211, 213], out := [208, 210, 212, 214] }
theorem mul_chk : chkAll (execCall E0 1000 151 mulS.args mulS.start) (chkMont mulS mulO mulD 4 [4, 5, 6, 7, 8, 9, 10, 11]) = true := by kernel_rfl
theorem mul_wf : mulS.wf = true := by kernel_rfl
theorem v4_nonneg {a b c d : Int} (ha : 0 <= a) (hb : 0 <= b) (hc : 0 <= c) (hd : 0 <= d) : 0 <= v4 a b c d := by unfold v4; omega
theorem mont_out {X : Tk} {s : Sm} {o : SmO} {d : Mont} {lo : Nat} {ins : List Nat} {x : SV × St} (h : chkMont s o d lo ins x = true) :
    ∃ M, s.matchOut o x.1 x.2 = some M /\ ∀ ρ, BdOK ρ x.2.bd x.2.nv -> (∀ k ∈ x.2.cons, k.holds X ρ) ->
      (∀ i ∈ ins, 0 <= ρ i) /\ (∀ j o, (ins ++ d.out)[j]? = some o -> (M.f (lo + j)).eval ρ = ρ o) /\
      (0 < d.p -> d.p < 115792089237316195423570985008687907853269984665640564039457584007913129639936 -> 0 <= Poly.eval ρ d.a * Poly.eval ρ d.b ->
        Poly.eval ρ d.a * Poly.eval ρ d.b < d.p * 115792089237316195423570985008687907853269984665640564039457584007913129639936 ->
        0 <= val4 ρ d.out /\ val4 ρ d.out < d.p /\ ∃ k, val4 ρ d.out * 115792089237316195423570985008687907853269984665640564039457584007913129639936 = Poly.eval ρ d.a * Poly.eval ρ d.b + d.p * k) := by
  unfold chkMont at h
  split at h
  · cases h
  rename_i M hM
  simp only [Bool.and_eq_true, List.all_eq_true] at h
  obtain ⟨⟨h1, h2⟩, h3⟩ := h
  exact ⟨M, hM, fun ρ hB hk => ⟨fun i hi => (bdIs_spec hB (h3 i hi)).1, fun j o h => by rw [sameOut_spec h2 j o h]; rfl, fun hp hp' hab hab' => mont_sound h1 hB hk hp hp' hab hab'⟩⟩
theorem prod_lt {a b : Int} (ha0 : 0 <= a) (hb0 : 0 <= b) (ha : a < pp) (hb : b < pp) : 0 <= a * b /\ a * b < pp * 115792089237316195423570985008687907853269984665640564039457584007913129639936 := by
  have h1 : a * b <= pp * b := Int.mul_le_mul_of_nonneg_right (by omega) hb0
  have h2 : pp * b <= pp * pp := Int.mul_le_mul_of_nonneg_left (by omega) (by decide)
  have h3 : pp * pp < pp * 115792089237316195423570985008687907853269984665640564039457584007913129639936 := by decide
  exact ⟨Int.mul_nonneg ha0 hb0, by omega⟩
theorem mul_ok {X : Tk} (hX : ∀ l, MulP l -> X 1 l) : SpecOK Tryz.prog X 151 mulS.spec := by
  obtain ⟨ls, hrun, hall⟩ := chkAll_spec mul_chk
  refine sum_sound E0_ok mul_wf hrun fun v S' hm => ?_
  obtain ⟨M, hM, hP⟩ := mont_out (X := X) (hall v S' hm)
  refine ⟨_, List.mem_singleton.2 rfl, M, hM, fun ρ hB hk x hx => ?_⟩
  simp only [mulO, List.mem_singleton] at hx
  subst hx
  refine hX _ ?_
  obtain ⟨hb, e, hm⟩ := hP ρ hB hk
  simp only [List.map_cons, List.map_nil, IE.eval, e 0 4 rfl, e 1 5 rfl, e 2 6 rfl, e 3 7 rfl, e 4 8 rfl, e 5 9 rfl, e 6 10 rfl, e 7 11 rfl, e 8 208 rfl, e 9 210 rfl, e 10 212 rfl, e 11 214 rfl]
  intro ha hb'
  have ha0 := v4_nonneg (hb 4 (by simp)) (hb 5 (by simp)) (hb 6 (by simp)) (hb 7 (by simp))
  have hb0 := v4_nonneg (hb 8 (by simp)) (hb 9 (by simp)) (hb 10 (by simp)) (hb 11 (by simp))
  have ea : Poly.eval ρ mulD.a = v4 (ρ 4) (ρ 5) (ρ 6) (ρ 7) := by simp only [mulD, limbs4, v4]
  have eb : Poly.eval ρ mulD.b = v4 (ρ 8) (ρ 9) (ρ 10) (ρ 11) := by simp only [mulD, limbs4, v4]
  rw [ea, eb] at hm
  exact hm (by decide) (by decide) (prod_lt ha0 hb0 ha hb').1 (prod_lt ha0 hb0 ha hb').2
def sqO : SmO := { nbd := List.replicate 4 W64, val := .tup [], writes := [(0, elt 8)], news := [], post := [(1, [.var 4, .var 5, .var 6, .var 7, .var 4, .var 5, .var 6, .var 7, .var 8, .var 9, .var 10, .var 11])] }
def sqS : Sm := { bd := List.replicate 8 W64, args := [.ptr 0 0, .ptr 1 0], mem := [⟨89, elt 0, true⟩, ⟨89, elt 4, true⟩], al := [0, 1], outs := [sqO] }
def sqD : Mont :=
  { p := pp, a := limbs 0 [4, 5, 6, 7], b := limbs 0 [4, 5, 6, 7], T := [184, 186, 188, 190], top := some 192, D := [193, 195, 197, 199, 201], m := [24, 72, 121, 170], low := [36, 84, 133, 182],
    bw := 202, msk := [203, 205, 207, 209], out := [204, 206, 208, 210] }
theorem sq_chk : chkAll (execCall E0 1000 170 sqS.args sqS.start) (chkMont sqS sqO sqD 4 [4, 5, 6, 7]) = true := by kernel_rfl
theorem sq_wf : sqS.wf = true := by kernel_rfl
theorem sq_ok {X : Tk} (hX : ∀ l, MulP l -> X 1 l) : SpecOK Tryz.prog X 170 sqS.spec := by
  obtain ⟨ls, hrun, hall⟩ := chkAll_spec sq_chk
  refine sum_sound E0_ok sq_wf hrun fun v S' hm => ?_
  obtain ⟨M, hM, hP⟩ := mont_out (X := X) (hall v S' hm)
  refine ⟨_, List.mem_singleton.2 rfl, M, hM, fun ρ hB hk x hx => ?_⟩
  simp only [sqO, List.mem_singleton] at hx
  subst hx
  refine hX _ ?_
  obtain ⟨hb, e, hm⟩ := hP ρ hB hk
  simp only [List.map_cons, List.map_nil, IE.eval, e 0 4 rfl, e 1 5 rfl, e 2 6 rfl, e 3 7 rfl, e 4 204 rfl, e 5 206 rfl, e 6 208 rfl, e 7 210 rfl]
  intro ha _
  have ha0 := v4_nonneg (hb 4 (by simp)) (hb 5 (by simp)) (hb 6 (by simp)) (hb 7 (by simp))
  have ea : Poly.eval ρ sqD.a = v4 (ρ 4) (ρ 5) (ρ 6) (ρ 7) := by simp only [sqD, limbs4, v4]
  have eb : Poly.eval ρ sqD.b = v4 (ρ 4) (ρ 5) (ρ 6) (ρ 7) := by simp only [sqD, limbs4, v4]
  rw [ea, eb] at hm
  exact hm (by decide) (by decide) (prod_lt ha0 ha0 ha ha).1 (prod_lt ha0 ha0 ha ha).2
open Go.Vm
def fromO : SmO := { nbd := List.replicate 4 W64, val := .tup [], writes := [(0, elt 8)], news := [], post := [(1, [.var 4, .var 5, .var 6, .var 7, .const 1, .const 0, .const 0, .const 0, .var 8, .var 9, .var 10, .var 11])] }
def fromS : Sm := { bd := List.replicate 8 W64, args := [.ptr 0 0, .ptr 1 0], mem := [⟨196, elt 0, true⟩, ⟨89, elt 4, true⟩], al := [], outs := [fromO] }
def fromD : Mont :=
  { p := pp, a := limbs 0 [4, 5, 6, 7], b := pconst 1, T := [100, 102, 104, 106], top := none, D := [107, 109, 111, 113, 115], m := [9, 35, 61, 87], low := [20, 46, 72, 98],
    bw := 116, msk := [117, 119, 121, 123], out := [118, 120, 122, 124] }
theorem from_chk : chkAll (execCall E0 1000 171 fromS.args fromS.start) (chkMont fromS fromO fromD 4 [4, 5, 6, 7]) = true := by kernel_rfl
theorem from_wf : fromS.wf = true := by kernel_rfl
theorem from_ok {X : Tk} (hX : ∀ l, MulP l -> X 1 l) : SpecOK Tryz.prog X 171 fromS.spec := by
  obtain ⟨ls, hrun, hall⟩ := chkAll_spec from_chk
  refine sum_sound E0_ok from_wf hrun fun v S' hm => ?_
  obtain ⟨M, hM, hP⟩ := mont_out (X := X) (hall v S' hm)
  refine ⟨_, List.mem_singleton.2 rfl, M, hM, fun ρ hB hk x hx => ?_⟩
  simp only [fromO, List.mem_singleton] at hx
  subst hx
  refine hX _ ?_
  obtain ⟨hb, e, hm⟩ := hP ρ hB hk
  simp only [List.map_cons, List.map_nil, IE.eval, e 0 4 rfl, e 1 5 rfl, e 2 6 rfl, e 3 7 rfl, e 4 118 rfl, e 5 120 rfl, e 6 122 rfl, e 7 124 rfl]
  intro ha _
  have ha0 := v4_nonneg (hb 4 (by simp)) (hb 5 (by simp)) (hb 6 (by simp)) (hb 7 (by simp))
  have ea : Poly.eval ρ fromD.a = v4 (ρ 4) (ρ 5) (ρ 6) (ρ 7) := by simp only [fromD, limbs4, v4]
  have eb : Poly.eval ρ fromD.b = v4 1 0 0 0 := by simp only [fromD, eval_const]; rfl
  rw [ea, eb] at hm
  exact hm (by decide) (by decide) (prod_lt ha0 (by decide) ha (by decide)).1 (prod_lt ha0 (by decide) ha (by decide)).2
def toO : SmO := { nbd := List.replicate 4 W64, val := .tup [], writes := [(0, elt 8)], news := [], post := [(1, [.var 4, .var 5, .var 6, .var 7, .const 18446744069414584321, .const 18446744069414584320, .const 18446744065119617024, .const 4294967295, .var 8, .var 9, .var 10, .var 11])] }
def toS : Sm := { bd := List.replicate 8 W64, args := [.ptr 0 0, .ptr 1 0], mem := [⟨89, elt 0, true⟩, ⟨196, elt 4, true⟩], al := [], outs := [toO] }
def toD : Mont :=
  { p := pp, a := limbs 0 [4, 5, 6, 7], b := pconst 26959946667150639791744011812698107204071485058075563455699384008705, T := [162, 164, 166, 168], top := none, D := [169, 171, 173, 175, 177], m := [23, 65, 107, 149], low := [34, 76, 118, 160],
    bw := 178, msk := [179, 181, 183, 185], out := [180, 182, 184, 186] }
theorem to_chk : chkAll (execCall E0 1000 163 toS.args toS.start) (chkMont toS toO toD 4 [4, 5, 6, 7]) = true := by kernel_rfl
theorem to_wf : toS.wf = true := by kernel_rfl
theorem to_ok {X : Tk} (hX : ∀ l, MulP l -> X 1 l) : SpecOK Tryz.prog X 163 toS.spec := by
  obtain ⟨ls, hrun, hall⟩ := chkAll_spec to_chk
  refine sum_sound E0_ok to_wf hrun fun v S' hm => ?_
  obtain ⟨M, hM, hP⟩ := mont_out (X := X) (hall v S' hm)
  refine ⟨_, List.mem_singleton.2 rfl, M, hM, fun ρ hB hk x hx => ?_⟩
  simp only [toO, List.mem_singleton] at hx
  subst hx
  refine hX _ ?_
  obtain ⟨hb, e, hm⟩ := hP ρ hB hk
  simp only [List.map_cons, List.map_nil, IE.eval, e 0 4 rfl, e 1 5 rfl, e 2 6 rfl, e 3 7 rfl, e 4 180 rfl, e 5 182 rfl, e 6 184 rfl, e 7 186 rfl]
  intro ha _
  have ha0 := v4_nonneg (hb 4 (by simp)) (hb 5 (by simp)) (hb 6 (by simp)) (hb 7 (by simp))
  have ea : Poly.eval ρ toD.a = v4 (ρ 4) (ρ 5) (ρ 6) (ρ 7) := by simp only [toD, limbs4, v4]
  have eb : Poly.eval ρ toD.b = v4 18446744069414584321 18446744069414584320 18446744065119617024 4294967295 := by simp only [toD, eval_const]; rfl
  rw [ea, eb] at hm
  exact hm (by decide) (by decide) (prod_lt ha0 (by decide) ha (by decide)).1 (prod_lt ha0 (by decide) ha (by decide)).2
end Go.Proofs.YtmogojlijkddpaaGreat
namespace Go.Vm
def conSameR : Con -> Con -> Bool
  | .eq d e, .eq d' e' => d == d' && ieSame e e'
  | .add64 s c x y z, .add64 s' c' x' y' z' => s == s' && c == c' && ieSame x x' && ieSame y y' && ieSame z z'
  | .sub64 s c x y z, .sub64 s' c' x' y' z' => s == s' && c == c' && ieSame x x' && ieSame y y' && ieSame z z'
  | .mul64 h l x y, .mul64 h' l' x' y' => h == h' && l == l' && ieSame x x' && ieSame y y'
  | .test e b, .test e' b' => beSame e e' && b == b'
  | .ext t l, .ext t' l' => t == t' && ieSameL l l'
  | _, _ => false
 where
  ieSameL : List IE -> List IE -> Bool
  | [], [] => true
  | a :: l, b :: l' => ieSame a b && ieSameL l l'
  | _, _ => false
def consSame : List Con -> List Con -> Bool
  | [], [] => true
  | a :: l, b :: l' => conSameR a b && consSame l l'
  | _, _ => false
theorem ieSameLR_spec : ∀ {l l' : List IE}, conSameR.ieSameL l l' = true -> l = l'
  | [], [], _ => rfl
  | a :: l, b :: l', h => by
    simp only [conSameR.ieSameL, Bool.and_eq_true] at h
    rw [same_ie h.1, ieSameLR_spec h.2]
  | [], _ :: _, h => by simp [conSameR.ieSameL] at h
  | _ :: _, [], h => by simp [conSameR.ieSameL] at h
theorem conSameR_spec {a b : Con} (h : conSameR a b = true) : a = b := by
  cases a <;> cases b <;> simp only [conSameR, Bool.and_eq_true, beq_iff_eq, Bool.false_eq_true] at h
  · rw [h.1, same_ie h.2]
  · obtain ⟨⟨⟨⟨h1, h2⟩, h3⟩, h4⟩, h5⟩ := h; rw [h1, h2, same_ie h3, same_ie h4, same_ie h5]
  · obtain ⟨⟨⟨⟨h1, h2⟩, h3⟩, h4⟩, h5⟩ := h; rw [h1, h2, same_ie h3, same_ie h4, same_ie h5]
  · obtain ⟨⟨⟨h1, h2⟩, h3⟩, h4⟩ := h; rw [h1, h2, same_ie h3, same_ie h4]
  · rw [same_be h.1, h.2]
  · rw [h.1, ieSameLR_spec h.2]
theorem consSame_spec : ∀ {l l' : List Con}, consSame l l' = true -> l = l'
  | [], [], _ => rfl
  | a :: l, b :: l', h => by
    simp only [consSame, Bool.and_eq_true] at h
    rw [conSameR_spec h.1, consSame_spec h.2]
  | [], _ :: _, h => by simp [consSame] at h
  | _ :: _, [], h => by simp [consSame] at h
def chkCons (s : Sm) (o : SmO) (ks : List Con) (lo : Nat) (nums : List Nat) (words : List Nat) (bits : List Nat) (x : SV × St) : Bool :=
  match s.matchOut o x.1 x.2 with
  | none => false
  | some M => consSame x.2.cons ks && sameOut M lo nums && (words.all fun i => bdIs x.2.bd i 18446744073709551615) && (bits.all fun i => bdIs x.2.bd i 1)
theorem cons_out {X : Tk} {s : Sm} {o : SmO} {ks : List Con} {lo : Nat} {nums words bits : List Nat} {x : SV × St} (h : chkCons s o ks lo nums words bits x = true) :
    ∃ M, s.matchOut o x.1 x.2 = some M /\ ∀ ρ, BdOK ρ x.2.bd x.2.nv -> (∀ k ∈ x.2.cons, k.holds X ρ) ->
      (∀ k ∈ ks, k.holds X ρ) /\ (∀ j o, nums[j]? = some o -> (M.f (lo + j)).eval ρ = ρ o) /\ (∀ i ∈ words, 0 <= ρ i /\ ρ i <= 18446744073709551615) /\ (∀ i ∈ bits, 0 <= ρ i /\ ρ i <= 1) := by
  unfold chkCons at h
  split at h
  · cases h
  rename_i M hM
  simp only [Bool.and_eq_true, List.all_eq_true] at h
  obtain ⟨⟨⟨h1, h2⟩, h3⟩, h4⟩ := h
  have := consSame_spec h1
  exact ⟨M, hM, fun ρ hB hk => ⟨this ▸ hk, fun j o h => by rw [sameOut_spec h2 j o h]; rfl, fun i hi => bdIs_spec hB (h3 i hi), fun i hi => bdIs_spec hB (h4 i hi)⟩⟩
end Go.Vm
namespace Go.Proofs.YtmogojlijkddpaaGreat
open Go.Vm
def SubP (l : List Int) : Prop :=
  match l with
  | [a0, a1, a2, a3, b0, b1, b2, b3, r0, r1, r2, r3] =>
    v4 a0 a1 a2 a3 < pp -> v4 b0 b1 b2 b3 < pp -> 0 <= v4 r0 r1 r2 r3 /\ v4 r0 r1 r2 r3 < pp /\ ∃ k, v4 r0 r1 r2 r3 = v4 a0 a1 a2 a3 - v4 b0 b1 b2 b3 + pp * k
  | _ => True
def subO : SmO := { nbd := List.replicate 4 W64, val := .tup [], writes := [(0, elt 12)], news := [], post := [(2, [.var 4, .var 5, .var 6, .var 7, .var 8, .var 9, .var 10, .var 11, .var 12, .var 13, .var 14, .var 15])] }
def subS : Sm := { bd := List.replicate 12 W64, args := [.ptr 0 0, .ptr 1 0, .ptr 2 0], mem := [⟨89, elt 0, true⟩, ⟨89, elt 4, true⟩, ⟨89, elt 8, true⟩], al := [0, 1, 2], outs := [subO] }
def subK : List Con :=
  [.add64 28 29 (.var 18) (.bin .and .u64 (.var 21) (.const 4294967295)) (.var 27),
   .add64 26 27 (.var 16) (.var 21) (.var 25),
   .add64 24 25 (.var 14) (.bin .and .u64 (.var 21) (.const 18446744069414584320)) (.var 23),
   .add64 22 23 (.var 12) (.bin .and .u64 (.var 21) (.const 1)) (.const 0),
   .eq 21 (.bin .or .u64 (.bin .and .u64 (.var 20) (.const 18446744073709551615)) (.bin .and .u64 (.bin .xor .u64 (.const 18446744073709551615) (.var 20)) (.const 0))),
   .eq 20 (.mul (.var 19) (.const 18446744073709551615)),
   .sub64 18 19 (.var 7) (.var 11) (.var 17),
   .sub64 16 17 (.var 6) (.var 10) (.var 15),
   .sub64 14 15 (.var 5) (.var 9) (.var 13),
   .sub64 12 13 (.var 4) (.var 8) (.const 0)]
theorem sub_chk : chkAll (execCall E0 1000 153 subS.args subS.start) (chkCons subS subO subK 4 [4, 5, 6, 7, 8, 9, 10, 11, 22, 24, 26, 28] [4, 5, 6, 7, 8, 9, 10, 11, 12, 14, 16, 18, 22, 24, 26, 28] [13, 15, 17, 19, 23, 25, 27, 29]) = true := by kernel_rfl
theorem sub_wf : subS.wf = true := by kernel_rfl
theorem sub_plain {A B S R bw c : Int} (hA : 0 <= A) (hB : 0 <= B) (ha : A < pp) (hb : B < pp) (hS : 0 <= S) (hS' : S < 115792089237316195423570985008687907853269984665640564039457584007913129639936)
    (hR : 0 <= R) (hR' : R < 115792089237316195423570985008687907853269984665640564039457584007913129639936)
    (e1 : S - 115792089237316195423570985008687907853269984665640564039457584007913129639936 * bw = A - B)
    (e2 : R + 115792089237316195423570985008687907853269984665640564039457584007913129639936 * c = S + pp * bw) (hbw : bw = 0 \/ bw = 1) (hc : 0 <= c /\ c <= 1) :
    0 <= R /\ R < pp /\ ∃ k, R = A - B + pp * k := by
  unfold pp at *
  rcases hbw with rfl | rfl
  · exact ⟨hR, by omega, 0, by omega⟩
  · exact ⟨hR, by omega, 1, by omega⟩
theorem sub_ok {X : Tk} (hX : ∀ l, SubP l -> X 2 l) : SpecOK Tryz.prog X 153 subS.spec := by
  obtain ⟨ls, hrun, hall⟩ := chkAll_spec sub_chk
  refine sum_sound E0_ok sub_wf hrun fun v S' hm => ?_
  obtain ⟨M, hM, hP⟩ := cons_out (X := X) (hall v S' hm)
  refine ⟨_, List.mem_singleton.2 rfl, M, hM, fun ρ hB hk x hx => ?_⟩
  simp only [subO, List.mem_singleton] at hx
  subst hx
  refine hX _ ?_
  obtain ⟨hks, e, hw, hbits⟩ := hP ρ hB hk
  simp only [List.map_cons, List.map_nil, IE.eval, e 0 4 rfl, e 1 5 rfl, e 2 6 rfl, e 3 7 rfl, e 4 8 rfl, e 5 9 rfl, e 6 10 rfl, e 7 11 rfl, e 8 22 rfl, e 9 24 rfl, e 10 26 rfl, e 11 28 rfl]
  intro ha hb
  simp only [subK, List.forall_mem_cons, List.not_mem_nil, false_imp_iff, implies_true, and_true, Con.holds, IE.eval] at hks
  obtain ⟨k1, k2, k3, k4, k5, k6, k7, k8, k9, k10⟩ := hks
  have hbw := hbits 19 (by simp)
  have hbw' : ρ 19 = 0 \/ ρ 19 = 1 := by omega
  rw [k6, cmov _ _ _ hbw' (by decide) (by decide)] at k5
  have w := fun i h => hw i h
  have nA := v4_nonneg (w 4 (by simp)).1 (w 5 (by simp)).1 (w 6 (by simp)).1 (w 7 (by simp)).1
  have nB := v4_nonneg (w 8 (by simp)).1 (w 9 (by simp)).1 (w 10 (by simp)).1 (w 11 (by simp)).1
  have nS := words4 (w 12 (by simp)) (w 14 (by simp)) (w 16 (by simp)) (w 18 (by simp))
  have nR := words4 (w 22 (by simp)) (w 24 (by simp)) (w 26 (by simp)) (w 28 (by simp))
  refine sub_plain (S := v4 (ρ 12) (ρ 14) (ρ 16) (ρ 18)) (bw := ρ 19) (c := ρ 29) nA nB ha hb nS.1 nS.2 nR.1 nR.2 ?_ ?_ hbw' (hbits 29 (by simp))
  · unfold v4; omega
  · have hand : ∀ c : Int, 0 <= c -> c < 18446744073709551616 -> intBin .and .u64 (ρ 21) c = c * ρ 19 := fun c h0 h1 => by
      rcases hbw' with h | h
      · rw [k5, h, if_neg (by decide), and_zero]; omega
      · rw [k5, h, if_pos rfl, and_ones c h0 h1]; omega
    rw [hand _ (by decide) (by decide)] at k1 k3 k4
    have k5' : ρ 21 = 18446744073709551615 * ρ 19 := by
      rcases hbw' with h | h
      · rw [k5, h]; rfl
      · rw [k5, h]; rfl
    unfold v4 pp; omega
open Go.Vm
def AddP (l : List Int) : Prop :=
  match l with
  | [a0, a1, a2, a3, b0, b1, b2, b3, r0, r1, r2, r3] =>
    v4 a0 a1 a2 a3 < pp -> v4 b0 b1 b2 b3 < pp -> 0 <= v4 r0 r1 r2 r3 /\ v4 r0 r1 r2 r3 < pp /\ ∃ k, v4 r0 r1 r2 r3 = v4 a0 a1 a2 a3 + v4 b0 b1 b2 b3 + pp * k
  | _ => True
def addO : SmO := { nbd := List.replicate 4 W64, val := .tup [], writes := [(0, elt 12)], news := [], post := [(3, [.var 4, .var 5, .var 6, .var 7, .var 8, .var 9, .var 10, .var 11, .var 12, .var 13, .var 14, .var 15])] }
def addS : Sm := { bd := List.replicate 12 W64, args := [.ptr 0 0, .ptr 1 0, .ptr 2 0], mem := [⟨89, elt 0, true⟩, ⟨89, elt 4, true⟩, ⟨89, elt 8, true⟩], al := [0, 1, 2], outs := [addO] }
def chkAdd (s : Sm) (o : SmO) (x : SV × St) : Bool :=
  match s.matchOut o x.1 x.2 with
  | none => false
  | some M => isNil (reduce x.2.cons (((limbs 0 [12, 14, 16, 18]).add (pscale 115792089237316195423570985008687907853269984665640564039457584007913129639936 (pvar 19))).sub ((limbs 0 [4, 5, 6, 7]).add (limbs 0 [8, 9, 10, 11])))) &&
    isNil (reduce x.2.cons ((limbs 0 [20, 22, 24, 26, 28]).sub ((pscale 2135987035920910082395021706169552114602704522356652769947041607822219725780640550022962086936576 (pvar 29)).add
      (((limbs 0 [12, 14, 16, 18]).add (pscale 115792089237316195423570985008687907853269984665640564039457584007913129639936 (pvar 19))).sub (pconst pp))))) &&
    sameOut M 4 [4, 5, 6, 7, 8, 9, 10, 11, 31, 33, 35, 37] && ([4, 5, 6, 7, 8, 9, 10, 11, 12, 14, 16, 18, 20, 22, 24, 26, 28].all fun i => bdIs x.2.bd i 18446744073709551615) && bdIs x.2.bd 19 1 && bdIs x.2.bd 29 1 &&
    chosen x.2.cons 29 [31, 33, 35, 37] [30, 32, 34, 36] [12, 14, 16, 18] [20, 22, 24, 26]
theorem add_chk : chkAll (execCall E0 1000 152 addS.args addS.start) (chkAdd addS addO) = true := by kernel_rfl
theorem add_wf : addS.wf = true := by kernel_rfl
theorem add_plain {A B L t4 L' d4 bw r : Int} (hA : 0 <= A) (hB : 0 <= B) (ha : A < pp) (hb : B < pp) (hL : 0 <= L /\ L < 115792089237316195423570985008687907853269984665640564039457584007913129639936)
    (hL' : 0 <= L' /\ L' < 115792089237316195423570985008687907853269984665640564039457584007913129639936) (_ht : 0 <= t4) (hd : 0 <= d4 /\ d4 <= 18446744073709551615)
    (e1 : L + 115792089237316195423570985008687907853269984665640564039457584007913129639936 * t4 = A + B)
    (e2 : L' + 115792089237316195423570985008687907853269984665640564039457584007913129639936 * d4 =
      2135987035920910082395021706169552114602704522356652769947041607822219725780640550022962086936576 * bw + (A + B - pp)) (hbw : bw = 0 \/ bw = 1) (hr : r = if bw = 1 then L else L') :
    0 <= r /\ r < pp /\ ∃ k, r = A + B + pp * k := by
  unfold pp at *
  rcases hbw with rfl | rfl
  · rw [if_neg (by decide)] at hr
    exact ⟨by omega, by omega, -1, by omega⟩
  · rw [if_pos rfl] at hr
    exact ⟨by omega, by omega, 0, by omega⟩
theorem add_ok {X : Tk} (hX : ∀ l, AddP l -> X 3 l) : SpecOK Tryz.prog X 152 addS.spec := by
  obtain ⟨ls, hrun, hall⟩ := chkAll_spec add_chk
  refine sum_sound E0_ok add_wf hrun fun v S' hm => ?_
  have hc := hall v S' hm
  unfold chkAdd at hc
  split at hc
  · cases hc
  rename_i M hM
  simp only [Bool.and_eq_true, List.all_eq_true] at hc
  obtain ⟨⟨⟨⟨⟨⟨c1, c2⟩, c3⟩, c4⟩, c5⟩, c6⟩, c7⟩ := hc
  refine ⟨_, List.mem_singleton.2 rfl, M, hM, fun ρ hB hk x hx => ?_⟩
  simp only [addO, List.mem_singleton] at hx
  subst hx
  refine hX _ ?_
  have e : ∀ j o, [4, 5, 6, 7, 8, 9, 10, 11, 31, 33, 35, 37][j]? = some o -> (M.f (4 + j)).eval ρ = ρ o := fun j o h => by rw [sameOut_spec c3 j o h]; rfl
  simp only [List.map_cons, List.map_nil, IE.eval, e 0 4 rfl, e 1 5 rfl, e 2 6 rfl, e 3 7 rfl, e 4 8 rfl, e 5 9 rfl, e 6 10 rfl, e 7 11 rfl, e 8 31 rfl, e 9 33 rfl, e 10 35 rfl, e 11 37 rfl]
  intro ha hb
  have w : ∀ i ∈ [4, 5, 6, 7, 8, 9, 10, 11, 12, 14, 16, 18, 20, 22, 24, 26, 28], 0 <= ρ i /\ ρ i <= 18446744073709551615 := fun i hi => bdIs_spec hB (c4 i hi)
  have hbw := bdIs_spec hB c6
  have ht := bdIs_spec hB c5
  have hbw' : ρ 29 = 0 \/ ρ 29 = 1 := by omega
  have r1 := reduce_zero hk (p := ((limbs 0 [12, 14, 16, 18]).add (pscale 115792089237316195423570985008687907853269984665640564039457584007913129639936 (pvar 19))).sub ((limbs 0 [4, 5, 6, 7]).add (limbs 0 [8, 9, 10, 11]))) (by
    rw [isNil_spec c1])
  have r2 := reduce_zero hk (p := (limbs 0 [20, 22, 24, 26, 28]).sub ((pscale 2135987035920910082395021706169552114602704522356652769947041607822219725780640550022962086936576 (pvar 29)).add
      (((limbs 0 [12, 14, 16, 18]).add (pscale 115792089237316195423570985008687907853269984665640564039457584007913129639936 (pvar 19))).sub (pconst pp)))) (by rw [isNil_spec c2])
  simp only [eval_sub, eval_add, eval_scale, eval_var, eval_const, limbs4, limbs5] at r1 r2
  have hch := chosen_spec hk hbw' c7 fun i hi => by
    have := w i (by
      simp only [List.mem_append, List.mem_cons, List.not_mem_nil, or_false] at hi ⊢
      omega)
    omega
  have nA := v4_nonneg (w 4 (by simp)).1 (w 5 (by simp)).1 (w 6 (by simp)).1 (w 7 (by simp)).1
  have nB := v4_nonneg (w 8 (by simp)).1 (w 9 (by simp)).1 (w 10 (by simp)).1 (w 11 (by simp)).1
  refine add_plain (L := v4 (ρ 12) (ρ 14) (ρ 16) (ρ 18)) (t4 := ρ 19) (L' := v4 (ρ 20) (ρ 22) (ρ 24) (ρ 26)) (d4 := ρ 28) (bw := ρ 29) nA nB ha hb
    (words4 (w 12 (by simp)) (w 14 (by simp)) (w 16 (by simp)) (w 18 (by simp))) (words4 (w 20 (by simp)) (w 22 (by simp)) (w 24 (by simp)) (w 26 (by simp))) ht.1 (w 28 (by simp)) ?_ ?_ hbw' ?_
  · unfold v4; omega
  · unfold v4; omega
  · rcases hbw' with h | h
    · rw [if_neg (by omega)] at hch
      simp only [List.map_cons, List.map_nil, List.cons.injEq, and_true] at hch
      obtain ⟨d1, d2, d3, d4⟩ := hch
      rw [if_neg (by omega), d1, d2, d3, d4]
    · rw [if_pos h] at hch
      simp only [List.map_cons, List.map_nil, List.cons.injEq, and_true] at hch
      obtain ⟨d1, d2, d3, d4⟩ := hch
      rw [if_pos h, d1, d2, d3, d4]
end Go.Proofs.YtmogojlijkddpaaGreat
namespace Go.Vm
def nE (i : Nat) : Blk := ⟨89, elt i, true⟩
def nP (b : Nat) : Blk := ⟨92, [.ptr b 0, .ptr (b + 1) 0, .ptr (b + 2) 0], true⟩
def zE : Blk := ⟨89, List.replicate 4 (.int .u64 (.const 0)), true⟩
def oneW : List SV := [.int .u64 (.const 18446744069414584320), .int .u64 (.const 18446744073709551615), .int .u64 (.const 0), .int .u64 (.const 0)]
def opS (tag : Nat) : Sm := { bd := List.replicate 12 W64, args := [.ptr 0 0, .ptr 1 0, .ptr 2 0], mem := [nE 0, nE 4, nE 8], al := [0, 1, 2], outs := [{ nbd := List.replicate 4 W64, val := .ptr 0 0, writes := [(0, elt 12)], news := [], post := [(tag, vars 4 12)] }] }
def sqrS : Sm := { bd := List.replicate 8 W64, args := [.ptr 0 0, .ptr 1 0], mem := [nE 0, nE 4], al := [0, 1], outs := [{ nbd := List.replicate 4 W64, val := .ptr 0 0, writes := [(0, elt 8)], news := [], post := [(1, vars 4 4 ++ vars 4 8)] }] }
def setS : Sm := { bd := List.replicate 8 W64, args := [.ptr 0 0, .ptr 1 0], mem := [nE 0, nE 4], al := [0, 1], outs := [{ nbd := [], val := .ptr 0 0, writes := [(0, elt 4)], news := [], post := [] }] }
def oneS : Sm := { bd := List.replicate 4 W64, args := [.ptr 0 0], mem := [nE 0], al := [], outs := [{ nbd := [], val := .ptr 0 0, writes := [(0, oneW)], news := [], post := [] }] }
def newPS : Sm := { bd := [], args := [], mem := [], al := [], outs := [{ nbd := [], val := .ptr 0 0, writes := [], news := [nP 1, zE, ⟨89, oneW, true⟩, zE], post := [] }] }
def fromBS : Sm := { bd := List.replicate 4 W64 ++ List.replicate 28 (0, 255), args := [.ptr 0 0, .ptr 1 0], mem := [⟨196, elt 0, true⟩, ⟨175, bytV 4 28, true⟩], al := [], outs := [{ nbd := List.replicate 4 W64, val := .tup [], writes := [(0, elt 32)], news := [], post := [(60, vars 4 32)] }] }
def toBS : Sm := { bd := List.replicate 4 W64 ++ List.replicate 28 (0, 255), args := [.ptr 0 0, .ptr 1 0], mem := [⟨175, bytV 4 28, true⟩, ⟨196, elt 0, true⟩], al := [], outs := [{ nbd := List.replicate 28 (0, 255), val := .tup [], writes := [(0, bytV 32 28)], news := [], post := [(60, (vars 32 28) ++ vars 0 4)] }] }
def eBytesS : Sm := { bd := List.replicate 4 W64, args := [.ptr 0 0], mem := [nE 0], al := [], outs := [{ nbd := List.replicate 28 (0, 255), val := .slice 1 0 28 28, writes := [], news := [⟨175, bytV 4 28, true⟩], post := [(61, vars 0 32)] }] }
def bPS : Sm := { bd := [], args := [], mem := [], al := [], outs := [{ nbd := [], val := .ptr 0 0, writes := [], news := [⟨89, [.int .u64 (.const 16674804078458460621), .int .u64 (.const 1187475804136674064), .int .u64 (.const 4453702246874644817), .int .u64 (.const 2143301523)], true⟩], post := [] }] }
def cmp28S (tag ta tb : Nat) : Sm := { bd := List.replicate 56 (0, 255), args := [.view 0 0 28, .view 1 0 28], mem := [⟨ta, bytV 0 28, false⟩, ⟨tb, bytV 28 28, false⟩], al := [0, 1], outs := [{ nbd := [(0, 1)], val := .int .i64 (.var 56), writes := [], news := [], post := [(tag, vars 0 57)] }] }
def selzS : Sm := { bd := List.replicate 12 W64 ++ [(0, 1)], args := [.ptr 0 0, .int .u64 (.var 12), .ptr 1 0, .ptr 2 0], mem := [nE 0, nE 4, nE 8], al := [0, 1, 2], outs := [{ nbd := List.replicate 4 W64, val := .tup [], writes := [(0, elt 13)], news := [], post := [(66, vars 4 13)] }] }
def toBS' : Sm := { toBS with outs := [{ nbd := List.replicate 28 (0, 255), val := .tup [], writes := [(0, bytV 32 28)], news := [], post := [(62, vars 0 4 ++ vars 32 28)] }] }
def isZS : Sm := { bd := List.replicate 4 W64, args := [.ptr 0 0], mem := [nE 0], al := [], outs := [{ nbd := [(0, 1)], val := .int .i64 (.var 4), writes := [], news := [], post := [(67, vars 0 5)] }] }
def eqES : Sm := { bd := List.replicate 8 W64, args := [.ptr 0 0, .ptr 1 0], mem := [nE 0, nE 4], al := [0, 1], outs := [{ nbd := [(0, 1)], val := .int .i64 (.var 8), writes := [], news := [], post := [(68, vars 0 9)] }] }
def selES : Sm := { bd := List.replicate 12 W64 ++ [(0, 1)], args := [.ptr 0 0, .ptr 1 0, .ptr 2 0, .int .i64 (.var 12)], mem := [nE 0, nE 4, nE 8], al := [0, 1, 2], outs := [{ nbd := List.replicate 4 W64, val := .ptr 0 0, writes := [(0, elt 13)], news := [], post := [(66, vars 8 4 ++ vars 4 4 ++ vars 12 5)] }] }
def errV (b : Nat) : SV := .iface 102 (.ptr b 0)
def setBS (te : String) : Sm := { bd := List.replicate 4 W64 ++ List.replicate 28 (0, 255), args := [.ptr 0 0, .view 1 0 28], mem := [nE 0, ⟨5, bytV 4 28, false⟩], al := [], outs := [{ nbd := List.replicate 4 W64, val := .tup [.ptr 0 0, .val .nilIface], writes := [(0, elt 32)], news := [], post := [(65, vars 4 32)] }, { nbd := [], val := .tup [.nilp, errV 2], writes := [], news := [⟨104, [.val (.string te.toUTF8)], true⟩], post := [(69, vars 4 28)] }] }
def Pr (r : Nat) : Prop := 2 <= r /\ ∀ d, d ∣ r -> d = 1 \/ d = r
theorem Pr.coprime {r a : Nat} (h : Pr r) (ha : ¬ r ∣ a) : Nat.Coprime r a := by
  rcases h.2 _ (Nat.gcd_dvd_left r a) with e | e
  · exact e
  · exact absurd (by have := Nat.gcd_dvd_right r a; rwa [e] at this) ha
theorem Pr.dvd_mul {r a b : Nat} (h : Pr r) (hd : r ∣ a * b) : r ∣ a \/ r ∣ b := by
  by_cases ha : r ∣ a
  · exact .inl ha
  · exact .inr ((h.coprime ha).dvd_of_dvd_mul_left hd)
theorem perm_of_sub : ∀ {M L : List Nat}, M.Nodup -> (∀ x ∈ M, x ∈ L) -> L.length <= M.length -> M.Perm L
  | [], L, _, _, hl => by
    have : L = [] := List.length_eq_zero_iff.1 (by simpa using hl)
    rw [this]
  | x :: M, L, hn, hs, hl => by
    obtain ⟨h1, h2⟩ := List.nodup_cons.1 hn
    have hx : x ∈ L := hs x (by simp)
    have p := List.perm_cons_erase hx
    have := perm_of_sub (M := M) (L := L.erase x) h2 (fun y hy => (List.mem_erase_of_ne (fun e => h1 (by rw [<- e]; exact hy))).2 (hs y (by simp [hy]))) (by
      rw [List.length_erase_of_mem hx]; simp at hl; omega)
    exact (this.cons x).trans p.symm
def lprod : List Nat -> Nat
  | [] => 1
  | x :: l => x * lprod l
theorem lprod_perm {l l' : List Nat} (h : l.Perm l') : lprod l = lprod l' := by
  induction h with
  | nil => rfl
  | cons x _ ih => simp [lprod, ih]
  | swap x y l => simp only [lprod]; exact Nat.mul_left_comm ..
  | trans _ _ ih1 ih2 => exact ih1.trans ih2
theorem lprod_map_mod (r a : Nat) : ∀ l : List Nat, lprod (l.map fun i => a * i % r) % r = a ^ l.length * lprod l % r
  | [] => by simp [lprod]
  | x :: l => by
    simp only [List.map_cons, lprod, List.length_cons]
    rw [Nat.mul_mod, lprod_map_mod r a l, Nat.mod_mod, <- Nat.mul_mod, Nat.pow_succ]
    have e : a * x * (a ^ l.length * lprod l) = a ^ l.length * a * (x * lprod l) := by
      rw [Nat.mul_mul_mul_comm, Nat.mul_comm a (a ^ l.length)]
    rw [e]
theorem Pr.not_dvd_lprod {r : Nat} (h : Pr r) : ∀ {l : List Nat}, (∀ x ∈ l, ¬ r ∣ x) -> ¬ r ∣ lprod l
  | [], _, hd => by
    have := Nat.dvd_one.1 hd
    have := h.1
    omega
  | x :: l, hl, hd => by
    rcases h.dvd_mul hd with e | e
    · exact hl x (by simp) e
    · exact h.not_dvd_lprod (fun y hy => hl y (by simp [hy])) e
theorem sub_dvd_of_mod {r a b : Nat} (h : a % r = b % r) (_ : b <= a) : r ∣ a - b := Nat.dvd_of_mod_eq_zero (Nat.sub_mod_eq_zero_of_mod_eq h)
theorem Pr.cancel {r a i j : Nat} (h : Pr r) (ha : ¬ r ∣ a) (e : a * i % r = a * j % r) : i % r = j % r := by
  rcases Nat.le_total j i with hl | hl
  · have hd : r ∣ a * i - a * j := sub_dvd_of_mod e (Nat.mul_le_mul_left a hl)
    rw [<- Nat.mul_sub] at hd
    rcases h.dvd_mul hd with e | ⟨k, hk⟩
    · exact absurd e ha
    · rw [show i = j + r * k by omega, Nat.add_mul_mod_self_left]
  · have hd : r ∣ a * j - a * i := sub_dvd_of_mod e.symm (Nat.mul_le_mul_left a hl)
    rw [<- Nat.mul_sub] at hd
    rcases h.dvd_mul hd with e | ⟨k, hk⟩
    · exact absurd e ha
    · rw [show j = i + r * k by omega, Nat.add_mul_mod_self_left]
theorem fermat {r a : Nat} (h : Pr r) (ha : ¬ r ∣ a) : a ^ (r - 1) % r = 1 := by
  have h2 := h.1
  have hm : ∀ x, x ∈ List.range' 1 (r - 1) ↔ 1 <= x /\ x < r := fun x => by rw [List.mem_range'_1]; omega
  have hnd : ∀ x ∈ List.range' 1 (r - 1), ¬ r ∣ x := fun x hx hd => by
    have := (hm x).1 hx
    have := Nat.le_of_dvd (by omega) hd
    omega
  have p : ((List.range' 1 (r - 1)).map fun i => a * i % r).Perm (List.range' 1 (r - 1)) := by
    refine perm_of_sub ?_ (fun y hy => ?_) (by simp)
    · unfold List.Nodup
      rw [List.pairwise_map]
      refine List.Pairwise.imp_of_mem ?_ (List.nodup_range' (s := 1) (n := r - 1) (step := 1))
      intro i j hi hj hne e
      apply hne
      have := h.cancel ha e
      have h1 := (hm i).1 hi
      have h3 := (hm j).1 hj
      rwa [Nat.mod_eq_of_lt h1.2, Nat.mod_eq_of_lt h3.2] at this
    · obtain ⟨i, hi, rfl⟩ := List.mem_map.1 hy
      refine (hm _).2 ⟨?_, Nat.mod_lt _ (by omega)⟩
      refine Nat.pos_of_ne_zero fun e => ?_
      rcases h.dvd_mul (Nat.dvd_of_mod_eq_zero e) with e | e
      · exact ha e
      · exact hnd i hi e
  have e := lprod_map_mod r a (List.range' 1 (r - 1))
  rw [lprod_perm p, List.length_range', Nat.mul_comm] at e
  have hL := h.not_dvd_lprod hnd
  have := h.cancel (i := a ^ (r - 1)) (j := 1) hL (by rw [<- e, Nat.mul_one])
  rw [this]
  exact Nat.mod_eq_of_lt (by omega)
theorem exists_pr : ∀ (n : Nat), 2 <= n -> ∃ r, Pr r /\ r ∣ n := by
  intro n
  induction n using Nat.strongRecOn with
  | ind n ih =>
    intro hn
    by_cases hp : ∀ d, d ∣ n -> d = 1 \/ d = n
    · exact ⟨n, ⟨hn, hp⟩, Nat.dvd_refl n⟩
    · simp only [Classical.not_forall] at hp
      obtain ⟨d, hd, hne⟩ := hp
      have h1 : d ≠ 1 := fun e => hne (.inl e)
      have h2 : d ≠ n := fun e => hne (.inr e)
      have h3 := Nat.le_of_dvd (by omega) hd
      have h4 : d ≠ 0 := fun e => by rw [e] at hd; have := Nat.eq_zero_of_zero_dvd hd; omega
      obtain ⟨r, hr, hrd⟩ := ih d (by omega) (by omega)
      exact ⟨r, hr, Nat.dvd_trans hrd hd⟩
def pwm (m a : Nat) : Nat -> Nat -> Nat
  | 0, _ => 1 % m
  | f + 1, e => if e = 0 then 1 % m else
    let h := pwm m a f (e / 2)
    if e % 2 = 1 then h * h % m * a % m else h * h % m
theorem pwm_spec (m a : Nat) : ∀ (f e : Nat), e < 2 ^ f -> pwm m a f e = a ^ e % m
  | 0, e, h => by
    obtain rfl : e = 0 := by simpa using h
    simp [pwm]
  | f + 1, e, h => by
    simp only [pwm]
    split
    · rename_i he; rw [he]; simp
    · have ih := pwm_spec m a f (e / 2) (by rw [Nat.pow_succ] at h; omega)
      rw [ih, <- Nat.mul_mod, <- Nat.pow_add]
      split
      · rename_i ho
        rw [Nat.mod_mul_mod, <- Nat.pow_succ]
        congr 2; omega
      · rename_i ho
        congr 2; omega
theorem two_split : ∀ (n : Nat), 0 < n -> ∃ j m, n = 2 ^ j * m /\ m % 2 = 1 := by
  intro n
  induction n using Nat.strongRecOn with
  | ind n ih =>
    intro hn
    by_cases h : n % 2 = 1
    · exact ⟨0, n, by simp, h⟩
    · obtain ⟨j, m, e, hm⟩ := ih (n / 2) (by omega) (by omega)
      exact ⟨j + 1, m, by rw [Nat.pow_succ, Nat.mul_assoc, Nat.mul_left_comm, <- e]; omega, hm⟩
theorem two_pow_dvd {r c k : Nat} (h : Pr r) (hr : r ≠ 2) (hc : (c ^ 2 ^ k + 1) % r = 0) : 2 ^ (k + 1) ∣ r - 1 := by
  have h2 := h.1
  have hk : 0 < 2 ^ k := Nat.two_pow_pos k
  have hnc : ¬ r ∣ c := fun hd => by
    have h1 : r ∣ c ^ 2 ^ k := Nat.dvd_trans hd (by obtain ⟨n, hn⟩ : ∃ n, 2 ^ k = n + 1 := ⟨2 ^ k - 1, by omega⟩; rw [hn, Nat.pow_succ]; exact Nat.dvd_mul_left _ _)
    have h3 : r ∣ 1 := (Nat.dvd_add_right h1).1 (Nat.dvd_of_mod_eq_zero hc)
    have := Nat.dvd_one.1 h3
    omega
  have hf := fermat h hnc
  obtain ⟨j, m, e, hm⟩ := two_split (r - 1) (by omega)
  by_cases hj : k + 1 <= j
  · rw [e]
    exact Nat.dvd_trans (Nat.pow_dvd_pow 2 hj) (Nat.dvd_mul_right _ _)
  · exfalso
    have h1 : c ^ (2 ^ k * m) % r = 1 := by
      have : 2 ^ k * m = (r - 1) * 2 ^ (k - j) := by
        rw [e, Nat.mul_right_comm, <- Nat.pow_add]
        congr 2; omega
      rw [this, Nat.pow_mul, Nat.pow_mod, hf, Nat.one_pow]
      exact Nat.mod_eq_of_lt (by omega)
    have h3 : ∀ q, (c ^ 2 ^ k) ^ (2 * q) % r = 1 := fun q => by
      have e1 : (c ^ 2 ^ k) * (c ^ 2 ^ k) % r = 1 := by
        obtain ⟨t, ht⟩ := Nat.dvd_of_mod_eq_zero hc
        have ht0 : 0 < t := Nat.pos_of_ne_zero fun e => by rw [e] at ht; simp at ht
        obtain ⟨u, rfl⟩ : ∃ u, t = u + 1 := ⟨t - 1, by omega⟩
        have hx : c ^ 2 ^ k = r * u + (r - 1) := by rw [Nat.mul_succ] at ht; omega
        rw [hx]
        have : (r * u + (r - 1)) * (r * u + (r - 1)) = 1 + r * (r * u * u + 2 * u * (r - 1) + (r - 2)) := by
          obtain ⟨s, rfl⟩ : ∃ s, r = s + 2 := ⟨r - 2, by omega⟩
          simp only [Nat.add_sub_cancel, show s + 2 - 1 = s + 1 from rfl]
          grind
        rw [this, Nat.add_mul_mod_self_left]
        exact Nat.mod_eq_of_lt (by omega)
      rw [Nat.pow_mul, Nat.pow_mod, Nat.pow_two, e1, Nat.one_pow]
      exact Nat.mod_eq_of_lt (by omega)
    have h4 : c ^ (2 ^ k * m) % r = c ^ 2 ^ k % r := by
      rw [Nat.pow_mul]
      obtain ⟨q, rfl⟩ : ∃ q, m = 2 * q + 1 := ⟨m / 2, by omega⟩
      rw [Nat.pow_succ, Nat.mul_mod, h3 q, Nat.one_mul, Nat.mod_mod]
    rw [h1] at h4
    rw [Nat.add_mod, <- h4] at hc
    have h5 : r ∣ 2 := by
      rcases Nat.lt_or_ge r 2 with h' | h'
      · omega
      · have : 1 % r = 1 := Nat.mod_eq_of_lt (by omega)
        rw [this] at hc
        exact Nat.dvd_of_mod_eq_zero hc
    have := Nat.le_of_dvd (by omega) h5
    omega
def pN : Nat := 26959946667150639794667015087019630673557916260026308143510066298881
theorem pN_chk : pwm pN 11 128 (2 ^ 128 - 1) % pN = pwm pN 11 128 (2 ^ 128 - 1) /\ (pwm pN (pwm pN 11 128 (2 ^ 128 - 1)) 96 (2 ^ 95) + 1) = pN := by decide +kernel
theorem pwm_ex {b e : Nat} (he : e < 2 ^ 96) (h : pwm pN b 96 e + 1 = pN) : b ^ e % pN + 1 = pN := by
  rw [<- pwm_spec _ _ 96 _ he]; exact h
theorem pr_key {k c : Nat} (hc : c ^ 2 ^ k % pN + 1 = pN) : ∀ r, Pr r -> r ∣ pN -> 2 ^ (k + 1) ∣ r - 1 := fun r hr hrp => by
  refine two_pow_dvd (k := k) (c := c) hr (fun e => ?_) ?_
  · rw [e] at hrp; exact absurd hrp (by decide)
  · have : pN ∣ c ^ 2 ^ k + 1 := by
      refine Nat.dvd_of_mod_eq_zero ?_
      rw [Nat.add_mod]
      have h1 : 1 % pN = 1 := by decide
      rw [h1, hc, Nat.mod_self]
    exact Nat.mod_eq_zero_of_dvd (Nat.dvd_trans hrp this)
theorem pr_key2 {k b : Nat} (he : 2 ^ k < 2 ^ 96) (h : pwm pN b 96 (2 ^ k) + 1 = pN) : ∀ r, Pr r -> r ∣ pN -> 2 ^ (k + 1) ∣ r - 1 := pr_key (pwm_ex he h)
theorem pN_prime : Pr pN := by
  refine ⟨by decide, fun d hd => ?_⟩
  have key : ∀ r, Pr r -> r ∣ pN -> 2 ^ 96 ∣ r - 1 := pr_key2 (k := 95) (by decide) pN_chk.2
  have all : ∀ n, 0 < n -> n ∣ pN -> 2 ^ 96 ∣ n - 1 := by
    intro n
    induction n using Nat.strongRecOn with
    | ind n ih =>
      intro h0 hn
      by_cases h1 : n = 1
      · rw [h1]; exact Nat.dvd_zero _
      · obtain ⟨r, hr, s, rfl⟩ := exists_pr n (by omega)
        have hr2 := hr.1
        have hs0 : 0 < s := Nat.pos_of_ne_zero fun e => by rw [e] at h0; simp at h0
        have hlt : s < r * s := by
          have := Nat.mul_le_mul_right s hr2
          omega
        obtain ⟨u, hu⟩ := ih s hlt hs0 (Nat.dvd_trans (Nat.dvd_mul_left s r) hn)
        obtain ⟨t, ht⟩ := key r hr (Nat.dvd_trans (Nat.dvd_mul_right r s) hn)
        have e1 : s = 1 + 2 ^ 96 * u := by omega
        have e2 : r = 1 + 2 ^ 96 * t := by omega
        refine ⟨t + u + 2 ^ 96 * t * u, ?_⟩
        rw [e1, e2]
        generalize 2 ^ 96 = z
        rw [Nat.sub_eq_of_eq_add]
        grind
  obtain ⟨s, hs⟩ := hd
  have hd0 : 0 < d := Nat.pos_of_ne_zero fun e => by rw [e] at hs; simp at hs; exact absurd hs (by decide)
  have hs0 : 0 < s := Nat.pos_of_ne_zero fun e => by rw [e] at hs; simp at hs; exact absurd hs (by decide)
  obtain ⟨t, ht⟩ := all d hd0 ⟨s, hs⟩
  obtain ⟨u, hu⟩ := all s hs0 ⟨d, by rw [Nat.mul_comm]; exact hs⟩
  have e1 : d = 1 + 2 ^ 96 * t := by omega
  have e2 : s = 1 + 2 ^ 96 * u := by omega
  have e3 : t + u + 2 ^ 96 * (t * u) = 2 ^ 128 - 1 := by
    have h1 : pN = 1 + 2 ^ 96 * (t + u + 2 ^ 96 * (t * u)) := by
      rw [hs, e1, e2]
      generalize 2 ^ 96 = z
      grind
    have h2 : pN = 1 + 2 ^ 96 * (2 ^ 128 - 1) := by decide
    have h3 : 2 ^ 96 * (t + u + 2 ^ 96 * (t * u)) = 2 ^ 96 * (2 ^ 128 - 1) := by omega
    exact Nat.eq_of_mul_eq_mul_left (by decide) h3
  by_cases h0 : t = 0
  · left; rw [e1, h0]
  by_cases h1 : u = 0
  · right; rw [hs, e2, h1]; simp
  exfalso
  have h3 : t + u <= t * u + 1 := by
    obtain ⟨t', rfl⟩ : ∃ t', t = t' + 1 := ⟨t - 1, by omega⟩
    obtain ⟨u', rfl⟩ : ∃ u', u = u' + 1 := ⟨u - 1, by omega⟩
    have : (t' + 1) * (u' + 1) = t' * u' + t' + u' + 1 := by grind
    have := Nat.zero_le (t' * u')
    omega
  omega
end Go.Vm
end
