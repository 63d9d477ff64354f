/- The proof of laws.FnP224Verify, text 16 of 36. Conditions: none. -/
import Derived.Test.YtmogojlijkddpaaGreatT14
noncomputable section

set_option maxRecDepth 100000
namespace Go.Vm
open Go.Proofs.YtmogojlijkddpaaGreat (Q12 of12)
def InvEP (l : List Int) : Prop := okE l -> okE (l.drop 4) /\ dv (l.drop 4) = finv (dv l)
def BxNoP (l : List Int) : Prop := okP l -> dv (l.drop 8) = 0
def BxP (l : List Int) : Prop := okP l -> dv (l.drop 8) ≠ 0 /\ (∀ x ∈ (l.drop 12).take 28, byteOK x) /\ bn ((l.drop 12).take 28) < p224 /\ φ (bn ((l.drop 12).take 28)) = dv l * finv (dv (l.drop 8))
def isPt (l : List Int) : Prop := nth l 0 = 4 /\ bn ((l.drop 1).take 28) < p224 /\ bn ((l.drop 29).take 28) < p224 /\ onN (some (φ (bn ((l.drop 1).take 28)), φ (bn ((l.drop 29).take 28))))
def SpP (l : List Int) : Prop := isPt l /\ okE (l.drop 57) /\ okE (l.drop 61) /\ dv (l.drop 57) = φ (bn ((l.drop 1).take 28)) /\ dv (l.drop 61) = φ (bn ((l.drop 29).take 28))
def SpNoP (l : List Int) : Prop := ¬ isPt l
structure FN (X : Tk) : Prop extends FL X where
  invE : ∀ l, X 79 l ↔ InvEP l
  bxNo : ∀ l, X 80 l ↔ BxNoP l
  bx : ∀ l, X 81 l ↔ BxP l
  sp : ∀ l, X 77 l ↔ SpP l
  spNo : ∀ l, X 78 l ↔ SpNoP l
def invT : List (Nat × Nat × Nat) := [(4, 4, 8), (4, 8, 12), (12, 12, 16), (4, 16, 20), (20, 20, 24), (24, 24, 28), (28, 28, 32), (20, 32, 36), (36, 36, 40), (40, 40, 44), (44, 44, 48), (48, 48, 52), (52, 52, 56), (56, 56, 60), (36, 60, 64), (64, 64, 68), (68, 68, 72), (12, 72, 76), (76, 76, 80), (80, 80, 84), (84, 84, 88), (20, 88, 92), (92, 92, 96), (96, 96, 100), (100, 100, 104), (104, 104, 108), (108, 108, 112), (112, 112, 116), (116, 116, 120), (120, 120, 124), (124, 124, 128), (128, 128, 132), (132, 132, 136), (136, 136, 140), (140, 140, 144), (144, 144, 148), (76, 148, 152), (152, 152, 156), (156, 156, 160), (160, 160, 164), (164, 164, 168), (168, 168, 172), (172, 172, 176), (176, 176, 180), (180, 180, 184), (184, 184, 188), (188, 188, 192), (192, 192, 196), (196, 196, 200), (200, 200, 204), (204, 204, 208), (208, 208, 212), (212, 212, 216), (216, 216, 220), (92, 220, 224), (224, 224, 228), (228, 228, 232), (232, 232, 236), (236, 236, 240), (240, 240, 244), (244, 244, 248), (248, 248, 252), (252, 252, 256), (256, 256, 260), (260, 260, 264), (264, 264, 268), (268, 268, 272), (272, 272, 276), (276, 276, 280), (280, 280, 284), (284, 284, 288), (288, 288, 292), (292, 292, 296), (296, 296, 300), (300, 300, 304), (304, 304, 308), (308, 308, 312), (312, 312, 316), (316, 316, 320), (320, 320, 324), (324, 324, 328), (328, 328, 332), (332, 332, 336), (336, 336, 340), (340, 340, 344), (344, 344, 348), (348, 348, 352), (352, 352, 356), (356, 356, 360), (360, 360, 364), (364, 364, 368), (368, 368, 372), (372, 372, 376), (376, 376, 380), (380, 380, 384), (384, 384, 388), (388, 388, 392), (392, 392, 396), (396, 396, 400), (400, 400, 404), (404, 404, 408), (408, 408, 412), (412, 412, 416), (224, 416, 420), (420, 420, 424), (424, 424, 428), (428, 428, 432), (432, 432, 436), (436, 436, 440), (440, 440, 444), (444, 444, 448), (448, 448, 452), (452, 452, 456), (456, 456, 460), (460, 460, 464), (464, 464, 468), (468, 468, 472), (472, 472, 476), (476, 476, 480), (480, 480, 484), (484, 484, 488), (488, 488, 492), (492, 492, 496), (496, 496, 500), (500, 500, 504), (504, 504, 508), (508, 508, 512), (512, 512, 516), (516, 516, 520), (520, 520, 524), (524, 524, 528), (528, 528, 532), (532, 532, 536), (536, 536, 540), (540, 540, 544), (152, 544, 548), (548, 548, 552), (552, 552, 556), (556, 556, 560), (560, 560, 564), (564, 564, 568), (568, 568, 572), (572, 572, 576), (576, 576, 580), (580, 580, 584), (584, 584, 588), (588, 588, 592), (592, 592, 596), (596, 596, 600), (600, 600, 604), (604, 604, 608), (608, 608, 612), (612, 612, 616), (616, 616, 620), (620, 620, 624), (624, 624, 628), (628, 628, 632), (632, 632, 636), (636, 636, 640), (640, 640, 644), (644, 644, 648), (648, 648, 652), (652, 652, 656), (656, 656, 660), (660, 660, 664), (664, 664, 668), (668, 668, 672), (672, 672, 676), (676, 676, 680), (680, 680, 684), (684, 684, 688), (688, 688, 692), (692, 692, 696), (696, 696, 700), (700, 700, 704), (704, 704, 708), (708, 708, 712), (712, 712, 716), (716, 716, 720), (720, 720, 724), (724, 724, 728), (728, 728, 732), (732, 732, 736), (736, 736, 740), (740, 740, 744), (744, 744, 748), (748, 748, 752), (752, 752, 756), (756, 756, 760), (760, 760, 764), (764, 764, 768), (768, 768, 772), (772, 772, 776), (776, 776, 780), (780, 780, 784), (784, 784, 788), (788, 788, 792), (792, 792, 796), (796, 796, 800), (800, 800, 804), (804, 804, 808), (808, 808, 812), (812, 812, 816), (816, 816, 820), (820, 820, 824), (824, 824, 828), (828, 828, 832), (832, 832, 836), (836, 836, 840), (840, 840, 844), (844, 844, 848), (848, 848, 852), (852, 852, 856), (856, 856, 860), (860, 860, 864), (864, 864, 868), (868, 868, 872), (872, 872, 876), (876, 876, 880), (880, 880, 884), (884, 884, 888), (888, 888, 892), (892, 892, 896), (896, 896, 900), (900, 900, 904), (904, 904, 908), (908, 908, 912), (912, 912, 916), (916, 916, 920), (920, 920, 924), (924, 924, 928), (928, 928, 932), (932, 932, 936), (420, 936, 940)]
def invC (t : Nat × Nat × Nat) : Con := .ext 1 (vars t.1 4 ++ vars t.2.1 4 ++ vars t.2.2 4)
def invLk : Look := ⟨vars 940 4, [], invT.map invC, []⟩
def expGet (l : List (Nat × Nat)) (i : Nat) : Option Nat :=
  match l with
  | [] => none
  | x :: l => if x.1 == i then some x.2 else expGet l i
def expRun : List (Nat × Nat × Nat) -> List (Nat × Nat) -> Option (List (Nat × Nat))
  | [], st => some st
  | t :: ts, st => match expGet st t.1, expGet st t.2.1 with
    | some a, some b => expRun ts ((t.2.2, a + b) :: st)
    | _, _ => none
def invOK : Bool := match expRun invT [(4, 1)] with | some st => (match expGet st 940 with | some e => e == pN - 2 | none => false) | none => false
theorem invOK_ok : invOK = true := by kernel_rfl
section
variable {p : Nat} [NeZero p]
theorem fp2 (x : Fin p) : (OF p).pw x 1 = x := by
  show x * 1 = x
  grind
end
theorem fp1 (x : F) : (OF pN).pw x 1 = x := fp2 x
section
variable {X : Tk} {L : Look} {ρ : Nat -> Int}
def ExpI (ρ : Nat -> Int) (x : F) (st : List (Nat × Nat)) : Prop := ∀ i e, expGet st i = some e -> okE (Q4 ρ i) /\ dv (Q4 ρ i) = (OF pN).pw x e
theorem expRun_spec (h : FI X) (x : F) : ∀ (ts : List (Nat × Nat × Nat)) (st st' : List (Nat × Nat)), (∀ t ∈ ts, (invC t).holds X ρ) -> expRun ts st = some st' -> ExpI ρ x st -> ExpI ρ x st'
  | [], st, st', _, hr, hi => by
    simp only [expRun, Option.some.injEq] at hr
    subst hr; exact hi
  | t :: ts, st, st', ht, hr, hi => by
    simp only [expRun] at hr
    split at hr
    · rename_i a b ha hb
      refine expRun_spec h x ts _ st' (fun u hu => ht u (by simp [hu])) hr ?_
      intro i e he
      unfold expGet at he
      split at he
      · rename_i hii
        have hii := beq_iff_eq.1 hii
        simp only [Option.some.injEq] at he
        subst hii; subst he
        obtain ⟨a1, a2⟩ := hi _ _ ha
        obtain ⟨b1, b2⟩ := hi _ _ hb
        have tk : X 1 (Q4 ρ t.1 ++ Q4 ρ t.2.1 ++ Q4 ρ t.2.2) := tok (ht t (by simp)) (by rw [List.map_append, List.map_append, vars4_eval, vars4_eval, vars4_eval])
        obtain ⟨r1, r2⟩ := mulT h rfl rfl rfl a1 b1 tk
        exact ⟨r1, by rw [r2, a2, b2, pwF_add]⟩
      · exact hi i e he
    · cases hr
theorem inv_end (h : FN X) : EndP X invE 0 invLk := by
  refine endP_of _ 79 _ rfl rfl (fun ρ => Q4 ρ 4 ++ Q4 ρ 940) (fun ρ => by kernel_rfl) fun ρ hs => (h.invE _).2 ?_
  refine Eq.mp (by kernel_rfl : (okE (Q4 ρ 4) -> okE (Q4 ρ 940) /\ dv (Q4 ρ 940) = finv (dv (Q4 ρ 4))) = _) ?_
  intro oa
  have hk := invOK_ok
  unfold invOK at hk
  split at hk
  · rename_i st hst
    have hI := expRun_spec (ρ := ρ) h.toFI (dv (Q4 ρ 4)) invT [(4, 1)] st (fun t ht => hs.ks (invC t) (List.mem_map.2 ⟨t, ht, rfl⟩)) hst (fun i e he => by
      unfold expGet at he
      split at he
      · rename_i hii
        have hii := beq_iff_eq.1 hii
        simp only [Option.some.injEq] at he
        subst he
        simp only at hii
        subst hii
        exact ⟨oa, (fp1 _).symm⟩
      · cases he)
    split at hk
    · rename_i e he
      have := beq_iff_eq.1 hk
      subst this
      exact hI _ _ he
    · cases hk
  · cases hk
end
def bxLk1 : Look := ⟨[], [], [.ext 67 (vars 8 5), .test (.cmp .eql (.var 12) (.const 1)) true], []⟩
def bxLk0 : Look := ⟨vars 21 28, [], [.ext 67 (vars 8 5), .test (.cmp .eql (.var 12) (.const 1)) false, .ext 79 (vars 8 4 ++ vars 13 4), .ext 1 (vars 0 4 ++ vars 13 8), .ext 61 (vars 17 32)], []⟩
section
variable {X : Tk}
theorem isZT (h : FJ X) {w : List Int} {r : Int} (hw : w.length = 4) (ow : okE w) (t : X 67 (w ++ [r])) : (r = 0 \/ r = 1) /\ (r = 1 ↔ dv w = 0) := by
  obtain ⟨ρ, rfl⟩ := of4 hw
  have t' : okE (Q4 ρ 0) -> (r = 0 \/ r = 1) /\ (r = 1 ↔ dv (Q4 ρ 0) = 0) := Eq.mp (by kernel_rfl) ((h.isZ _).1 t)
  exact t' ow
theorem eqET (h : FJ X) {a b : List Int} {r : Int} (ha : a.length = 4) (hb : b.length = 4) (oa : okE a) (ob : okE b) (t : X 68 (a ++ b ++ [r])) : (r = 0 \/ r = 1) /\ (r = 1 ↔ dv a = dv b) := by
  obtain ⟨ρ, rfl⟩ := of4 ha
  obtain ⟨σ, rfl⟩ := of4 hb
  have t' : okE (Q4 ρ 0) -> okE (Q4 σ 0) -> (r = 0 \/ r = 1) /\ (r = 1 ↔ dv (Q4 ρ 0) = dv (Q4 σ 0)) := Eq.mp (by kernel_rfl) ((h.eqE _).1 t)
  exact t' oa ob
theorem invET (h : FN X) {a r : List Int} (ha : a.length = 4) (hr : r.length = 4) (oa : okE a) (t : X 79 (a ++ r)) : okE r /\ dv r = finv (dv a) := by
  obtain ⟨ρ, rfl⟩ := of4 ha
  obtain ⟨σ, rfl⟩ := of4 hr
  have t' : okE (Q4 ρ 0) -> okE (Q4 σ 0) /\ dv (Q4 σ 0) = finv (dv (Q4 ρ 0)) := Eq.mp (by kernel_rfl) ((h.invE _).1 t)
  exact t' oa
theorem setBT (h : FJ X) {a w : List Int} (ha : a.length = 28) (hw : w.length = 4) (t : X 65 (a ++ w)) : bn a < p224 /\ okE w /\ dv w = φ (bn a) := by
  obtain ⟨ρ, rfl⟩ := of28' ha
  obtain ⟨σ, rfl⟩ := of4 hw
  exact Eq.mp (by kernel_rfl) ((h.setB _).1 t)
theorem setNoT (h : FJ X) {a : List Int} (ha : a.length = 28) (t : X 69 a) : ¬ bn a < p224 := by
  obtain ⟨ρ, rfl⟩ := of28' ha
  exact Eq.mp (by kernel_rfl) ((h.setNo _).1 t)
theorem test1 {L : Look} {ρ : Nat -> Int} (hs : Seen X L ρ) (i : Nat) {d : Nat} {n : Int} {b : Bool} (h : L.ks[i]? = some (.test (.cmp .eql (.var d) (.const n)) b)) : (ρ d = n) ↔ b = true := by
  have := testAt hs i h
  rw [<- this]
  simp [BE.eval, intCmp, IE.eval]
theorem bx_end1 (h : FN X) : EndP X bxS 1 bxLk1 := by
  refine endP_of _ 80 _ rfl rfl (fun ρ => Q12 ρ 0) (fun ρ => by kernel_rfl) fun ρ hs => (h.bxNo _).2 ?_
  refine Eq.mp (by kernel_rfl : ((okE (Q4 ρ 0) /\ okE (Q4 ρ 4) /\ okE (Q4 ρ 8)) -> dv (Q4 ρ 8) = 0) = _) ?_
  rintro ⟨k0, k4, k8⟩
  have t := isZT h.toFJ (w := Q4 ρ 8) (r := ρ 12) rfl k8 (tokAt hs 0 (by kernel_rfl))
  exact t.2.1 ((test1 hs 1 (d := 12) (n := 1) (b := true) rfl).2 rfl)
theorem bx_end0 (h : FN X) : EndP X bxS 0 bxLk0 := by
  refine endP_of _ 81 _ rfl rfl (fun ρ => Q12 ρ 0 ++ B28 ρ 21) (fun ρ => by kernel_rfl) fun ρ hs => (h.bx _).2 ?_
  refine Eq.mp (by kernel_rfl : ((okE (Q4 ρ 0) /\ okE (Q4 ρ 4) /\ okE (Q4 ρ 8)) -> dv (Q4 ρ 8) ≠ 0 /\ (∀ x ∈ B28 ρ 21, byteOK x) /\ bn (B28 ρ 21) < p224 /\ φ (bn (B28 ρ 21)) = dv (Q4 ρ 0) * finv (dv (Q4 ρ 8))) = _) ?_
  rintro ⟨k0, k4, k8⟩
  have t := isZT h.toFJ (w := Q4 ρ 8) (r := ρ 12) rfl k8 (tokAt hs 0 (by kernel_rfl))
  have hne : ¬ ρ 12 = 1 := fun q => by
    have := (test1 hs 1 (d := 12) (n := 1) (b := false) rfl).1 q
    cases this
  obtain ⟨k13, e13⟩ := invET h (a := Q4 ρ 8) (r := Q4 ρ 13) rfl rfl k8 (tokAt hs 2 (by kernel_rfl))
  obtain ⟨k17, e17⟩ := mulT h.toFI (a := Q4 ρ 0) (b := Q4 ρ 13) (r := Q4 ρ 17) rfl rfl rfl k0 k13 (tokAt hs 3 (by kernel_rfl))
  obtain ⟨b1, b2, b3⟩ := eBytT h.toFJ (w := Q4 ρ 17) (bs := B28 ρ 21) rfl B28_len k17 (tokAt hs 4 (by kernel_rfl))
  exact ⟨fun q => hne (t.2.2 q), b1, b3, by rw [b2, e17, e13]⟩
def spK : List Con := [.test (.cmp .eql (.var 12) (.const 4)) true, .ext 65 (vars 13 28 ++ vars 69 4), .ext 65 (vars 41 28 ++ vars 73 4), .ext 1 (vars 69 4 ++ vars 69 4 ++ vars 77 4), .ext 1 (vars 77 4 ++ vars 69 4 ++ vars 81 4), .ext 3 (vars 69 4 ++ vars 69 4 ++ vars 85 4),
  .ext 3 (vars 85 4 ++ vars 69 4 ++ vars 89 4), .ext 2 (vars 81 4 ++ vars 89 8), .ext 3 (vars 93 4 ++ [.const 16674804078458460621, .const 1187475804136674064, .const 4453702246874644817, .const 2143301523] ++ vars 97 4), .ext 1 (vars 73 4 ++ vars 73 4 ++ vars 101 4), .ext 68 (vars 97 9)]
def spLk2 : Look := ⟨[], [], spK ++ [.test (.cmp .neq (.var 105) (.const 1)) true], []⟩
def spLk0 : Look := ⟨vars 69 8, [], spK ++ [.test (.cmp .neq (.var 105) (.const 1)) false], []⟩
def spLk1a : Look := ⟨[], [], [.test (.cmp .eql (.var 12) (.const 4)) true, .ext 65 (vars 13 28 ++ vars 69 4), .ext 69 (vars 41 28)], []⟩
def spLk1b : Look := ⟨[], [], [.test (.cmp .eql (.var 12) (.const 4)) true, .ext 69 (vars 13 28)], []⟩
def spLk3 : Look := ⟨[], [], [.test (.cmp .eql (.var 12) (.const 4)) false], []⟩
def B57 (ρ : Nat -> Int) (i : Nat) : List Int := (List.range 57).map fun j => ρ (i + j)
theorem isPt_eq (ρ : Nat -> Int) (i : Nat) : isPt (B57 ρ i) = (ρ i = 4 /\ bn (B28 ρ (i + 1)) < p224 /\ bn (B28 ρ (i + 29)) < p224 /\ onN (some (φ (bn (B28 ρ (i + 1))), φ (bn (B28 ρ (i + 29)))))) := by
  have e1 : ((B57 ρ i).drop 1).take 28 = B28 ρ (i + 1) := by
    apply List.ext_getElem?
    intro k
    rw [List.getElem?_take]
    split
    · rename_i hk
      rw [List.getElem?_drop, B28_get _ _ _ hk]
      unfold B57
      rw [List.getElem?_map, List.getElem?_range (by omega)]
      simp only [Option.map_some]
      rw [Nat.add_assoc]
    · rw [List.getElem?_eq_none (by rw [B28_len]; omega)]
  have e2 : ((B57 ρ i).drop 29).take 28 = B28 ρ (i + 29) := by
    apply List.ext_getElem?
    intro k
    rw [List.getElem?_take]
    split
    · rename_i hk
      rw [List.getElem?_drop, B28_get _ _ _ hk]
      unfold B57
      rw [List.getElem?_map, List.getElem?_range (by omega)]
      simp only [Option.map_some]
      rw [Nat.add_assoc]
    · rw [List.getElem?_eq_none (by rw [B28_len]; omega)]
  have e0 : nth (B57 ρ i) 0 = ρ i := rfl
  unfold isPt
  rw [e0, e1, e2]
theorem sp_core (h : FN X) {L : Look} {ρ : Nat -> Int} (hs : Seen X L ρ) (hk : ∀ (i : Nat), i < 11 -> L.ks[i]? = spK[i]?) :
    ρ 12 = 4 /\ bn (B28 ρ 13) < p224 /\ bn (B28 ρ 41) < p224 /\ okE (Q4 ρ 69) /\ okE (Q4 ρ 73) /\ dv (Q4 ρ 69) = φ (bn (B28 ρ 13)) /\ dv (Q4 ρ 73) = φ (bn (B28 ρ 41)) /\ (ρ 105 = 1 ↔ onN (some (φ (bn (B28 ρ 13)), φ (bn (B28 ρ 41))))) := by
  have hJ := h.toFJ
  have hI := hJ.toFI
  have t0 := (test1 hs 0 (d := 12) (n := 4) (b := true) (hk 0 (by decide))).2 rfl
  obtain ⟨a1, a2, a3⟩ := setBT hJ (a := B28 ρ 13) (w := Q4 ρ 69) B28_len rfl (tokAt hs 1 (by rw [hk 1 (by decide)]; kernel_rfl))
  obtain ⟨b1, b2, b3⟩ := setBT hJ (a := B28 ρ 41) (w := Q4 ρ 73) B28_len rfl (tokAt hs 2 (by rw [hk 2 (by decide)]; kernel_rfl))
  obtain ⟨k77, e3⟩ := mulT hI (a := Q4 ρ 69) (b := Q4 ρ 69) (r := Q4 ρ 77) rfl rfl rfl a2 a2 (tokAt hs 3 (by rw [hk 3 (by decide)]; kernel_rfl))
  obtain ⟨k81, e4⟩ := mulT hI (a := Q4 ρ 77) (b := Q4 ρ 69) (r := Q4 ρ 81) rfl rfl rfl k77 a2 (tokAt hs 4 (by rw [hk 4 (by decide)]; kernel_rfl))
  obtain ⟨k85, e5⟩ := addT hI (a := Q4 ρ 69) (b := Q4 ρ 69) (r := Q4 ρ 85) rfl rfl rfl a2 a2 (tokAt hs 5 (by rw [hk 5 (by decide)]; kernel_rfl))
  obtain ⟨k89, e6⟩ := addT hI (a := Q4 ρ 85) (b := Q4 ρ 69) (r := Q4 ρ 89) rfl rfl rfl k85 a2 (tokAt hs 6 (by rw [hk 6 (by decide)]; kernel_rfl))
  obtain ⟨k93, e7⟩ := subT hI (a := Q4 ρ 81) (b := Q4 ρ 89) (r := Q4 ρ 93) rfl rfl rfl k81 k89 (tokAt hs 7 (by rw [hk 7 (by decide)]; kernel_rfl))
  obtain ⟨k97, e8⟩ := addT hI (a := Q4 ρ 93) (b := bL) (r := Q4 ρ 97) rfl rfl rfl k93 bL_ok (tokAt hs 8 (by rw [hk 8 (by decide)]; kernel_rfl))
  obtain ⟨k101, e9⟩ := mulT hI (a := Q4 ρ 73) (b := Q4 ρ 73) (r := Q4 ρ 101) rfl rfl rfl b2 b2 (tokAt hs 9 (by rw [hk 9 (by decide)]; kernel_rfl))
  obtain ⟨c1, c2⟩ := eqET hJ (a := Q4 ρ 97) (b := Q4 ρ 101) (r := ρ 105) rfl rfl k97 k101 (tokAt hs 10 (by rw [hk 10 (by decide)]; kernel_rfl))
  refine ⟨t0, a1, b1, a2, b2, a3, b3, c2.trans ?_⟩
  rw [e8, e7, e6, e5, e4, e3, e9, a3, b3, dv_bL]
  show _ ↔ φ (bn (B28 ρ 41)) * φ (bn (B28 ρ 41)) = cu βB (φ (bn (B28 ρ 13)))
  unfold cu
  exact ⟨fun q => q.symm, fun q => q.symm⟩
theorem spK_get {l : List Con} : ∀ (i : Nat), i < 11 -> (spK ++ l)[i]? = spK[i]? := fun _ hi => List.getElem?_append_left hi
theorem sp_end0 (h : FN X) : EndP X spS 0 spLk0 := by
  refine endP_of _ 77 _ rfl rfl (fun ρ => B57 ρ 12 ++ Q4 ρ 69 ++ Q4 ρ 73) (fun ρ => by kernel_rfl) fun ρ hs => (h.sp _).2 ?_
  refine Eq.mp (by kernel_rfl : (isPt (B57 ρ 12) /\ okE (Q4 ρ 69) /\ okE (Q4 ρ 73) /\ dv (Q4 ρ 69) = φ (bn (B28 ρ 13)) /\ dv (Q4 ρ 73) = φ (bn (B28 ρ 41))) = _) ?_
  obtain ⟨t0, a1, b1, a2, b2, a3, b3, c⟩ := sp_core h hs spK_get
  have ht : (BE.cmp .neq (.var 105) (.const 1)).eval ρ = false := testAt hs 11 rfl
  have ht' : ρ 105 = 1 := by simpa [BE.eval, intCmp, IE.eval] using ht
  rw [isPt_eq]
  exact ⟨⟨t0, a1, b1, c.1 ht'⟩, a2, b2, a3, b3⟩
theorem sp_no (h : FN X) {k : Nat} {L : Look} {t : String} (ho : spS.outs[k]? = some (spErr t)) (hp : ∀ ρ, Seen X L ρ -> ¬ isPt (B57 ρ 12)) (hn : L.nums = []) : EndP X spS k L := by
  obtain ⟨nums, bds, ks, ps⟩ := L
  simp only at hn
  subst hn
  refine endP_of (spErr t) 78 _ ho rfl (fun ρ => B57 ρ 12) (fun ρ => by kernel_rfl) fun ρ hs => (h.spNo _).2 ?_
  exact hp ρ hs
theorem sp_end2 (h : FN X) : EndP X spS 2 spLk2 := sp_no h (t := "P224 point not on curve") rfl (fun ρ hs => by
  obtain ⟨t0, a1, b1, a2, b2, a3, b3, c⟩ := sp_core h hs spK_get
  have ht : (BE.cmp .neq (.var 105) (.const 1)).eval ρ = true := testAt hs 11 rfl
  have ht' : ¬ ρ 105 = 1 := by simpa [BE.eval, intCmp, IE.eval] using ht
  rw [isPt_eq]
  exact fun q => ht' (c.2 q.2.2.2)) rfl
theorem sp_end1a (h : FN X) : EndP X spS 1 spLk1a := sp_no h (t := "invalid P224Element encoding") rfl (fun ρ hs => by
  have := setNoT h.toFJ (a := B28 ρ 41) B28_len (tokAt hs 2 (by kernel_rfl))
  rw [isPt_eq]
  exact fun q => this q.2.2.1) rfl
theorem sp_end1b (h : FN X) : EndP X spS 1 spLk1b := sp_no h (t := "invalid P224Element encoding") rfl (fun ρ hs => by
  have := setNoT h.toFJ (a := B28 ρ 13) B28_len (tokAt hs 1 (by kernel_rfl))
  rw [isPt_eq]
  exact fun q => this q.2.1) rfl
theorem sp_end3 (h : FN X) : EndP X spS 3 spLk3 := sp_no h (t := "invalid P224 point encoding") rfl (fun ρ hs => by
  have := (test1 hs 0 (d := 12) (n := 4) (b := false) rfl).1
  rw [isPt_eq]
  exact fun q => absurd (this q.1) (by decide)) rfl
end
end Go.Vm
namespace Go.Proofs.YtmogojlijkddpaaGreat
open Go.Vm
variable {X : Tk}
theorem inv_chk' : chkFn (execCall ED 3000 155 invE.args invE.start) invE [(0, invLk)] = true := by kernel_rfl
theorem invE_ok (h : FN X) : SpecOK Tryz.prog X 155 invE.spec := fn_sum (ED_ok h.toFJ) inv_chk' (one_ds (inv_end h))
def specG' (f : FuncId) : Option (Fs) := match f with | 133 => some smS.spec | 155 => some invE.spec | f => specF' f
theorem specG'_ok (h : FN X) : ∀ f sp, specG' f = some sp -> FnOK Tryz.prog f /\ SpecOK Tryz.prog X f sp := fun f sp hs => by
  unfold specG' at hs
  split at hs
  · simp only [Option.some.injEq] at hs; subst hs; exact ⟨fn_ok Tryz.func133 (by kernel_rfl) (by kernel_rfl), sm_ok h.toFL⟩
  · simp only [Option.some.injEq] at hs; subst hs; exact ⟨fn_ok Tryz.func155 (by kernel_rfl) (by kernel_rfl), invE_ok h⟩
  · exact specF'_ok h.toFK f sp hs
def EG' : Env := mkEnv Tryz.prog tyTree fnTree ext0 specG'
theorem EG'_ok (h : FN X) : EnvOK Tryz.prog X EG' := mkEnv_ok mixed_ok tys_ok fns_ok names_ok ext0_ok (specG'_ok h)
theorem bx_chk : chkFn (execCall EG' 3000 131 bxS.args bxS.start) bxS [(1, bxLk1), (0, bxLk0)] = true := by kernel_rfl
theorem bx_ok (h : FN X) : SpecOK Tryz.prog X 131 bxS.spec := fn_sum (EG'_ok h) bx_chk fun d hd => by
  simp only [List.mem_cons, List.not_mem_nil, or_false] at hd
  rcases hd with rfl | rfl
  · exact bx_end1 h
  · exact bx_end0 h
theorem sp_chk : chkFn (execCall EG' 3000 134 spS.args spS.start) spS [(2, spLk2), (0, spLk0), (1, spLk1a), (1, spLk1b), (3, spLk3)] = true := by kernel_rfl
theorem sp_ok (h : FN X) : SpecOK Tryz.prog X 134 spS.spec := fn_sum (EG'_ok h) sp_chk fun d hd => by
  simp only [List.mem_cons, List.not_mem_nil, or_false] at hd
  rcases hd with rfl | rfl | rfl | rfl | rfl
  · exact sp_end2 h
  · exact sp_end0 h
  · exact sp_end1a h
  · exact sp_end1b h
  · exact sp_end3 h
def specI' (f : FuncId) : Option (Fs) := match f with | 131 => some bxS.spec | 134 => some spS.spec | f => specG' f
theorem specI'_ok (h : FN X) : ∀ f sp, specI' f = some sp -> FnOK Tryz.prog f /\ SpecOK Tryz.prog X f sp := fun f sp hs => by
  unfold specI' at hs
  split at hs
  · simp only [Option.some.injEq] at hs; subst hs; exact ⟨fn_ok Tryz.func131 (by kernel_rfl) (by kernel_rfl), bx_ok h⟩
  · simp only [Option.some.injEq] at hs; subst hs; exact ⟨fn_ok Tryz.func134 (by kernel_rfl) (by kernel_rfl), sp_ok h⟩
  · exact specG'_ok h f sp hs
end Go.Proofs.YtmogojlijkddpaaGreat
end
