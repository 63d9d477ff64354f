/- The proof of laws.FnP224Verify, text 15 of 36. Conditions: none. -/
import Derived.Test.YtmogojlijkddpaaGreatT13
noncomputable section

set_option maxRecDepth 100000
namespace Go.Vm
def CtEqP (l : List Int) : Prop := (nth l 2 = 0 \/ nth l 2 = 1) /\ (nth l 2 = 1 ↔ nth l 0 = nth l 1)
def SelPtP' (l : List Int) : Prop := (l.drop 25).take 12 = if nth l 0 = 1 then (l.drop 1).take 12 else (l.drop 13).take 12
def farL : List Int := [0, 0, 0, 0, 18446744069414584320, 18446744073709551615, 0, 0, 0, 0, 0, 0]
def tabAt (T : List Int) (n : Nat) : List Int := if n = 0 then farL else (T.drop (12 * (n - 1))).take 12
def TSelP (l : List Int) : Prop := (l.drop 181).take 12 = tabAt ((l.drop 1).take 180) (nth l 0).toNat
structure FK (X : Tk) : Prop extends FJ X where
  addPt : ∀ l, X 70 l ↔ AddPtP l
  dblPt : ∀ l, X 71 l ↔ DblPtP l
  selPt : ∀ l, X 72 l ↔ SelPtP' l
  ctEq : ∀ l, X 73 l ↔ CtEqP l
  tsel : ∀ l, X 74 l ↔ TSelP l
def bL : List Int := [16674804078458460621, 1187475804136674064, 4453702246874644817, 2143301523]
theorem bL_ok : okE bL := ⟨by decide, by decide⟩
section
variable {p : Nat} [NeZero p]
theorem fb1 (w B R i : Fin p) (h : R * i = 1) (e : w = B * R) : w * i = B := by grobner
end
theorem dv_bL : dv bL = βB := by
  refine fb1 _ _ _ _ RRi ?_
  show φ (wv4 bL) = φ bB * φ R256
  rw [<- φ_mul]
  exact zc_eq (by rw [<- p224_eq]; decide)
end Go.Vm
namespace Go.Proofs.YtmogojlijkddpaaGreat
open Go.Vm
variable {X : Tk}
def addPLk : Look := ⟨vars 192 4 ++ vars 184 4 ++ vars 204 4, [], [.ext 1 (vars 12 4 ++ vars 24 4 ++ vars 36 4),
    .ext 1 (vars 16 4 ++ vars 28 4 ++ vars 40 4),
    .ext 1 (vars 20 4 ++ vars 32 4 ++ vars 44 4),
    .ext 3 (vars 12 8 ++ vars 48 4),
    .ext 3 (vars 24 8 ++ vars 52 4),
    .ext 1 (vars 48 12),
    .ext 3 (vars 36 8 ++ vars 60 4),
    .ext 2 (vars 56 12),
    .ext 3 (vars 16 8 ++ vars 68 4),
    .ext 3 (vars 28 8 ++ vars 72 4),
    .ext 1 (vars 68 12),
    .ext 3 (vars 40 8 ++ vars 80 4),
    .ext 2 (vars 76 12),
    .ext 3 (vars 12 4 ++ vars 20 4 ++ vars 88 4),
    .ext 3 (vars 24 4 ++ vars 32 4 ++ vars 92 4),
    .ext 1 (vars 88 12),
    .ext 3 (vars 36 4 ++ vars 44 4 ++ vars 100 4),
    .ext 2 (vars 96 12),
    .ext 1 ([.const 16674804078458460621, .const 1187475804136674064, .const 4453702246874644817, .const 2143301523] ++ vars 44 4 ++ vars 108 4),
    .ext 2 (vars 104 12),
    .ext 3 (vars 112 4 ++ vars 112 8),
    .ext 3 (vars 112 12),
    .ext 2 (vars 40 4 ++ vars 120 8),
    .ext 3 (vars 40 4 ++ vars 120 4 ++ vars 128 4),
    .ext 1 ([.const 16674804078458460621, .const 1187475804136674064, .const 4453702246874644817, .const 2143301523] ++ vars 104 4 ++ vars 132 4),
    .ext 3 (vars 44 4 ++ vars 44 4 ++ vars 136 4),
    .ext 3 (vars 136 4 ++ vars 44 4 ++ vars 140 4),
    .ext 2 (vars 132 4 ++ vars 140 8),
    .ext 2 (vars 144 4 ++ vars 36 4 ++ vars 148 4),
    .ext 3 (vars 148 4 ++ vars 148 8),
    .ext 3 (vars 152 4 ++ vars 148 4 ++ vars 156 4),
    .ext 3 (vars 36 4 ++ vars 36 4 ++ vars 160 4),
    .ext 3 (vars 160 4 ++ vars 36 4 ++ vars 164 4),
    .ext 2 (vars 164 4 ++ vars 140 4 ++ vars 168 4),
    .ext 1 (vars 84 4 ++ vars 156 4 ++ vars 172 4),
    .ext 1 (vars 168 4 ++ vars 156 4 ++ vars 176 4),
    .ext 1 (vars 128 4 ++ vars 124 4 ++ vars 180 4),
    .ext 3 (vars 180 4 ++ vars 176 4 ++ vars 184 4),
    .ext 1 (vars 64 4 ++ vars 128 4 ++ vars 188 4),
    .ext 2 (vars 188 4 ++ vars 172 4 ++ vars 192 4),
    .ext 1 (vars 84 4 ++ vars 124 4 ++ vars 196 4),
    .ext 1 (vars 64 4 ++ vars 168 4 ++ vars 200 4),
    .ext 3 (vars 196 12)], []⟩
theorem addP_chk : chkFn (execCall ED 3000 129 addPS.args addPS.start) addPS [(0, addPLk)] = true := by kernel_rfl
theorem addP_end (h : FK X) : EndP X addPS 0 addPLk := by
  refine endP_of _ 70 _ rfl rfl (fun ρ => (Q4 ρ 12) ++ (Q4 ρ 16) ++ (Q4 ρ 20) ++ (Q4 ρ 24) ++ (Q4 ρ 28) ++ (Q4 ρ 32) ++ (Q4 ρ 192) ++ (Q4 ρ 184) ++ (Q4 ρ 204)) (fun ρ => by kernel_rfl) fun ρ hs => (h.addPt _).2 ?_
  refine Eq.mp (by kernel_rfl : ((okE (Q4 ρ 12) /\ okE (Q4 ρ 16) /\ okE (Q4 ρ 20)) -> (okE (Q4 ρ 24) /\ okE (Q4 ρ 28) /\ okE (Q4 ρ 32)) -> (okE (Q4 ρ 192) /\ okE (Q4 ρ 184) /\ okE (Q4 ρ 204)) /\ (dv (Q4 ρ 192), dv (Q4 ρ 184), dv (Q4 ρ 204)) = adI (dv (Q4 ρ 12), dv (Q4 ρ 16), dv (Q4 ρ 20)) (dv (Q4 ρ 24), dv (Q4 ρ 28), dv (Q4 ρ 32))) = _) ?_
  rintro ⟨k12, k16, k20⟩ ⟨k24, k28, k32⟩
  have h' := h.toFJ.toFI
  obtain ⟨k36, e0⟩ := mulT h' (a := (Q4 ρ 12)) (b := (Q4 ρ 24)) (r := (Q4 ρ 36)) rfl rfl rfl k12 k24 (tokAt hs 0 (by kernel_rfl))
  obtain ⟨k40, e1⟩ := mulT h' (a := (Q4 ρ 16)) (b := (Q4 ρ 28)) (r := (Q4 ρ 40)) rfl rfl rfl k16 k28 (tokAt hs 1 (by kernel_rfl))
  obtain ⟨k44, e2⟩ := mulT h' (a := (Q4 ρ 20)) (b := (Q4 ρ 32)) (r := (Q4 ρ 44)) rfl rfl rfl k20 k32 (tokAt hs 2 (by kernel_rfl))
  obtain ⟨k48, e3⟩ := addT h' (a := (Q4 ρ 12)) (b := (Q4 ρ 16)) (r := (Q4 ρ 48)) rfl rfl rfl k12 k16 (tokAt hs 3 (by kernel_rfl))
  obtain ⟨k52, e4⟩ := addT h' (a := (Q4 ρ 24)) (b := (Q4 ρ 28)) (r := (Q4 ρ 52)) rfl rfl rfl k24 k28 (tokAt hs 4 (by kernel_rfl))
  obtain ⟨k56, e5⟩ := mulT h' (a := (Q4 ρ 48)) (b := (Q4 ρ 52)) (r := (Q4 ρ 56)) rfl rfl rfl k48 k52 (tokAt hs 5 (by kernel_rfl))
  obtain ⟨k60, e6⟩ := addT h' (a := (Q4 ρ 36)) (b := (Q4 ρ 40)) (r := (Q4 ρ 60)) rfl rfl rfl k36 k40 (tokAt hs 6 (by kernel_rfl))
  obtain ⟨k64, e7⟩ := subT h' (a := (Q4 ρ 56)) (b := (Q4 ρ 60)) (r := (Q4 ρ 64)) rfl rfl rfl k56 k60 (tokAt hs 7 (by kernel_rfl))
  obtain ⟨k68, e8⟩ := addT h' (a := (Q4 ρ 16)) (b := (Q4 ρ 20)) (r := (Q4 ρ 68)) rfl rfl rfl k16 k20 (tokAt hs 8 (by kernel_rfl))
  obtain ⟨k72, e9⟩ := addT h' (a := (Q4 ρ 28)) (b := (Q4 ρ 32)) (r := (Q4 ρ 72)) rfl rfl rfl k28 k32 (tokAt hs 9 (by kernel_rfl))
  obtain ⟨k76, e10⟩ := mulT h' (a := (Q4 ρ 68)) (b := (Q4 ρ 72)) (r := (Q4 ρ 76)) rfl rfl rfl k68 k72 (tokAt hs 10 (by kernel_rfl))
  obtain ⟨k80, e11⟩ := addT h' (a := (Q4 ρ 40)) (b := (Q4 ρ 44)) (r := (Q4 ρ 80)) rfl rfl rfl k40 k44 (tokAt hs 11 (by kernel_rfl))
  obtain ⟨k84, e12⟩ := subT h' (a := (Q4 ρ 76)) (b := (Q4 ρ 80)) (r := (Q4 ρ 84)) rfl rfl rfl k76 k80 (tokAt hs 12 (by kernel_rfl))
  obtain ⟨k88, e13⟩ := addT h' (a := (Q4 ρ 12)) (b := (Q4 ρ 20)) (r := (Q4 ρ 88)) rfl rfl rfl k12 k20 (tokAt hs 13 (by kernel_rfl))
  obtain ⟨k92, e14⟩ := addT h' (a := (Q4 ρ 24)) (b := (Q4 ρ 32)) (r := (Q4 ρ 92)) rfl rfl rfl k24 k32 (tokAt hs 14 (by kernel_rfl))
  obtain ⟨k96, e15⟩ := mulT h' (a := (Q4 ρ 88)) (b := (Q4 ρ 92)) (r := (Q4 ρ 96)) rfl rfl rfl k88 k92 (tokAt hs 15 (by kernel_rfl))
  obtain ⟨k100, e16⟩ := addT h' (a := (Q4 ρ 36)) (b := (Q4 ρ 44)) (r := (Q4 ρ 100)) rfl rfl rfl k36 k44 (tokAt hs 16 (by kernel_rfl))
  obtain ⟨k104, e17⟩ := subT h' (a := (Q4 ρ 96)) (b := (Q4 ρ 100)) (r := (Q4 ρ 104)) rfl rfl rfl k96 k100 (tokAt hs 17 (by kernel_rfl))
  obtain ⟨k108, e18⟩ := mulT h' (a := bL) (b := (Q4 ρ 44)) (r := (Q4 ρ 108)) rfl rfl rfl bL_ok k44 (tokAt hs 18 (by kernel_rfl))
  obtain ⟨k112, e19⟩ := subT h' (a := (Q4 ρ 104)) (b := (Q4 ρ 108)) (r := (Q4 ρ 112)) rfl rfl rfl k104 k108 (tokAt hs 19 (by kernel_rfl))
  obtain ⟨k116, e20⟩ := addT h' (a := (Q4 ρ 112)) (b := (Q4 ρ 112)) (r := (Q4 ρ 116)) rfl rfl rfl k112 k112 (tokAt hs 20 (by kernel_rfl))
  obtain ⟨k120, e21⟩ := addT h' (a := (Q4 ρ 112)) (b := (Q4 ρ 116)) (r := (Q4 ρ 120)) rfl rfl rfl k112 k116 (tokAt hs 21 (by kernel_rfl))
  obtain ⟨k124, e22⟩ := subT h' (a := (Q4 ρ 40)) (b := (Q4 ρ 120)) (r := (Q4 ρ 124)) rfl rfl rfl k40 k120 (tokAt hs 22 (by kernel_rfl))
  obtain ⟨k128, e23⟩ := addT h' (a := (Q4 ρ 40)) (b := (Q4 ρ 120)) (r := (Q4 ρ 128)) rfl rfl rfl k40 k120 (tokAt hs 23 (by kernel_rfl))
  obtain ⟨k132, e24⟩ := mulT h' (a := bL) (b := (Q4 ρ 104)) (r := (Q4 ρ 132)) rfl rfl rfl bL_ok k104 (tokAt hs 24 (by kernel_rfl))
  obtain ⟨k136, e25⟩ := addT h' (a := (Q4 ρ 44)) (b := (Q4 ρ 44)) (r := (Q4 ρ 136)) rfl rfl rfl k44 k44 (tokAt hs 25 (by kernel_rfl))
  obtain ⟨k140, e26⟩ := addT h' (a := (Q4 ρ 136)) (b := (Q4 ρ 44)) (r := (Q4 ρ 140)) rfl rfl rfl k136 k44 (tokAt hs 26 (by kernel_rfl))
  obtain ⟨k144, e27⟩ := subT h' (a := (Q4 ρ 132)) (b := (Q4 ρ 140)) (r := (Q4 ρ 144)) rfl rfl rfl k132 k140 (tokAt hs 27 (by kernel_rfl))
  obtain ⟨k148, e28⟩ := subT h' (a := (Q4 ρ 144)) (b := (Q4 ρ 36)) (r := (Q4 ρ 148)) rfl rfl rfl k144 k36 (tokAt hs 28 (by kernel_rfl))
  obtain ⟨k152, e29⟩ := addT h' (a := (Q4 ρ 148)) (b := (Q4 ρ 148)) (r := (Q4 ρ 152)) rfl rfl rfl k148 k148 (tokAt hs 29 (by kernel_rfl))
  obtain ⟨k156, e30⟩ := addT h' (a := (Q4 ρ 152)) (b := (Q4 ρ 148)) (r := (Q4 ρ 156)) rfl rfl rfl k152 k148 (tokAt hs 30 (by kernel_rfl))
  obtain ⟨k160, e31⟩ := addT h' (a := (Q4 ρ 36)) (b := (Q4 ρ 36)) (r := (Q4 ρ 160)) rfl rfl rfl k36 k36 (tokAt hs 31 (by kernel_rfl))
  obtain ⟨k164, e32⟩ := addT h' (a := (Q4 ρ 160)) (b := (Q4 ρ 36)) (r := (Q4 ρ 164)) rfl rfl rfl k160 k36 (tokAt hs 32 (by kernel_rfl))
  obtain ⟨k168, e33⟩ := subT h' (a := (Q4 ρ 164)) (b := (Q4 ρ 140)) (r := (Q4 ρ 168)) rfl rfl rfl k164 k140 (tokAt hs 33 (by kernel_rfl))
  obtain ⟨k172, e34⟩ := mulT h' (a := (Q4 ρ 84)) (b := (Q4 ρ 156)) (r := (Q4 ρ 172)) rfl rfl rfl k84 k156 (tokAt hs 34 (by kernel_rfl))
  obtain ⟨k176, e35⟩ := mulT h' (a := (Q4 ρ 168)) (b := (Q4 ρ 156)) (r := (Q4 ρ 176)) rfl rfl rfl k168 k156 (tokAt hs 35 (by kernel_rfl))
  obtain ⟨k180, e36⟩ := mulT h' (a := (Q4 ρ 128)) (b := (Q4 ρ 124)) (r := (Q4 ρ 180)) rfl rfl rfl k128 k124 (tokAt hs 36 (by kernel_rfl))
  obtain ⟨k184, e37⟩ := addT h' (a := (Q4 ρ 180)) (b := (Q4 ρ 176)) (r := (Q4 ρ 184)) rfl rfl rfl k180 k176 (tokAt hs 37 (by kernel_rfl))
  obtain ⟨k188, e38⟩ := mulT h' (a := (Q4 ρ 64)) (b := (Q4 ρ 128)) (r := (Q4 ρ 188)) rfl rfl rfl k64 k128 (tokAt hs 38 (by kernel_rfl))
  obtain ⟨k192, e39⟩ := subT h' (a := (Q4 ρ 188)) (b := (Q4 ρ 172)) (r := (Q4 ρ 192)) rfl rfl rfl k188 k172 (tokAt hs 39 (by kernel_rfl))
  obtain ⟨k196, e40⟩ := mulT h' (a := (Q4 ρ 84)) (b := (Q4 ρ 124)) (r := (Q4 ρ 196)) rfl rfl rfl k84 k124 (tokAt hs 40 (by kernel_rfl))
  obtain ⟨k200, e41⟩ := mulT h' (a := (Q4 ρ 64)) (b := (Q4 ρ 168)) (r := (Q4 ρ 200)) rfl rfl rfl k64 k168 (tokAt hs 41 (by kernel_rfl))
  obtain ⟨k204, e42⟩ := addT h' (a := (Q4 ρ 196)) (b := (Q4 ρ 200)) (r := (Q4 ρ 204)) rfl rfl rfl k196 k200 (tokAt hs 42 (by kernel_rfl))
  refine ⟨⟨k192, k184, k204⟩, ?_⟩
  rw [dv_bL] at e18 e24
  simp only [adI, rcb, OF, <- e0, <- e1, <- e2, <- e3, <- e4, <- e5, <- e6, <- e7, <- e8, <- e9, <- e10, <- e11, <- e12, <- e13, <- e14, <- e15, <- e16, <- e17, <- e18, <- e19, <- e20, <- e21, <- e22, <- e23, <- e24, <- e25, <- e26, <- e27, <- e28, <- e29, <- e30, <- e31, <- e32, <- e33, <- e34, <- e35, <- e36, <- e37, <- e38, <- e39, <- e40, <- e41, <- e42]
theorem addP_ok (h : FK X) : SpecOK Tryz.prog X 129 addPS.spec := fn_sum (ED_ok h.toFJ) addP_chk (one_ds (addP_end h))
def addQLk : Look := ⟨vars 180 4 ++ vars 172 4 ++ vars 192 4, [], [.ext 1 (vars 0 4 ++ vars 12 4 ++ vars 24 4),
    .ext 1 (vars 4 4 ++ vars 16 4 ++ vars 28 4),
    .ext 1 (vars 8 4 ++ vars 20 4 ++ vars 32 4),
    .ext 3 (vars 0 8 ++ vars 36 4),
    .ext 3 (vars 12 8 ++ vars 40 4),
    .ext 1 (vars 36 12),
    .ext 3 (vars 24 8 ++ vars 48 4),
    .ext 2 (vars 44 12),
    .ext 3 (vars 4 8 ++ vars 56 4),
    .ext 3 (vars 16 8 ++ vars 60 4),
    .ext 1 (vars 56 12),
    .ext 3 (vars 28 8 ++ vars 68 4),
    .ext 2 (vars 64 12),
    .ext 3 (vars 0 4 ++ vars 8 4 ++ vars 76 4),
    .ext 3 (vars 12 4 ++ vars 20 4 ++ vars 80 4),
    .ext 1 (vars 76 12),
    .ext 3 (vars 24 4 ++ vars 32 4 ++ vars 88 4),
    .ext 2 (vars 84 12),
    .ext 1 ([.const 16674804078458460621, .const 1187475804136674064, .const 4453702246874644817, .const 2143301523] ++ vars 32 4 ++ vars 96 4),
    .ext 2 (vars 92 12),
    .ext 3 (vars 100 4 ++ vars 100 8),
    .ext 3 (vars 100 12),
    .ext 2 (vars 28 4 ++ vars 108 8),
    .ext 3 (vars 28 4 ++ vars 108 4 ++ vars 116 4),
    .ext 1 ([.const 16674804078458460621, .const 1187475804136674064, .const 4453702246874644817, .const 2143301523] ++ vars 92 4 ++ vars 120 4),
    .ext 3 (vars 32 4 ++ vars 32 4 ++ vars 124 4),
    .ext 3 (vars 124 4 ++ vars 32 4 ++ vars 128 4),
    .ext 2 (vars 120 4 ++ vars 128 8),
    .ext 2 (vars 132 4 ++ vars 24 4 ++ vars 136 4),
    .ext 3 (vars 136 4 ++ vars 136 8),
    .ext 3 (vars 140 4 ++ vars 136 4 ++ vars 144 4),
    .ext 3 (vars 24 4 ++ vars 24 4 ++ vars 148 4),
    .ext 3 (vars 148 4 ++ vars 24 4 ++ vars 152 4),
    .ext 2 (vars 152 4 ++ vars 128 4 ++ vars 156 4),
    .ext 1 (vars 72 4 ++ vars 144 4 ++ vars 160 4),
    .ext 1 (vars 156 4 ++ vars 144 4 ++ vars 164 4),
    .ext 1 (vars 116 4 ++ vars 112 4 ++ vars 168 4),
    .ext 3 (vars 168 4 ++ vars 164 4 ++ vars 172 4),
    .ext 1 (vars 52 4 ++ vars 116 4 ++ vars 176 4),
    .ext 2 (vars 176 4 ++ vars 160 4 ++ vars 180 4),
    .ext 1 (vars 72 4 ++ vars 112 4 ++ vars 184 4),
    .ext 1 (vars 52 4 ++ vars 156 4 ++ vars 188 4),
    .ext 3 (vars 184 12)], []⟩
theorem addQ_chk : chkFn (execCall ED 3000 129 addQS.args addQS.start) addQS [(0, addQLk)] = true := by kernel_rfl
theorem addQ_end (h : FK X) : EndP X addQS 0 addQLk := by
  refine endP_of _ 70 _ rfl rfl (fun ρ => (Q4 ρ 0) ++ (Q4 ρ 4) ++ (Q4 ρ 8) ++ (Q4 ρ 12) ++ (Q4 ρ 16) ++ (Q4 ρ 20) ++ (Q4 ρ 180) ++ (Q4 ρ 172) ++ (Q4 ρ 192)) (fun ρ => by kernel_rfl) fun ρ hs => (h.addPt _).2 ?_
  refine Eq.mp (by kernel_rfl : ((okE (Q4 ρ 0) /\ okE (Q4 ρ 4) /\ okE (Q4 ρ 8)) -> (okE (Q4 ρ 12) /\ okE (Q4 ρ 16) /\ okE (Q4 ρ 20)) -> (okE (Q4 ρ 180) /\ okE (Q4 ρ 172) /\ okE (Q4 ρ 192)) /\ (dv (Q4 ρ 180), dv (Q4 ρ 172), dv (Q4 ρ 192)) = adI (dv (Q4 ρ 0), dv (Q4 ρ 4), dv (Q4 ρ 8)) (dv (Q4 ρ 12), dv (Q4 ρ 16), dv (Q4 ρ 20))) = _) ?_
  rintro ⟨k0, k4, k8⟩ ⟨k12, k16, k20⟩
  have h' := h.toFJ.toFI
  obtain ⟨k24, e0⟩ := mulT h' (a := (Q4 ρ 0)) (b := (Q4 ρ 12)) (r := (Q4 ρ 24)) rfl rfl rfl k0 k12 (tokAt hs 0 (by kernel_rfl))
  obtain ⟨k28, e1⟩ := mulT h' (a := (Q4 ρ 4)) (b := (Q4 ρ 16)) (r := (Q4 ρ 28)) rfl rfl rfl k4 k16 (tokAt hs 1 (by kernel_rfl))
  obtain ⟨k32, e2⟩ := mulT h' (a := (Q4 ρ 8)) (b := (Q4 ρ 20)) (r := (Q4 ρ 32)) rfl rfl rfl k8 k20 (tokAt hs 2 (by kernel_rfl))
  obtain ⟨k36, e3⟩ := addT h' (a := (Q4 ρ 0)) (b := (Q4 ρ 4)) (r := (Q4 ρ 36)) rfl rfl rfl k0 k4 (tokAt hs 3 (by kernel_rfl))
  obtain ⟨k40, e4⟩ := addT h' (a := (Q4 ρ 12)) (b := (Q4 ρ 16)) (r := (Q4 ρ 40)) rfl rfl rfl k12 k16 (tokAt hs 4 (by kernel_rfl))
  obtain ⟨k44, e5⟩ := mulT h' (a := (Q4 ρ 36)) (b := (Q4 ρ 40)) (r := (Q4 ρ 44)) rfl rfl rfl k36 k40 (tokAt hs 5 (by kernel_rfl))
  obtain ⟨k48, e6⟩ := addT h' (a := (Q4 ρ 24)) (b := (Q4 ρ 28)) (r := (Q4 ρ 48)) rfl rfl rfl k24 k28 (tokAt hs 6 (by kernel_rfl))
  obtain ⟨k52, e7⟩ := subT h' (a := (Q4 ρ 44)) (b := (Q4 ρ 48)) (r := (Q4 ρ 52)) rfl rfl rfl k44 k48 (tokAt hs 7 (by kernel_rfl))
  obtain ⟨k56, e8⟩ := addT h' (a := (Q4 ρ 4)) (b := (Q4 ρ 8)) (r := (Q4 ρ 56)) rfl rfl rfl k4 k8 (tokAt hs 8 (by kernel_rfl))
  obtain ⟨k60, e9⟩ := addT h' (a := (Q4 ρ 16)) (b := (Q4 ρ 20)) (r := (Q4 ρ 60)) rfl rfl rfl k16 k20 (tokAt hs 9 (by kernel_rfl))
  obtain ⟨k64, e10⟩ := mulT h' (a := (Q4 ρ 56)) (b := (Q4 ρ 60)) (r := (Q4 ρ 64)) rfl rfl rfl k56 k60 (tokAt hs 10 (by kernel_rfl))
  obtain ⟨k68, e11⟩ := addT h' (a := (Q4 ρ 28)) (b := (Q4 ρ 32)) (r := (Q4 ρ 68)) rfl rfl rfl k28 k32 (tokAt hs 11 (by kernel_rfl))
  obtain ⟨k72, e12⟩ := subT h' (a := (Q4 ρ 64)) (b := (Q4 ρ 68)) (r := (Q4 ρ 72)) rfl rfl rfl k64 k68 (tokAt hs 12 (by kernel_rfl))
  obtain ⟨k76, e13⟩ := addT h' (a := (Q4 ρ 0)) (b := (Q4 ρ 8)) (r := (Q4 ρ 76)) rfl rfl rfl k0 k8 (tokAt hs 13 (by kernel_rfl))
  obtain ⟨k80, e14⟩ := addT h' (a := (Q4 ρ 12)) (b := (Q4 ρ 20)) (r := (Q4 ρ 80)) rfl rfl rfl k12 k20 (tokAt hs 14 (by kernel_rfl))
  obtain ⟨k84, e15⟩ := mulT h' (a := (Q4 ρ 76)) (b := (Q4 ρ 80)) (r := (Q4 ρ 84)) rfl rfl rfl k76 k80 (tokAt hs 15 (by kernel_rfl))
  obtain ⟨k88, e16⟩ := addT h' (a := (Q4 ρ 24)) (b := (Q4 ρ 32)) (r := (Q4 ρ 88)) rfl rfl rfl k24 k32 (tokAt hs 16 (by kernel_rfl))
  obtain ⟨k92, e17⟩ := subT h' (a := (Q4 ρ 84)) (b := (Q4 ρ 88)) (r := (Q4 ρ 92)) rfl rfl rfl k84 k88 (tokAt hs 17 (by kernel_rfl))
  obtain ⟨k96, e18⟩ := mulT h' (a := bL) (b := (Q4 ρ 32)) (r := (Q4 ρ 96)) rfl rfl rfl bL_ok k32 (tokAt hs 18 (by kernel_rfl))
  obtain ⟨k100, e19⟩ := subT h' (a := (Q4 ρ 92)) (b := (Q4 ρ 96)) (r := (Q4 ρ 100)) rfl rfl rfl k92 k96 (tokAt hs 19 (by kernel_rfl))
  obtain ⟨k104, e20⟩ := addT h' (a := (Q4 ρ 100)) (b := (Q4 ρ 100)) (r := (Q4 ρ 104)) rfl rfl rfl k100 k100 (tokAt hs 20 (by kernel_rfl))
  obtain ⟨k108, e21⟩ := addT h' (a := (Q4 ρ 100)) (b := (Q4 ρ 104)) (r := (Q4 ρ 108)) rfl rfl rfl k100 k104 (tokAt hs 21 (by kernel_rfl))
  obtain ⟨k112, e22⟩ := subT h' (a := (Q4 ρ 28)) (b := (Q4 ρ 108)) (r := (Q4 ρ 112)) rfl rfl rfl k28 k108 (tokAt hs 22 (by kernel_rfl))
  obtain ⟨k116, e23⟩ := addT h' (a := (Q4 ρ 28)) (b := (Q4 ρ 108)) (r := (Q4 ρ 116)) rfl rfl rfl k28 k108 (tokAt hs 23 (by kernel_rfl))
  obtain ⟨k120, e24⟩ := mulT h' (a := bL) (b := (Q4 ρ 92)) (r := (Q4 ρ 120)) rfl rfl rfl bL_ok k92 (tokAt hs 24 (by kernel_rfl))
  obtain ⟨k124, e25⟩ := addT h' (a := (Q4 ρ 32)) (b := (Q4 ρ 32)) (r := (Q4 ρ 124)) rfl rfl rfl k32 k32 (tokAt hs 25 (by kernel_rfl))
  obtain ⟨k128, e26⟩ := addT h' (a := (Q4 ρ 124)) (b := (Q4 ρ 32)) (r := (Q4 ρ 128)) rfl rfl rfl k124 k32 (tokAt hs 26 (by kernel_rfl))
  obtain ⟨k132, e27⟩ := subT h' (a := (Q4 ρ 120)) (b := (Q4 ρ 128)) (r := (Q4 ρ 132)) rfl rfl rfl k120 k128 (tokAt hs 27 (by kernel_rfl))
  obtain ⟨k136, e28⟩ := subT h' (a := (Q4 ρ 132)) (b := (Q4 ρ 24)) (r := (Q4 ρ 136)) rfl rfl rfl k132 k24 (tokAt hs 28 (by kernel_rfl))
  obtain ⟨k140, e29⟩ := addT h' (a := (Q4 ρ 136)) (b := (Q4 ρ 136)) (r := (Q4 ρ 140)) rfl rfl rfl k136 k136 (tokAt hs 29 (by kernel_rfl))
  obtain ⟨k144, e30⟩ := addT h' (a := (Q4 ρ 140)) (b := (Q4 ρ 136)) (r := (Q4 ρ 144)) rfl rfl rfl k140 k136 (tokAt hs 30 (by kernel_rfl))
  obtain ⟨k148, e31⟩ := addT h' (a := (Q4 ρ 24)) (b := (Q4 ρ 24)) (r := (Q4 ρ 148)) rfl rfl rfl k24 k24 (tokAt hs 31 (by kernel_rfl))
  obtain ⟨k152, e32⟩ := addT h' (a := (Q4 ρ 148)) (b := (Q4 ρ 24)) (r := (Q4 ρ 152)) rfl rfl rfl k148 k24 (tokAt hs 32 (by kernel_rfl))
  obtain ⟨k156, e33⟩ := subT h' (a := (Q4 ρ 152)) (b := (Q4 ρ 128)) (r := (Q4 ρ 156)) rfl rfl rfl k152 k128 (tokAt hs 33 (by kernel_rfl))
  obtain ⟨k160, e34⟩ := mulT h' (a := (Q4 ρ 72)) (b := (Q4 ρ 144)) (r := (Q4 ρ 160)) rfl rfl rfl k72 k144 (tokAt hs 34 (by kernel_rfl))
  obtain ⟨k164, e35⟩ := mulT h' (a := (Q4 ρ 156)) (b := (Q4 ρ 144)) (r := (Q4 ρ 164)) rfl rfl rfl k156 k144 (tokAt hs 35 (by kernel_rfl))
  obtain ⟨k168, e36⟩ := mulT h' (a := (Q4 ρ 116)) (b := (Q4 ρ 112)) (r := (Q4 ρ 168)) rfl rfl rfl k116 k112 (tokAt hs 36 (by kernel_rfl))
  obtain ⟨k172, e37⟩ := addT h' (a := (Q4 ρ 168)) (b := (Q4 ρ 164)) (r := (Q4 ρ 172)) rfl rfl rfl k168 k164 (tokAt hs 37 (by kernel_rfl))
  obtain ⟨k176, e38⟩ := mulT h' (a := (Q4 ρ 52)) (b := (Q4 ρ 116)) (r := (Q4 ρ 176)) rfl rfl rfl k52 k116 (tokAt hs 38 (by kernel_rfl))
  obtain ⟨k180, e39⟩ := subT h' (a := (Q4 ρ 176)) (b := (Q4 ρ 160)) (r := (Q4 ρ 180)) rfl rfl rfl k176 k160 (tokAt hs 39 (by kernel_rfl))
  obtain ⟨k184, e40⟩ := mulT h' (a := (Q4 ρ 72)) (b := (Q4 ρ 112)) (r := (Q4 ρ 184)) rfl rfl rfl k72 k112 (tokAt hs 40 (by kernel_rfl))
  obtain ⟨k188, e41⟩ := mulT h' (a := (Q4 ρ 52)) (b := (Q4 ρ 156)) (r := (Q4 ρ 188)) rfl rfl rfl k52 k156 (tokAt hs 41 (by kernel_rfl))
  obtain ⟨k192, e42⟩ := addT h' (a := (Q4 ρ 184)) (b := (Q4 ρ 188)) (r := (Q4 ρ 192)) rfl rfl rfl k184 k188 (tokAt hs 42 (by kernel_rfl))
  refine ⟨⟨k180, k172, k192⟩, ?_⟩
  rw [dv_bL] at e18 e24
  simp only [adI, rcb, OF, <- e0, <- e1, <- e2, <- e3, <- e4, <- e5, <- e6, <- e7, <- e8, <- e9, <- e10, <- e11, <- e12, <- e13, <- e14, <- e15, <- e16, <- e17, <- e18, <- e19, <- e20, <- e21, <- e22, <- e23, <- e24, <- e25, <- e26, <- e27, <- e28, <- e29, <- e30, <- e31, <- e32, <- e33, <- e34, <- e35, <- e36, <- e37, <- e38, <- e39, <- e40, <- e41, <- e42]
theorem addQ_ok (h : FK X) : SpecOK Tryz.prog X 129 addQS.spec := fn_sum (ED_ok h.toFJ) addQ_chk (one_ds (addQ_end h))
def dblPLk : Look := ⟨vars 144 4 ++ vars 128 4 ++ vars 156 4, [], [.ext 1 (vars 12 4 ++ vars 12 4 ++ vars 24 4),
    .ext 1 (vars 16 4 ++ vars 16 4 ++ vars 28 4),
    .ext 1 (vars 20 4 ++ vars 20 4 ++ vars 32 4),
    .ext 1 (vars 12 8 ++ vars 36 4),
    .ext 3 (vars 36 4 ++ vars 36 8),
    .ext 1 (vars 12 4 ++ vars 20 4 ++ vars 44 4),
    .ext 3 (vars 44 4 ++ vars 44 8),
    .ext 1 ([.const 16674804078458460621, .const 1187475804136674064, .const 4453702246874644817, .const 2143301523] ++ vars 32 4 ++ vars 52 4),
    .ext 2 (vars 52 4 ++ vars 48 4 ++ vars 56 4),
    .ext 3 (vars 56 4 ++ vars 56 8),
    .ext 3 (vars 60 4 ++ vars 56 4 ++ vars 64 4),
    .ext 2 (vars 28 4 ++ vars 64 8),
    .ext 3 (vars 28 4 ++ vars 64 4 ++ vars 72 4),
    .ext 1 (vars 68 12),
    .ext 1 (vars 68 4 ++ vars 40 4 ++ vars 80 4),
    .ext 3 (vars 32 4 ++ vars 32 4 ++ vars 84 4),
    .ext 3 (vars 32 4 ++ vars 84 8),
    .ext 1 ([.const 16674804078458460621, .const 1187475804136674064, .const 4453702246874644817, .const 2143301523] ++ vars 48 4 ++ vars 92 4),
    .ext 2 (vars 92 4 ++ vars 88 4 ++ vars 96 4),
    .ext 2 (vars 96 4 ++ vars 24 4 ++ vars 100 4),
    .ext 3 (vars 100 4 ++ vars 100 8),
    .ext 3 (vars 100 12),
    .ext 3 (vars 24 4 ++ vars 24 4 ++ vars 112 4),
    .ext 3 (vars 112 4 ++ vars 24 4 ++ vars 116 4),
    .ext 2 (vars 116 4 ++ vars 88 4 ++ vars 120 4),
    .ext 1 (vars 120 4 ++ vars 108 4 ++ vars 124 4),
    .ext 3 (vars 76 4 ++ vars 124 8),
    .ext 1 (vars 16 8 ++ vars 132 4),
    .ext 3 (vars 132 4 ++ vars 132 8),
    .ext 1 (vars 136 4 ++ vars 108 4 ++ vars 140 4),
    .ext 2 (vars 80 4 ++ vars 140 8),
    .ext 1 (vars 136 4 ++ vars 28 4 ++ vars 148 4),
    .ext 3 (vars 148 4 ++ vars 148 8),
    .ext 3 (vars 152 4 ++ vars 152 8)], []⟩
theorem dblP_chk : chkFn (execCall ED 3000 144 dblPS.args dblPS.start) dblPS [(0, dblPLk)] = true := by kernel_rfl
theorem dblP_end (h : FK X) : EndP X dblPS 0 dblPLk := by
  refine endP_of _ 71 _ rfl rfl (fun ρ => (Q4 ρ 12) ++ (Q4 ρ 16) ++ (Q4 ρ 20) ++ (Q4 ρ 144) ++ (Q4 ρ 128) ++ (Q4 ρ 156)) (fun ρ => by kernel_rfl) fun ρ hs => (h.dblPt _).2 ?_
  refine Eq.mp (by kernel_rfl : ((okE (Q4 ρ 12) /\ okE (Q4 ρ 16) /\ okE (Q4 ρ 20)) -> (okE (Q4 ρ 144) /\ okE (Q4 ρ 128) /\ okE (Q4 ρ 156)) /\ (dv (Q4 ρ 144), dv (Q4 ρ 128), dv (Q4 ρ 156)) = dbI (dv (Q4 ρ 12), dv (Q4 ρ 16), dv (Q4 ρ 20))) = _) ?_
  rintro ⟨k12, k16, k20⟩
  have h' := h.toFJ.toFI
  obtain ⟨k24, e0⟩ := mulT h' (a := (Q4 ρ 12)) (b := (Q4 ρ 12)) (r := (Q4 ρ 24)) rfl rfl rfl k12 k12 (tokAt hs 0 (by kernel_rfl))
  obtain ⟨k28, e1⟩ := mulT h' (a := (Q4 ρ 16)) (b := (Q4 ρ 16)) (r := (Q4 ρ 28)) rfl rfl rfl k16 k16 (tokAt hs 1 (by kernel_rfl))
  obtain ⟨k32, e2⟩ := mulT h' (a := (Q4 ρ 20)) (b := (Q4 ρ 20)) (r := (Q4 ρ 32)) rfl rfl rfl k20 k20 (tokAt hs 2 (by kernel_rfl))
  obtain ⟨k36, e3⟩ := mulT h' (a := (Q4 ρ 12)) (b := (Q4 ρ 16)) (r := (Q4 ρ 36)) rfl rfl rfl k12 k16 (tokAt hs 3 (by kernel_rfl))
  obtain ⟨k40, e4⟩ := addT h' (a := (Q4 ρ 36)) (b := (Q4 ρ 36)) (r := (Q4 ρ 40)) rfl rfl rfl k36 k36 (tokAt hs 4 (by kernel_rfl))
  obtain ⟨k44, e5⟩ := mulT h' (a := (Q4 ρ 12)) (b := (Q4 ρ 20)) (r := (Q4 ρ 44)) rfl rfl rfl k12 k20 (tokAt hs 5 (by kernel_rfl))
  obtain ⟨k48, e6⟩ := addT h' (a := (Q4 ρ 44)) (b := (Q4 ρ 44)) (r := (Q4 ρ 48)) rfl rfl rfl k44 k44 (tokAt hs 6 (by kernel_rfl))
  obtain ⟨k52, e7⟩ := mulT h' (a := bL) (b := (Q4 ρ 32)) (r := (Q4 ρ 52)) rfl rfl rfl bL_ok k32 (tokAt hs 7 (by kernel_rfl))
  obtain ⟨k56, e8⟩ := subT h' (a := (Q4 ρ 52)) (b := (Q4 ρ 48)) (r := (Q4 ρ 56)) rfl rfl rfl k52 k48 (tokAt hs 8 (by kernel_rfl))
  obtain ⟨k60, e9⟩ := addT h' (a := (Q4 ρ 56)) (b := (Q4 ρ 56)) (r := (Q4 ρ 60)) rfl rfl rfl k56 k56 (tokAt hs 9 (by kernel_rfl))
  obtain ⟨k64, e10⟩ := addT h' (a := (Q4 ρ 60)) (b := (Q4 ρ 56)) (r := (Q4 ρ 64)) rfl rfl rfl k60 k56 (tokAt hs 10 (by kernel_rfl))
  obtain ⟨k68, e11⟩ := subT h' (a := (Q4 ρ 28)) (b := (Q4 ρ 64)) (r := (Q4 ρ 68)) rfl rfl rfl k28 k64 (tokAt hs 11 (by kernel_rfl))
  obtain ⟨k72, e12⟩ := addT h' (a := (Q4 ρ 28)) (b := (Q4 ρ 64)) (r := (Q4 ρ 72)) rfl rfl rfl k28 k64 (tokAt hs 12 (by kernel_rfl))
  obtain ⟨k76, e13⟩ := mulT h' (a := (Q4 ρ 68)) (b := (Q4 ρ 72)) (r := (Q4 ρ 76)) rfl rfl rfl k68 k72 (tokAt hs 13 (by kernel_rfl))
  obtain ⟨k80, e14⟩ := mulT h' (a := (Q4 ρ 68)) (b := (Q4 ρ 40)) (r := (Q4 ρ 80)) rfl rfl rfl k68 k40 (tokAt hs 14 (by kernel_rfl))
  obtain ⟨k84, e15⟩ := addT h' (a := (Q4 ρ 32)) (b := (Q4 ρ 32)) (r := (Q4 ρ 84)) rfl rfl rfl k32 k32 (tokAt hs 15 (by kernel_rfl))
  obtain ⟨k88, e16⟩ := addT h' (a := (Q4 ρ 32)) (b := (Q4 ρ 84)) (r := (Q4 ρ 88)) rfl rfl rfl k32 k84 (tokAt hs 16 (by kernel_rfl))
  obtain ⟨k92, e17⟩ := mulT h' (a := bL) (b := (Q4 ρ 48)) (r := (Q4 ρ 92)) rfl rfl rfl bL_ok k48 (tokAt hs 17 (by kernel_rfl))
  obtain ⟨k96, e18⟩ := subT h' (a := (Q4 ρ 92)) (b := (Q4 ρ 88)) (r := (Q4 ρ 96)) rfl rfl rfl k92 k88 (tokAt hs 18 (by kernel_rfl))
  obtain ⟨k100, e19⟩ := subT h' (a := (Q4 ρ 96)) (b := (Q4 ρ 24)) (r := (Q4 ρ 100)) rfl rfl rfl k96 k24 (tokAt hs 19 (by kernel_rfl))
  obtain ⟨k104, e20⟩ := addT h' (a := (Q4 ρ 100)) (b := (Q4 ρ 100)) (r := (Q4 ρ 104)) rfl rfl rfl k100 k100 (tokAt hs 20 (by kernel_rfl))
  obtain ⟨k108, e21⟩ := addT h' (a := (Q4 ρ 100)) (b := (Q4 ρ 104)) (r := (Q4 ρ 108)) rfl rfl rfl k100 k104 (tokAt hs 21 (by kernel_rfl))
  obtain ⟨k112, e22⟩ := addT h' (a := (Q4 ρ 24)) (b := (Q4 ρ 24)) (r := (Q4 ρ 112)) rfl rfl rfl k24 k24 (tokAt hs 22 (by kernel_rfl))
  obtain ⟨k116, e23⟩ := addT h' (a := (Q4 ρ 112)) (b := (Q4 ρ 24)) (r := (Q4 ρ 116)) rfl rfl rfl k112 k24 (tokAt hs 23 (by kernel_rfl))
  obtain ⟨k120, e24⟩ := subT h' (a := (Q4 ρ 116)) (b := (Q4 ρ 88)) (r := (Q4 ρ 120)) rfl rfl rfl k116 k88 (tokAt hs 24 (by kernel_rfl))
  obtain ⟨k124, e25⟩ := mulT h' (a := (Q4 ρ 120)) (b := (Q4 ρ 108)) (r := (Q4 ρ 124)) rfl rfl rfl k120 k108 (tokAt hs 25 (by kernel_rfl))
  obtain ⟨k128, e26⟩ := addT h' (a := (Q4 ρ 76)) (b := (Q4 ρ 124)) (r := (Q4 ρ 128)) rfl rfl rfl k76 k124 (tokAt hs 26 (by kernel_rfl))
  obtain ⟨k132, e27⟩ := mulT h' (a := (Q4 ρ 16)) (b := (Q4 ρ 20)) (r := (Q4 ρ 132)) rfl rfl rfl k16 k20 (tokAt hs 27 (by kernel_rfl))
  obtain ⟨k136, e28⟩ := addT h' (a := (Q4 ρ 132)) (b := (Q4 ρ 132)) (r := (Q4 ρ 136)) rfl rfl rfl k132 k132 (tokAt hs 28 (by kernel_rfl))
  obtain ⟨k140, e29⟩ := mulT h' (a := (Q4 ρ 136)) (b := (Q4 ρ 108)) (r := (Q4 ρ 140)) rfl rfl rfl k136 k108 (tokAt hs 29 (by kernel_rfl))
  obtain ⟨k144, e30⟩ := subT h' (a := (Q4 ρ 80)) (b := (Q4 ρ 140)) (r := (Q4 ρ 144)) rfl rfl rfl k80 k140 (tokAt hs 30 (by kernel_rfl))
  obtain ⟨k148, e31⟩ := mulT h' (a := (Q4 ρ 136)) (b := (Q4 ρ 28)) (r := (Q4 ρ 148)) rfl rfl rfl k136 k28 (tokAt hs 31 (by kernel_rfl))
  obtain ⟨k152, e32⟩ := addT h' (a := (Q4 ρ 148)) (b := (Q4 ρ 148)) (r := (Q4 ρ 152)) rfl rfl rfl k148 k148 (tokAt hs 32 (by kernel_rfl))
  obtain ⟨k156, e33⟩ := addT h' (a := (Q4 ρ 152)) (b := (Q4 ρ 152)) (r := (Q4 ρ 156)) rfl rfl rfl k152 k152 (tokAt hs 33 (by kernel_rfl))
  refine ⟨⟨k144, k128, k156⟩, ?_⟩
  rw [dv_bL] at e7 e17
  simp only [dbI, dblT, OF, <- e0, <- e1, <- e2, <- e3, <- e4, <- e5, <- e6, <- e7, <- e8, <- e9, <- e10, <- e11, <- e12, <- e13, <- e14, <- e15, <- e16, <- e17, <- e18, <- e19, <- e20, <- e21, <- e22, <- e23, <- e24, <- e25, <- e26, <- e27, <- e28, <- e29, <- e30, <- e31, <- e32, <- e33]
theorem dblP_ok (h : FK X) : SpecOK Tryz.prog X 144 dblPS.spec := fn_sum (ED_ok h.toFJ) dblP_chk (one_ds (dblP_end h))
def dblQLk : Look := ⟨vars 132 4 ++ vars 116 4 ++ vars 144 4, [], [.ext 1 (vars 0 4 ++ vars 0 4 ++ vars 12 4),
    .ext 1 (vars 4 4 ++ vars 4 4 ++ vars 16 4),
    .ext 1 (vars 8 4 ++ vars 8 4 ++ vars 20 4),
    .ext 1 (vars 0 8 ++ vars 24 4),
    .ext 3 (vars 24 4 ++ vars 24 8),
    .ext 1 (vars 0 4 ++ vars 8 4 ++ vars 32 4),
    .ext 3 (vars 32 4 ++ vars 32 8),
    .ext 1 ([.const 16674804078458460621, .const 1187475804136674064, .const 4453702246874644817, .const 2143301523] ++ vars 20 4 ++ vars 40 4),
    .ext 2 (vars 40 4 ++ vars 36 4 ++ vars 44 4),
    .ext 3 (vars 44 4 ++ vars 44 8),
    .ext 3 (vars 48 4 ++ vars 44 4 ++ vars 52 4),
    .ext 2 (vars 16 4 ++ vars 52 8),
    .ext 3 (vars 16 4 ++ vars 52 4 ++ vars 60 4),
    .ext 1 (vars 56 12),
    .ext 1 (vars 56 4 ++ vars 28 4 ++ vars 68 4),
    .ext 3 (vars 20 4 ++ vars 20 4 ++ vars 72 4),
    .ext 3 (vars 20 4 ++ vars 72 8),
    .ext 1 ([.const 16674804078458460621, .const 1187475804136674064, .const 4453702246874644817, .const 2143301523] ++ vars 36 4 ++ vars 80 4),
    .ext 2 (vars 80 4 ++ vars 76 4 ++ vars 84 4),
    .ext 2 (vars 84 4 ++ vars 12 4 ++ vars 88 4),
    .ext 3 (vars 88 4 ++ vars 88 8),
    .ext 3 (vars 88 12),
    .ext 3 (vars 12 4 ++ vars 12 4 ++ vars 100 4),
    .ext 3 (vars 100 4 ++ vars 12 4 ++ vars 104 4),
    .ext 2 (vars 104 4 ++ vars 76 4 ++ vars 108 4),
    .ext 1 (vars 108 4 ++ vars 96 4 ++ vars 112 4),
    .ext 3 (vars 64 4 ++ vars 112 8),
    .ext 1 (vars 4 8 ++ vars 120 4),
    .ext 3 (vars 120 4 ++ vars 120 8),
    .ext 1 (vars 124 4 ++ vars 96 4 ++ vars 128 4),
    .ext 2 (vars 68 4 ++ vars 128 8),
    .ext 1 (vars 124 4 ++ vars 16 4 ++ vars 136 4),
    .ext 3 (vars 136 4 ++ vars 136 8),
    .ext 3 (vars 140 4 ++ vars 140 8)], []⟩
theorem dblQ_chk : chkFn (execCall ED 3000 144 dblQS.args dblQS.start) dblQS [(0, dblQLk)] = true := by kernel_rfl
theorem dblQ_end (h : FK X) : EndP X dblQS 0 dblQLk := by
  refine endP_of _ 71 _ rfl rfl (fun ρ => (Q4 ρ 0) ++ (Q4 ρ 4) ++ (Q4 ρ 8) ++ (Q4 ρ 132) ++ (Q4 ρ 116) ++ (Q4 ρ 144)) (fun ρ => by kernel_rfl) fun ρ hs => (h.dblPt _).2 ?_
  refine Eq.mp (by kernel_rfl : ((okE (Q4 ρ 0) /\ okE (Q4 ρ 4) /\ okE (Q4 ρ 8)) -> (okE (Q4 ρ 132) /\ okE (Q4 ρ 116) /\ okE (Q4 ρ 144)) /\ (dv (Q4 ρ 132), dv (Q4 ρ 116), dv (Q4 ρ 144)) = dbI (dv (Q4 ρ 0), dv (Q4 ρ 4), dv (Q4 ρ 8))) = _) ?_
  rintro ⟨k0, k4, k8⟩
  have h' := h.toFJ.toFI
  obtain ⟨k12, e0⟩ := mulT h' (a := (Q4 ρ 0)) (b := (Q4 ρ 0)) (r := (Q4 ρ 12)) rfl rfl rfl k0 k0 (tokAt hs 0 (by kernel_rfl))
  obtain ⟨k16, e1⟩ := mulT h' (a := (Q4 ρ 4)) (b := (Q4 ρ 4)) (r := (Q4 ρ 16)) rfl rfl rfl k4 k4 (tokAt hs 1 (by kernel_rfl))
  obtain ⟨k20, e2⟩ := mulT h' (a := (Q4 ρ 8)) (b := (Q4 ρ 8)) (r := (Q4 ρ 20)) rfl rfl rfl k8 k8 (tokAt hs 2 (by kernel_rfl))
  obtain ⟨k24, e3⟩ := mulT h' (a := (Q4 ρ 0)) (b := (Q4 ρ 4)) (r := (Q4 ρ 24)) rfl rfl rfl k0 k4 (tokAt hs 3 (by kernel_rfl))
  obtain ⟨k28, e4⟩ := addT h' (a := (Q4 ρ 24)) (b := (Q4 ρ 24)) (r := (Q4 ρ 28)) rfl rfl rfl k24 k24 (tokAt hs 4 (by kernel_rfl))
  obtain ⟨k32, e5⟩ := mulT h' (a := (Q4 ρ 0)) (b := (Q4 ρ 8)) (r := (Q4 ρ 32)) rfl rfl rfl k0 k8 (tokAt hs 5 (by kernel_rfl))
  obtain ⟨k36, e6⟩ := addT h' (a := (Q4 ρ 32)) (b := (Q4 ρ 32)) (r := (Q4 ρ 36)) rfl rfl rfl k32 k32 (tokAt hs 6 (by kernel_rfl))
  obtain ⟨k40, e7⟩ := mulT h' (a := bL) (b := (Q4 ρ 20)) (r := (Q4 ρ 40)) rfl rfl rfl bL_ok k20 (tokAt hs 7 (by kernel_rfl))
  obtain ⟨k44, e8⟩ := subT h' (a := (Q4 ρ 40)) (b := (Q4 ρ 36)) (r := (Q4 ρ 44)) rfl rfl rfl k40 k36 (tokAt hs 8 (by kernel_rfl))
  obtain ⟨k48, e9⟩ := addT h' (a := (Q4 ρ 44)) (b := (Q4 ρ 44)) (r := (Q4 ρ 48)) rfl rfl rfl k44 k44 (tokAt hs 9 (by kernel_rfl))
  obtain ⟨k52, e10⟩ := addT h' (a := (Q4 ρ 48)) (b := (Q4 ρ 44)) (r := (Q4 ρ 52)) rfl rfl rfl k48 k44 (tokAt hs 10 (by kernel_rfl))
  obtain ⟨k56, e11⟩ := subT h' (a := (Q4 ρ 16)) (b := (Q4 ρ 52)) (r := (Q4 ρ 56)) rfl rfl rfl k16 k52 (tokAt hs 11 (by kernel_rfl))
  obtain ⟨k60, e12⟩ := addT h' (a := (Q4 ρ 16)) (b := (Q4 ρ 52)) (r := (Q4 ρ 60)) rfl rfl rfl k16 k52 (tokAt hs 12 (by kernel_rfl))
  obtain ⟨k64, e13⟩ := mulT h' (a := (Q4 ρ 56)) (b := (Q4 ρ 60)) (r := (Q4 ρ 64)) rfl rfl rfl k56 k60 (tokAt hs 13 (by kernel_rfl))
  obtain ⟨k68, e14⟩ := mulT h' (a := (Q4 ρ 56)) (b := (Q4 ρ 28)) (r := (Q4 ρ 68)) rfl rfl rfl k56 k28 (tokAt hs 14 (by kernel_rfl))
  obtain ⟨k72, e15⟩ := addT h' (a := (Q4 ρ 20)) (b := (Q4 ρ 20)) (r := (Q4 ρ 72)) rfl rfl rfl k20 k20 (tokAt hs 15 (by kernel_rfl))
  obtain ⟨k76, e16⟩ := addT h' (a := (Q4 ρ 20)) (b := (Q4 ρ 72)) (r := (Q4 ρ 76)) rfl rfl rfl k20 k72 (tokAt hs 16 (by kernel_rfl))
  obtain ⟨k80, e17⟩ := mulT h' (a := bL) (b := (Q4 ρ 36)) (r := (Q4 ρ 80)) rfl rfl rfl bL_ok k36 (tokAt hs 17 (by kernel_rfl))
  obtain ⟨k84, e18⟩ := subT h' (a := (Q4 ρ 80)) (b := (Q4 ρ 76)) (r := (Q4 ρ 84)) rfl rfl rfl k80 k76 (tokAt hs 18 (by kernel_rfl))
  obtain ⟨k88, e19⟩ := subT h' (a := (Q4 ρ 84)) (b := (Q4 ρ 12)) (r := (Q4 ρ 88)) rfl rfl rfl k84 k12 (tokAt hs 19 (by kernel_rfl))
  obtain ⟨k92, e20⟩ := addT h' (a := (Q4 ρ 88)) (b := (Q4 ρ 88)) (r := (Q4 ρ 92)) rfl rfl rfl k88 k88 (tokAt hs 20 (by kernel_rfl))
  obtain ⟨k96, e21⟩ := addT h' (a := (Q4 ρ 88)) (b := (Q4 ρ 92)) (r := (Q4 ρ 96)) rfl rfl rfl k88 k92 (tokAt hs 21 (by kernel_rfl))
  obtain ⟨k100, e22⟩ := addT h' (a := (Q4 ρ 12)) (b := (Q4 ρ 12)) (r := (Q4 ρ 100)) rfl rfl rfl k12 k12 (tokAt hs 22 (by kernel_rfl))
  obtain ⟨k104, e23⟩ := addT h' (a := (Q4 ρ 100)) (b := (Q4 ρ 12)) (r := (Q4 ρ 104)) rfl rfl rfl k100 k12 (tokAt hs 23 (by kernel_rfl))
  obtain ⟨k108, e24⟩ := subT h' (a := (Q4 ρ 104)) (b := (Q4 ρ 76)) (r := (Q4 ρ 108)) rfl rfl rfl k104 k76 (tokAt hs 24 (by kernel_rfl))
  obtain ⟨k112, e25⟩ := mulT h' (a := (Q4 ρ 108)) (b := (Q4 ρ 96)) (r := (Q4 ρ 112)) rfl rfl rfl k108 k96 (tokAt hs 25 (by kernel_rfl))
  obtain ⟨k116, e26⟩ := addT h' (a := (Q4 ρ 64)) (b := (Q4 ρ 112)) (r := (Q4 ρ 116)) rfl rfl rfl k64 k112 (tokAt hs 26 (by kernel_rfl))
  obtain ⟨k120, e27⟩ := mulT h' (a := (Q4 ρ 4)) (b := (Q4 ρ 8)) (r := (Q4 ρ 120)) rfl rfl rfl k4 k8 (tokAt hs 27 (by kernel_rfl))
  obtain ⟨k124, e28⟩ := addT h' (a := (Q4 ρ 120)) (b := (Q4 ρ 120)) (r := (Q4 ρ 124)) rfl rfl rfl k120 k120 (tokAt hs 28 (by kernel_rfl))
  obtain ⟨k128, e29⟩ := mulT h' (a := (Q4 ρ 124)) (b := (Q4 ρ 96)) (r := (Q4 ρ 128)) rfl rfl rfl k124 k96 (tokAt hs 29 (by kernel_rfl))
  obtain ⟨k132, e30⟩ := subT h' (a := (Q4 ρ 68)) (b := (Q4 ρ 128)) (r := (Q4 ρ 132)) rfl rfl rfl k68 k128 (tokAt hs 30 (by kernel_rfl))
  obtain ⟨k136, e31⟩ := mulT h' (a := (Q4 ρ 124)) (b := (Q4 ρ 16)) (r := (Q4 ρ 136)) rfl rfl rfl k124 k16 (tokAt hs 31 (by kernel_rfl))
  obtain ⟨k140, e32⟩ := addT h' (a := (Q4 ρ 136)) (b := (Q4 ρ 136)) (r := (Q4 ρ 140)) rfl rfl rfl k136 k136 (tokAt hs 32 (by kernel_rfl))
  obtain ⟨k144, e33⟩ := addT h' (a := (Q4 ρ 140)) (b := (Q4 ρ 140)) (r := (Q4 ρ 144)) rfl rfl rfl k140 k140 (tokAt hs 33 (by kernel_rfl))
  refine ⟨⟨k132, k116, k144⟩, ?_⟩
  rw [dv_bL] at e7 e17
  simp only [dbI, dblT, OF, <- e0, <- e1, <- e2, <- e3, <- e4, <- e5, <- e6, <- e7, <- e8, <- e9, <- e10, <- e11, <- e12, <- e13, <- e14, <- e15, <- e16, <- e17, <- e18, <- e19, <- e20, <- e21, <- e22, <- e23, <- e24, <- e25, <- e26, <- e27, <- e28, <- e29, <- e30, <- e31, <- e32, <- e33]
theorem dblQ_ok (h : FK X) : SpecOK Tryz.prog X 144 dblQS.spec := fn_sum (ED_ok h.toFJ) dblQ_chk (one_ds (dblQ_end h))
theorem setP_chk : chkFn (execCall ED 3000 142 setPS.args setPS.start) setPS [(0, ⟨[], [], [], []⟩)] = true := by kernel_rfl
theorem setP_ok (h : FK X) : SpecOK Tryz.prog X 142 setPS.spec := fn_sum (ED_ok h.toFJ) setP_chk (none_end rfl rfl)
def selPLk : Look := ⟨vars 25 12, [], [.ext 66 (vars 0 4 ++ vars 12 4 ++ vars 24 5), .ext 66 (vars 4 4 ++ vars 16 4 ++ [.var 24] ++ vars 29 4), .ext 66 (vars 8 4 ++ vars 20 4 ++ [.var 24] ++ vars 33 4)], []⟩
theorem selP_chk : chkFn (execCall ED 3000 158 selPS.args selPS.start) selPS [(0, selPLk)] = true := by kernel_rfl
theorem selzT (h : FJ X) {a b r : List Int} {c : Int} (ha : a.length = 4) (hb : b.length = 4) (hr : r.length = 4) (t : X 66 (a ++ b ++ [c] ++ r)) : r = if c = 1 then b else a := by
  obtain ⟨ρ, rfl⟩ := of4 ha
  obtain ⟨σ, rfl⟩ := of4 hb
  obtain ⟨τ, rfl⟩ := of4 hr
  exact Eq.mp (by kernel_rfl) ((h.selz _).1 t)
theorem selP_end (h : FK X) : EndP X selPS 0 selPLk := by
  refine endP_of _ 72 _ rfl rfl (fun ρ => [ρ 24] ++ (Q4 ρ 12 ++ Q4 ρ 16 ++ Q4 ρ 20) ++ (Q4 ρ 0 ++ Q4 ρ 4 ++ Q4 ρ 8) ++ (Q4 ρ 25 ++ Q4 ρ 29 ++ Q4 ρ 33)) (fun ρ => by kernel_rfl) fun ρ hs => (h.selPt _).2 ?_
  refine Eq.mp (by kernel_rfl : ((Q4 ρ 25 ++ Q4 ρ 29 ++ Q4 ρ 33) = if ρ 24 = 1 then (Q4 ρ 12 ++ Q4 ρ 16 ++ Q4 ρ 20) else (Q4 ρ 0 ++ Q4 ρ 4 ++ Q4 ρ 8)) = _) ?_
  have t0 := selzT h.toFJ (a := Q4 ρ 0) (b := Q4 ρ 12) (r := Q4 ρ 25) (c := ρ 24) rfl rfl rfl (tokAt hs 0 (by kernel_rfl))
  have t1 := selzT h.toFJ (a := Q4 ρ 4) (b := Q4 ρ 16) (r := Q4 ρ 29) (c := ρ 24) rfl rfl rfl (tokAt hs 1 (by kernel_rfl))
  have t2 := selzT h.toFJ (a := Q4 ρ 8) (b := Q4 ρ 20) (r := Q4 ρ 33) (c := ρ 24) rfl rfl rfl (tokAt hs 2 (by kernel_rfl))
  rw [t0, t1, t2]
  split <;> rfl
theorem selP_ok (h : FK X) : SpecOK Tryz.prog X 158 selPS.spec := fn_sum (ED_ok h.toFJ) selP_chk (one_ds (selP_end h))
def ctEqLk (r : Bool) : Look := ⟨[.const (if r then 1 else 0)], [], [.test (.cmp .eql (.var 0) (.var 1)) r], []⟩
theorem ctEq_chk : chkFn (execCall ED 3000 157 ctEqS.args ctEqS.start) ctEqS [(0, ctEqLk true), (0, ctEqLk false)] = true := by kernel_rfl
theorem ctEq_end (h : FK X) (r : Bool) : EndP X ctEqS 0 (ctEqLk r) := by
  refine endP_of _ 73 _ rfl rfl (fun ρ => [ρ 0, ρ 1, if r then 1 else 0]) (fun ρ => by cases r <;> kernel_rfl) fun ρ hs => (h.ctEq _).2 ?_
  have ht : (BE.cmp .eql (.var 0) (.var 1)).eval ρ = r := testAt hs 0 rfl
  show ((if r then (1 : Int) else 0) = 0 \/ (if r then (1 : Int) else 0) = 1) /\ ((if r then (1 : Int) else 0) = 1 ↔ ρ 0 = ρ 1)
  have e : ρ 0 = ρ 1 ↔ r = true := by rw [<- ht]; simp [BE.eval, intCmp, IE.eval]
  rw [e]
  cases r <;> simp
theorem ctEq_ok (h : FK X) : SpecOK Tryz.prog X 157 ctEqS.spec := fn_sum (ED_ok h.toFJ) ctEq_chk fun d hd => by
  simp only [List.mem_cons, List.not_mem_nil, or_false] at hd
  rcases hd with rfl | rfl
  · exact ctEq_end h true
  · exact ctEq_end h false
def specE (f : FuncId) : Option (Fs) :=
  match f with
  | 129 => some (orSp addPS.spec addQS.spec) | 144 => some (orSp dblPS.spec dblQS.spec) | 142 => some setPS.spec | 158 => some selPS.spec | 157 => some ctEqS.spec
  | f => specD f
theorem specE_ok (h : FK X) : ∀ f sp, specE f = some sp -> FnOK Tryz.prog f /\ SpecOK Tryz.prog X f sp := fun f sp hs => by
  unfold specE at hs
  split at hs
  · simp only [Option.some.injEq] at hs; subst hs; exact ⟨fn_ok Tryz.func129 (by kernel_rfl) (by kernel_rfl), (addP_ok h).or (addQ_ok h)⟩
  · simp only [Option.some.injEq] at hs; subst hs; exact ⟨fn_ok Tryz.func144 (by kernel_rfl) (by kernel_rfl), (dblP_ok h).or (dblQ_ok h)⟩
  · simp only [Option.some.injEq] at hs; subst hs; exact ⟨fn_ok Tryz.func142 (by kernel_rfl) (by kernel_rfl), setP_ok h⟩
  · simp only [Option.some.injEq] at hs; subst hs; exact ⟨fn_ok Tryz.func158 (by kernel_rfl) (by kernel_rfl), selP_ok h⟩
  · simp only [Option.some.injEq] at hs; subst hs; exact ⟨fn_ok Tryz.func157 (by kernel_rfl) (by kernel_rfl), ctEq_ok h⟩
  · exact specD_ok h.toFJ f sp hs
def EE : Env := mkEnv Tryz.prog tyTree fnTree ext0 specE
theorem EE_ok (h : FK X) : EnvOK Tryz.prog X EE := mkEnv_ok mixed_ok tys_ok fns_ok names_ok ext0_ok (specE_ok h)
def tselLk : Look := ⟨vars 376 12, [(192, (0, 15))], [.ext 73 ([.const 1] ++ vars 192 2),
    .ext 72 ([.var 193] ++ vars 12 12 ++ [.const 0, .const 0, .const 0, .const 0, .const 18446744069414584320, .const 18446744073709551615, .const 0, .const 0, .const 0, .const 0, .const 0, .const 0] ++ vars 194 12),
    .ext 73 ([.const 2, .var 192, .var 206]),
    .ext 72 ([.var 206] ++ vars 24 12 ++ vars 194 12 ++ vars 207 12),
    .ext 73 ([.const 3, .var 192, .var 219]),
    .ext 72 ([.var 219] ++ vars 36 12 ++ vars 207 12 ++ vars 220 12),
    .ext 73 ([.const 4, .var 192, .var 232]),
    .ext 72 ([.var 232] ++ vars 48 12 ++ vars 220 12 ++ vars 233 12),
    .ext 73 ([.const 5, .var 192, .var 245]),
    .ext 72 ([.var 245] ++ vars 60 12 ++ vars 233 12 ++ vars 246 12),
    .ext 73 ([.const 6, .var 192, .var 258]),
    .ext 72 ([.var 258] ++ vars 72 12 ++ vars 246 12 ++ vars 259 12),
    .ext 73 ([.const 7, .var 192, .var 271]),
    .ext 72 ([.var 271] ++ vars 84 12 ++ vars 259 12 ++ vars 272 12),
    .ext 73 ([.const 8, .var 192, .var 284]),
    .ext 72 ([.var 284] ++ vars 96 12 ++ vars 272 12 ++ vars 285 12),
    .ext 73 ([.const 9, .var 192, .var 297]),
    .ext 72 ([.var 297] ++ vars 108 12 ++ vars 285 12 ++ vars 298 12),
    .ext 73 ([.const 10, .var 192, .var 310]),
    .ext 72 ([.var 310] ++ vars 120 12 ++ vars 298 12 ++ vars 311 12),
    .ext 73 ([.const 11, .var 192, .var 323]),
    .ext 72 ([.var 323] ++ vars 132 12 ++ vars 311 12 ++ vars 324 12),
    .ext 73 ([.const 12, .var 192, .var 336]),
    .ext 72 ([.var 336] ++ vars 144 12 ++ vars 324 12 ++ vars 337 12),
    .ext 73 ([.const 13, .var 192, .var 349]),
    .ext 72 ([.var 349] ++ vars 156 12 ++ vars 337 12 ++ vars 350 12),
    .ext 73 ([.const 14, .var 192, .var 362]),
    .ext 72 ([.var 362] ++ vars 168 12 ++ vars 350 12 ++ vars 363 12),
    .ext 73 ([.const 15, .var 192, .var 375]),
    .ext 72 ([.var 375] ++ vars 180 12 ++ vars 363 12 ++ vars 376 12)], []⟩
theorem tsel_chk : chkFn (execCall EE 3000 143 tselS.args tselS.start) tselS [(0, tselLk)] = true := by kernel_rfl
def Q12 (ρ : Nat -> Int) (i : Nat) : List Int := [ρ i, ρ (i + 1), ρ (i + 2), ρ (i + 3), ρ (i + 4), ρ (i + 5), ρ (i + 6), ρ (i + 7), ρ (i + 8), ρ (i + 9), ρ (i + 10), ρ (i + 11)]
theorem of12 {a : List Int} (h : a.length = 12) : ∃ ρ, a = Q12 ρ 0 := ⟨fun i => nth a i, by
  match a, h with
  | [_, _, _, _, _, _, _, _, _, _, _, _], _ => rfl⟩
theorem selPT (h : FK X) {a b r : List Int} {c : Int} (ha : a.length = 12) (hb : b.length = 12) (hr : r.length = 12) (t : X 72 ([c] ++ a ++ b ++ r)) : r = if c = 1 then a else b := by
  obtain ⟨ρ, rfl⟩ := of12 ha
  obtain ⟨σ, rfl⟩ := of12 hb
  obtain ⟨τ, rfl⟩ := of12 hr
  exact Eq.mp (by kernel_rfl) ((h.selPt _).1 t)
theorem ctEqT (h : FK X) {a b c : Int} (t : X 73 [a, b, c]) : (c = 0 \/ c = 1) /\ (c = 1 ↔ a = b) := Eq.mp (by kernel_rfl) ((h.ctEq _).1 t)
theorem tsel_end (h : FK X) : EndP X tselS 0 tselLk := by
  refine endP_of _ 74 _ rfl rfl (fun ρ => [ρ 192] ++ (List.range 180).map (fun j => ρ (12 + j)) ++ Q12 ρ 376) (fun ρ => by kernel_rfl) fun ρ hs => (h.tsel _).2 ?_
  refine Eq.mp (by kernel_rfl : (Q12 ρ 376 = tabAt ((List.range 180).map fun j => ρ (12 + j)) (ρ 192).toNat) = _) ?_
  have hb : 0 <= ρ 192 /\ ρ 192 <= 15 := hs.bds (192, (0, 15)) (by simp [tselLk])
  have c1 := ctEqT h (a := 1) (b := ρ 192) (c := ρ 193) (tokAt hs 0 (by kernel_rfl))
  have s1 := selPT h (a := Q12 ρ 12) (b := farL) (r := Q12 ρ 194) (c := ρ 193) rfl rfl rfl (tokAt hs 1 (by kernel_rfl))
  have c2 := ctEqT h (a := 2) (b := ρ 192) (c := ρ 206) (tokAt hs 2 (by kernel_rfl))
  have s2 := selPT h (a := Q12 ρ 24) (b := Q12 ρ 194) (r := Q12 ρ 207) (c := ρ 206) rfl rfl rfl (tokAt hs 3 (by kernel_rfl))
  have c3 := ctEqT h (a := 3) (b := ρ 192) (c := ρ 219) (tokAt hs 4 (by kernel_rfl))
  have s3 := selPT h (a := Q12 ρ 36) (b := Q12 ρ 207) (r := Q12 ρ 220) (c := ρ 219) rfl rfl rfl (tokAt hs 5 (by kernel_rfl))
  have c4 := ctEqT h (a := 4) (b := ρ 192) (c := ρ 232) (tokAt hs 6 (by kernel_rfl))
  have s4 := selPT h (a := Q12 ρ 48) (b := Q12 ρ 220) (r := Q12 ρ 233) (c := ρ 232) rfl rfl rfl (tokAt hs 7 (by kernel_rfl))
  have c5 := ctEqT h (a := 5) (b := ρ 192) (c := ρ 245) (tokAt hs 8 (by kernel_rfl))
  have s5 := selPT h (a := Q12 ρ 60) (b := Q12 ρ 233) (r := Q12 ρ 246) (c := ρ 245) rfl rfl rfl (tokAt hs 9 (by kernel_rfl))
  have c6 := ctEqT h (a := 6) (b := ρ 192) (c := ρ 258) (tokAt hs 10 (by kernel_rfl))
  have s6 := selPT h (a := Q12 ρ 72) (b := Q12 ρ 246) (r := Q12 ρ 259) (c := ρ 258) rfl rfl rfl (tokAt hs 11 (by kernel_rfl))
  have c7 := ctEqT h (a := 7) (b := ρ 192) (c := ρ 271) (tokAt hs 12 (by kernel_rfl))
  have s7 := selPT h (a := Q12 ρ 84) (b := Q12 ρ 259) (r := Q12 ρ 272) (c := ρ 271) rfl rfl rfl (tokAt hs 13 (by kernel_rfl))
  have c8 := ctEqT h (a := 8) (b := ρ 192) (c := ρ 284) (tokAt hs 14 (by kernel_rfl))
  have s8 := selPT h (a := Q12 ρ 96) (b := Q12 ρ 272) (r := Q12 ρ 285) (c := ρ 284) rfl rfl rfl (tokAt hs 15 (by kernel_rfl))
  have c9 := ctEqT h (a := 9) (b := ρ 192) (c := ρ 297) (tokAt hs 16 (by kernel_rfl))
  have s9 := selPT h (a := Q12 ρ 108) (b := Q12 ρ 285) (r := Q12 ρ 298) (c := ρ 297) rfl rfl rfl (tokAt hs 17 (by kernel_rfl))
  have c10 := ctEqT h (a := 10) (b := ρ 192) (c := ρ 310) (tokAt hs 18 (by kernel_rfl))
  have s10 := selPT h (a := Q12 ρ 120) (b := Q12 ρ 298) (r := Q12 ρ 311) (c := ρ 310) rfl rfl rfl (tokAt hs 19 (by kernel_rfl))
  have c11 := ctEqT h (a := 11) (b := ρ 192) (c := ρ 323) (tokAt hs 20 (by kernel_rfl))
  have s11 := selPT h (a := Q12 ρ 132) (b := Q12 ρ 311) (r := Q12 ρ 324) (c := ρ 323) rfl rfl rfl (tokAt hs 21 (by kernel_rfl))
  have c12 := ctEqT h (a := 12) (b := ρ 192) (c := ρ 336) (tokAt hs 22 (by kernel_rfl))
  have s12 := selPT h (a := Q12 ρ 144) (b := Q12 ρ 324) (r := Q12 ρ 337) (c := ρ 336) rfl rfl rfl (tokAt hs 23 (by kernel_rfl))
  have c13 := ctEqT h (a := 13) (b := ρ 192) (c := ρ 349) (tokAt hs 24 (by kernel_rfl))
  have s13 := selPT h (a := Q12 ρ 156) (b := Q12 ρ 337) (r := Q12 ρ 350) (c := ρ 349) rfl rfl rfl (tokAt hs 25 (by kernel_rfl))
  have c14 := ctEqT h (a := 14) (b := ρ 192) (c := ρ 362) (tokAt hs 26 (by kernel_rfl))
  have s14 := selPT h (a := Q12 ρ 168) (b := Q12 ρ 350) (r := Q12 ρ 363) (c := ρ 362) rfl rfl rfl (tokAt hs 27 (by kernel_rfl))
  have c15 := ctEqT h (a := 15) (b := ρ 192) (c := ρ 375) (tokAt hs 28 (by kernel_rfl))
  have s15 := selPT h (a := Q12 ρ 180) (b := Q12 ρ 363) (r := Q12 ρ 376) (c := ρ 375) rfl rfl rfl (tokAt hs 29 (by kernel_rfl))
  have hn : ρ 192 = 0 \/ ρ 192 = 1 \/ ρ 192 = 2 \/ ρ 192 = 3 \/ ρ 192 = 4 \/ ρ 192 = 5 \/ ρ 192 = 6 \/ ρ 192 = 7 \/ ρ 192 = 8 \/ ρ 192 = 9 \/ ρ 192 = 10 \/ ρ 192 = 11 \/ ρ 192 = 12 \/ ρ 192 = 13 \/ ρ 192 = 14 \/ ρ 192 = 15 := by omega
  rcases hn with e | e | e | e | e | e | e | e | e | e | e | e | e | e | e | e
  · rw [e] at c1 c2 c3 c4 c5 c6 c7 c8 c9 c10 c11 c12 c13 c14 c15
    rw [e, s15, if_neg (fun q => absurd (c15.2.1 q) (by decide)), s14, if_neg (fun q => absurd (c14.2.1 q) (by decide)), s13, if_neg (fun q => absurd (c13.2.1 q) (by decide)), s12, if_neg (fun q => absurd (c12.2.1 q) (by decide)), s11, if_neg (fun q => absurd (c11.2.1 q) (by decide)), s10, if_neg (fun q => absurd (c10.2.1 q) (by decide)), s9, if_neg (fun q => absurd (c9.2.1 q) (by decide)), s8, if_neg (fun q => absurd (c8.2.1 q) (by decide)), s7, if_neg (fun q => absurd (c7.2.1 q) (by decide)), s6, if_neg (fun q => absurd (c6.2.1 q) (by decide)), s5, if_neg (fun q => absurd (c5.2.1 q) (by decide)), s4, if_neg (fun q => absurd (c4.2.1 q) (by decide)), s3, if_neg (fun q => absurd (c3.2.1 q) (by decide)), s2, if_neg (fun q => absurd (c2.2.1 q) (by decide)), s1, if_neg (fun q => absurd (c1.2.1 q) (by decide))]
    rfl
  · rw [e] at c1 c2 c3 c4 c5 c6 c7 c8 c9 c10 c11 c12 c13 c14 c15
    rw [e, s15, if_neg (fun q => absurd (c15.2.1 q) (by decide)), s14, if_neg (fun q => absurd (c14.2.1 q) (by decide)), s13, if_neg (fun q => absurd (c13.2.1 q) (by decide)), s12, if_neg (fun q => absurd (c12.2.1 q) (by decide)), s11, if_neg (fun q => absurd (c11.2.1 q) (by decide)), s10, if_neg (fun q => absurd (c10.2.1 q) (by decide)), s9, if_neg (fun q => absurd (c9.2.1 q) (by decide)), s8, if_neg (fun q => absurd (c8.2.1 q) (by decide)), s7, if_neg (fun q => absurd (c7.2.1 q) (by decide)), s6, if_neg (fun q => absurd (c6.2.1 q) (by decide)), s5, if_neg (fun q => absurd (c5.2.1 q) (by decide)), s4, if_neg (fun q => absurd (c4.2.1 q) (by decide)), s3, if_neg (fun q => absurd (c3.2.1 q) (by decide)), s2, if_neg (fun q => absurd (c2.2.1 q) (by decide)), s1, if_pos (c1.2.2 rfl)]
    exact (by kernel_rfl : Q12 ρ 12 = tabAt ((List.range 180).map fun j => ρ (12 + j)) (1 : Int).toNat)
  · rw [e] at c1 c2 c3 c4 c5 c6 c7 c8 c9 c10 c11 c12 c13 c14 c15
    rw [e, s15, if_neg (fun q => absurd (c15.2.1 q) (by decide)), s14, if_neg (fun q => absurd (c14.2.1 q) (by decide)), s13, if_neg (fun q => absurd (c13.2.1 q) (by decide)), s12, if_neg (fun q => absurd (c12.2.1 q) (by decide)), s11, if_neg (fun q => absurd (c11.2.1 q) (by decide)), s10, if_neg (fun q => absurd (c10.2.1 q) (by decide)), s9, if_neg (fun q => absurd (c9.2.1 q) (by decide)), s8, if_neg (fun q => absurd (c8.2.1 q) (by decide)), s7, if_neg (fun q => absurd (c7.2.1 q) (by decide)), s6, if_neg (fun q => absurd (c6.2.1 q) (by decide)), s5, if_neg (fun q => absurd (c5.2.1 q) (by decide)), s4, if_neg (fun q => absurd (c4.2.1 q) (by decide)), s3, if_neg (fun q => absurd (c3.2.1 q) (by decide)), s2, if_pos (c2.2.2 rfl)]
    exact (by kernel_rfl : Q12 ρ 24 = tabAt ((List.range 180).map fun j => ρ (12 + j)) (2 : Int).toNat)
  · rw [e] at c1 c2 c3 c4 c5 c6 c7 c8 c9 c10 c11 c12 c13 c14 c15
    rw [e, s15, if_neg (fun q => absurd (c15.2.1 q) (by decide)), s14, if_neg (fun q => absurd (c14.2.1 q) (by decide)), s13, if_neg (fun q => absurd (c13.2.1 q) (by decide)), s12, if_neg (fun q => absurd (c12.2.1 q) (by decide)), s11, if_neg (fun q => absurd (c11.2.1 q) (by decide)), s10, if_neg (fun q => absurd (c10.2.1 q) (by decide)), s9, if_neg (fun q => absurd (c9.2.1 q) (by decide)), s8, if_neg (fun q => absurd (c8.2.1 q) (by decide)), s7, if_neg (fun q => absurd (c7.2.1 q) (by decide)), s6, if_neg (fun q => absurd (c6.2.1 q) (by decide)), s5, if_neg (fun q => absurd (c5.2.1 q) (by decide)), s4, if_neg (fun q => absurd (c4.2.1 q) (by decide)), s3, if_pos (c3.2.2 rfl)]
    exact (by kernel_rfl : Q12 ρ 36 = tabAt ((List.range 180).map fun j => ρ (12 + j)) (3 : Int).toNat)
  · rw [e] at c1 c2 c3 c4 c5 c6 c7 c8 c9 c10 c11 c12 c13 c14 c15
    rw [e, s15, if_neg (fun q => absurd (c15.2.1 q) (by decide)), s14, if_neg (fun q => absurd (c14.2.1 q) (by decide)), s13, if_neg (fun q => absurd (c13.2.1 q) (by decide)), s12, if_neg (fun q => absurd (c12.2.1 q) (by decide)), s11, if_neg (fun q => absurd (c11.2.1 q) (by decide)), s10, if_neg (fun q => absurd (c10.2.1 q) (by decide)), s9, if_neg (fun q => absurd (c9.2.1 q) (by decide)), s8, if_neg (fun q => absurd (c8.2.1 q) (by decide)), s7, if_neg (fun q => absurd (c7.2.1 q) (by decide)), s6, if_neg (fun q => absurd (c6.2.1 q) (by decide)), s5, if_neg (fun q => absurd (c5.2.1 q) (by decide)), s4, if_pos (c4.2.2 rfl)]
    exact (by kernel_rfl : Q12 ρ 48 = tabAt ((List.range 180).map fun j => ρ (12 + j)) (4 : Int).toNat)
  · rw [e] at c1 c2 c3 c4 c5 c6 c7 c8 c9 c10 c11 c12 c13 c14 c15
    rw [e, s15, if_neg (fun q => absurd (c15.2.1 q) (by decide)), s14, if_neg (fun q => absurd (c14.2.1 q) (by decide)), s13, if_neg (fun q => absurd (c13.2.1 q) (by decide)), s12, if_neg (fun q => absurd (c12.2.1 q) (by decide)), s11, if_neg (fun q => absurd (c11.2.1 q) (by decide)), s10, if_neg (fun q => absurd (c10.2.1 q) (by decide)), s9, if_neg (fun q => absurd (c9.2.1 q) (by decide)), s8, if_neg (fun q => absurd (c8.2.1 q) (by decide)), s7, if_neg (fun q => absurd (c7.2.1 q) (by decide)), s6, if_neg (fun q => absurd (c6.2.1 q) (by decide)), s5, if_pos (c5.2.2 rfl)]
    exact (by kernel_rfl : Q12 ρ 60 = tabAt ((List.range 180).map fun j => ρ (12 + j)) (5 : Int).toNat)
  · rw [e] at c1 c2 c3 c4 c5 c6 c7 c8 c9 c10 c11 c12 c13 c14 c15
    rw [e, s15, if_neg (fun q => absurd (c15.2.1 q) (by decide)), s14, if_neg (fun q => absurd (c14.2.1 q) (by decide)), s13, if_neg (fun q => absurd (c13.2.1 q) (by decide)), s12, if_neg (fun q => absurd (c12.2.1 q) (by decide)), s11, if_neg (fun q => absurd (c11.2.1 q) (by decide)), s10, if_neg (fun q => absurd (c10.2.1 q) (by decide)), s9, if_neg (fun q => absurd (c9.2.1 q) (by decide)), s8, if_neg (fun q => absurd (c8.2.1 q) (by decide)), s7, if_neg (fun q => absurd (c7.2.1 q) (by decide)), s6, if_pos (c6.2.2 rfl)]
    exact (by kernel_rfl : Q12 ρ 72 = tabAt ((List.range 180).map fun j => ρ (12 + j)) (6 : Int).toNat)
  · rw [e] at c1 c2 c3 c4 c5 c6 c7 c8 c9 c10 c11 c12 c13 c14 c15
    rw [e, s15, if_neg (fun q => absurd (c15.2.1 q) (by decide)), s14, if_neg (fun q => absurd (c14.2.1 q) (by decide)), s13, if_neg (fun q => absurd (c13.2.1 q) (by decide)), s12, if_neg (fun q => absurd (c12.2.1 q) (by decide)), s11, if_neg (fun q => absurd (c11.2.1 q) (by decide)), s10, if_neg (fun q => absurd (c10.2.1 q) (by decide)), s9, if_neg (fun q => absurd (c9.2.1 q) (by decide)), s8, if_neg (fun q => absurd (c8.2.1 q) (by decide)), s7, if_pos (c7.2.2 rfl)]
    exact (by kernel_rfl : Q12 ρ 84 = tabAt ((List.range 180).map fun j => ρ (12 + j)) (7 : Int).toNat)
  · rw [e] at c1 c2 c3 c4 c5 c6 c7 c8 c9 c10 c11 c12 c13 c14 c15
    rw [e, s15, if_neg (fun q => absurd (c15.2.1 q) (by decide)), s14, if_neg (fun q => absurd (c14.2.1 q) (by decide)), s13, if_neg (fun q => absurd (c13.2.1 q) (by decide)), s12, if_neg (fun q => absurd (c12.2.1 q) (by decide)), s11, if_neg (fun q => absurd (c11.2.1 q) (by decide)), s10, if_neg (fun q => absurd (c10.2.1 q) (by decide)), s9, if_neg (fun q => absurd (c9.2.1 q) (by decide)), s8, if_pos (c8.2.2 rfl)]
    exact (by kernel_rfl : Q12 ρ 96 = tabAt ((List.range 180).map fun j => ρ (12 + j)) (8 : Int).toNat)
  · rw [e] at c1 c2 c3 c4 c5 c6 c7 c8 c9 c10 c11 c12 c13 c14 c15
    rw [e, s15, if_neg (fun q => absurd (c15.2.1 q) (by decide)), s14, if_neg (fun q => absurd (c14.2.1 q) (by decide)), s13, if_neg (fun q => absurd (c13.2.1 q) (by decide)), s12, if_neg (fun q => absurd (c12.2.1 q) (by decide)), s11, if_neg (fun q => absurd (c11.2.1 q) (by decide)), s10, if_neg (fun q => absurd (c10.2.1 q) (by decide)), s9, if_pos (c9.2.2 rfl)]
    exact (by kernel_rfl : Q12 ρ 108 = tabAt ((List.range 180).map fun j => ρ (12 + j)) (9 : Int).toNat)
  · rw [e] at c1 c2 c3 c4 c5 c6 c7 c8 c9 c10 c11 c12 c13 c14 c15
    rw [e, s15, if_neg (fun q => absurd (c15.2.1 q) (by decide)), s14, if_neg (fun q => absurd (c14.2.1 q) (by decide)), s13, if_neg (fun q => absurd (c13.2.1 q) (by decide)), s12, if_neg (fun q => absurd (c12.2.1 q) (by decide)), s11, if_neg (fun q => absurd (c11.2.1 q) (by decide)), s10, if_pos (c10.2.2 rfl)]
    exact (by kernel_rfl : Q12 ρ 120 = tabAt ((List.range 180).map fun j => ρ (12 + j)) (10 : Int).toNat)
  · rw [e] at c1 c2 c3 c4 c5 c6 c7 c8 c9 c10 c11 c12 c13 c14 c15
    rw [e, s15, if_neg (fun q => absurd (c15.2.1 q) (by decide)), s14, if_neg (fun q => absurd (c14.2.1 q) (by decide)), s13, if_neg (fun q => absurd (c13.2.1 q) (by decide)), s12, if_neg (fun q => absurd (c12.2.1 q) (by decide)), s11, if_pos (c11.2.2 rfl)]
    exact (by kernel_rfl : Q12 ρ 132 = tabAt ((List.range 180).map fun j => ρ (12 + j)) (11 : Int).toNat)
  · rw [e] at c1 c2 c3 c4 c5 c6 c7 c8 c9 c10 c11 c12 c13 c14 c15
    rw [e, s15, if_neg (fun q => absurd (c15.2.1 q) (by decide)), s14, if_neg (fun q => absurd (c14.2.1 q) (by decide)), s13, if_neg (fun q => absurd (c13.2.1 q) (by decide)), s12, if_pos (c12.2.2 rfl)]
    exact (by kernel_rfl : Q12 ρ 144 = tabAt ((List.range 180).map fun j => ρ (12 + j)) (12 : Int).toNat)
  · rw [e] at c1 c2 c3 c4 c5 c6 c7 c8 c9 c10 c11 c12 c13 c14 c15
    rw [e, s15, if_neg (fun q => absurd (c15.2.1 q) (by decide)), s14, if_neg (fun q => absurd (c14.2.1 q) (by decide)), s13, if_pos (c13.2.2 rfl)]
    exact (by kernel_rfl : Q12 ρ 156 = tabAt ((List.range 180).map fun j => ρ (12 + j)) (13 : Int).toNat)
  · rw [e] at c1 c2 c3 c4 c5 c6 c7 c8 c9 c10 c11 c12 c13 c14 c15
    rw [e, s15, if_neg (fun q => absurd (c15.2.1 q) (by decide)), s14, if_pos (c14.2.2 rfl)]
    exact (by kernel_rfl : Q12 ρ 168 = tabAt ((List.range 180).map fun j => ρ (12 + j)) (14 : Int).toNat)
  · rw [e] at c1 c2 c3 c4 c5 c6 c7 c8 c9 c10 c11 c12 c13 c14 c15
    rw [e, s15, if_pos (c15.2.2 rfl)]
    exact (by kernel_rfl : Q12 ρ 180 = tabAt ((List.range 180).map fun j => ρ (12 + j)) (15 : Int).toNat)
theorem tsel_ok (h : FK X) : SpecOK Tryz.prog X 143 tselS.spec := fn_sum (EE_ok h) tsel_chk (one_ds (tsel_end h))
def specF' (f : FuncId) : Option (Fs) := match f with | 143 => some tselS.spec | f => specE f
theorem specF'_ok (h : FK X) : ∀ f sp, specF' f = some sp -> FnOK Tryz.prog f /\ SpecOK Tryz.prog X f sp := fun f sp hs => by
  unfold specF' at hs
  split at hs
  · simp only [Option.some.injEq] at hs; subst hs; exact ⟨fn_ok Tryz.func143 (by kernel_rfl) (by kernel_rfl), tsel_ok h⟩
  · exact specE_ok h f sp hs
def EF' : Env := mkEnv Tryz.prog tyTree fnTree ext0 specF'
theorem EF'_ok (h : FK X) : EnvOK Tryz.prog X EF' := mkEnv_ok mixed_ok tys_ok fns_ok names_ok ext0_ok (specF'_ok h)
end Go.Proofs.YtmogojlijkddpaaGreat
namespace Go.Vm
def tabB (c : Nat) : Blk := ⟨182, (List.range 15).map (fun j => .ptr (c + j) 0), true⟩
def smL : CSm :=
  { core := { bd := List.replicate 204 W64 ++ [(0, 28)] ++ List.replicate 28 (0, 255), args := [.ptr 0 0, .ptr 1 0, .ptr 2 0, .view 3 0 28, .int .i64 (.const 28), .int .i64 (.var 204)],
              mem := [nP 4, tabB 10, nP 7, ⟨5, bytV 205 28, false⟩] ++ ptBs 0 ++ ptBs 12 ++ tabPs 25 ++ tabEs 24, al := [],
              outs := [{ nbd := List.replicate 24 W64, val := .tup [.ptr 0 0], writes := el3 4 233 ++ el3 7 245, news := [], post := [(75, vars 0 12 ++ vars 24 209 ++ vars 233 12)] }] },
    nt := 112, tin := [0, 8, 10, 59, 60, 61], kinds := [(.exit 2, [0])] }
def smS : Sm := { bd := List.replicate 12 W64 ++ List.replicate 28 (0, 255), args := [.ptr 0 0, .ptr 0 0, .view 1 0 28], mem := [nP 2, ⟨5, bytV 12 28, false⟩] ++ ptBs 0, al := [], outs := [{ nbd := List.replicate 12 W64, val := .tup [.ptr 0 0, .val .nilIface], writes := el3 2 40, news := [], post := [(76, vars 0 52)] }] }
open Go.Proofs.YtmogojlijkddpaaGreat (Q12 of12)
def stepI (S : Nat -> P3) (f : Bool) (k : Nat) (P : P3) : P3 :=
  let P := if f then P else dbI (dbI (dbI (dbI P)))
  let P := adI P (S (k / 16))
  adI (dbI (dbI (dbI (dbI P)))) (S (k % 16))
def loopI (S : Nat -> P3) : List Int -> Bool -> P3 -> P3
  | [], _, P => P
  | k :: l, f, P => loopI S l false (stepI S f k.toNat P)
theorem loopI_cons (S : Nat -> P3) (k : Int) (l : List Int) (f : Bool) (P : P3) : loopI S (k :: l) f P = loopI S l false (stepI S f k.toNat P) := rfl
theorem stepI_true (S : Nat -> P3) (k : Nat) (P : P3) : stepI S true k P = adI (dbI (dbI (dbI (dbI (adI P (S (k / 16))))))) (S (k % 16)) := rfl
theorem stepI_false (S : Nat -> P3) (k : Nat) (P : P3) : stepI S false k P = adI (dbI (dbI (dbI (dbI (adI (dbI (dbI (dbI (dbI P)))) (S (k / 16))))))) (S (k % 16)) := rfl
def okT (T : List Int) : Prop := ∀ j, j < 15 -> okP ((T.drop (12 * j)).take 12)
def SmLP (l : List Int) : Prop := okP (l.take 12) -> okT ((l.drop 12).take 180) ->
  okP ((l.drop 221).take 12) /\ pt ((l.drop 221).take 12) = loopI (fun n => pt (tabAt ((l.drop 12).take 180) n)) (((l.drop 193).take 28).drop (nth l 192).toNat) (nth l 192 == 0) (pt (l.take 12))
def tabL (Q : P3) : List P3 :=
  let t2 := dbI Q
  let t3 := adI t2 Q
  let t4 := dbI t2
  let t5 := adI t4 Q
  let t6 := dbI t3
  let t7 := adI t6 Q
  let t8 := dbI t4
  let t9 := adI t8 Q
  let t10 := dbI t5
  let t11 := adI t10 Q
  let t12 := dbI t6
  let t13 := adI t12 Q
  let t14 := dbI t7
  [Q, t2, t3, t4, t5, t6, t7, t8, t9, t10, t11, t12, t13, t14, adI t14 Q]
def tabI (Q : P3) (n : Nat) : P3 := if n = 0 then farI else ((tabL Q)[n - 1]?).getD farI
def SmP (l : List Int) : Prop := okP (l.take 12) -> okP ((l.drop 40).take 12) /\ pt ((l.drop 40).take 12) = loopI (tabI (pt (l.take 12))) ((l.drop 12).take 28) true farI
structure FL (X : Tk) : Prop extends FK X where
  smL : ∀ l, X 75 l ↔ SmLP l
  sm : ∀ l, X 76 l ↔ SmP l
theorem shr4 (x : Int) : intBin .shr .u8 x 4 = x / 16 := by simp only [intBin, fdiv_pow]; rfl
theorem and15_all : ((List.range 256).all fun x => intBin .and .u8 (x : Int) 15 == (x : Int) % 16) = true := by kernel_rfl
theorem and15 {x : Int} (hx : 0 <= x /\ x <= 255) : intBin .and .u8 x 15 = x % 16 := by
  have h := List.all_eq_true.1 and15_all x.toNat (List.mem_range.2 (by omega))
  rw [Int.toNat_of_nonneg hx.1] at h
  exact beq_iff_eq.1 h
theorem loopI_congr {S S' : Nat -> P3} (h : ∀ n, n < 16 -> S n = S' n) : ∀ {l : List Int} (f : Bool) (P : P3), (∀ x ∈ l, byteOK x) -> loopI S l f P = loopI S' l f P
  | [], _, _, _ => rfl
  | k :: l, f, P, hl => by
    have hk := hl k (by simp)
    have e : stepI S f k.toNat P = stepI S' f k.toNat P := by
      unfold stepI
      rw [h (k.toNat / 16) (by unfold byteOK at hk; omega), h (k.toNat % 16) (by omega)]
    show loopI S l false (stepI S f k.toNat P) = loopI S' l false (stepI S' f k.toNat P)
    rw [e]
    exact loopI_congr h false _ fun x hx => hl x (by simp [hx])
def V180 (ρ : Nat -> Int) (i : Nat) : List Int := (List.range 180).map fun j => ρ (i + j)
theorem farL_ok : okP farL := ⟨⟨by decide, by decide⟩, ⟨by decide, by decide⟩, ⟨by decide, by decide⟩⟩
theorem pt_farL : pt farL = farI := by
  have h1 : dv farL = 0 := by
    have : wv4 farL = 0 := by decide
    unfold dv; rw [this, φ_zero]; exact fz2 _
  have h2 : dv (farL.drop 4) = 1 := dv_one
  have h3 : dv (farL.drop 8) = 0 := by
    have : wv4 (farL.drop 8) = 0 := by decide
    unfold dv; rw [this, φ_zero]; exact fz2 _
  unfold pt farI
  rw [h1, h2, h3]
theorem tabAt_ok {T : List Int} (h : okT T) {n : Nat} (hn : n < 16) : okP (tabAt T n) := by
  unfold tabAt
  split
  · exact farL_ok
  · exact h (n - 1) (by omega)
section
variable {X : Tk} {L : Look} {ρ : Nat -> Int}
theorem addPT (h : FK X) {a b r : List Int} (ha : a.length = 12) (hb : b.length = 12) (hr : r.length = 12) (oa : okP a) (ob : okP b) (t : X 70 (a ++ b ++ r)) : okP r /\ pt r = adI (pt a) (pt b) := by
  obtain ⟨ρ, rfl⟩ := of12 ha
  obtain ⟨σ, rfl⟩ := of12 hb
  obtain ⟨τ, rfl⟩ := of12 hr
  have t' : okP (Q12 ρ 0) -> okP (Q12 σ 0) -> okP (Q12 τ 0) /\ pt (Q12 τ 0) = adI (pt (Q12 ρ 0)) (pt (Q12 σ 0)) := Eq.mp (by kernel_rfl) ((h.addPt _).1 t)
  exact t' oa ob
theorem dblPT (h : FK X) {a r : List Int} (ha : a.length = 12) (hr : r.length = 12) (oa : okP a) (t : X 71 (a ++ r)) : okP r /\ pt r = dbI (pt a) := by
  obtain ⟨ρ, rfl⟩ := of12 ha
  obtain ⟨τ, rfl⟩ := of12 hr
  have t' : okP (Q12 ρ 0) -> okP (Q12 τ 0) /\ pt (Q12 τ 0) = dbI (pt (Q12 ρ 0)) := Eq.mp (by kernel_rfl) ((h.dblPt _).1 t)
  exact t' oa
theorem tselT (h : FK X) {n : Int} {i : Nat} {r : List Int} (hr : r.length = 12) (t : X 74 ([n] ++ V180 ρ i ++ r)) : r = tabAt (V180 ρ i) n.toNat := by
  obtain ⟨τ, rfl⟩ := of12 hr
  exact Eq.mp (by kernel_rfl) ((h.tsel _).1 t)
theorem smLT (h : FL X) {a b r : List Int} {i : Nat} {m : Int} (ha : a.length = 12) (hb : b.length = 28) (hr : r.length = 12) (oa : okP a) (oT : okT (V180 ρ i)) (t : X 75 (a ++ V180 ρ i ++ [m] ++ b ++ r)) :
    okP r /\ pt r = loopI (fun n => pt (tabAt (V180 ρ i) n)) (b.drop m.toNat) (m == 0) (pt a) := by
  obtain ⟨σ, rfl⟩ := of12 ha
  obtain ⟨κ, rfl⟩ := of28' hb
  obtain ⟨τ, rfl⟩ := of12 hr
  have t' : okP (Q12 σ 0) -> okT (V180 ρ i) -> okP (Q12 τ 0) /\ pt (Q12 τ 0) = loopI (fun n => pt (tabAt (V180 ρ i) n)) ((B28 κ 0).drop m.toNat) (m == 0) (pt (Q12 σ 0)) := Eq.mp (by kernel_rfl) ((h.smL _).1 t)
  exact t' oa oT
theorem B28_get (ρ : Nat -> Int) (i m : Nat) (h : m < 28) : (B28 ρ i)[m]? = some (ρ (i + m)) := by
  unfold B28
  rw [List.getElem?_map, List.getElem?_range h]
  rfl
theorem drop_cons {l : List Int} {m : Nat} {k : Int} (h : l[m]? = some k) : l.drop m = k :: l.drop (m + 1) := by
  have hm := (List.getElem?_eq_some_iff.1 h).1
  rw [List.drop_eq_getElem_cons hm]
  congr 1
  rw [List.getElem?_eq_getElem hm] at h
  exact Option.some.inj h
end
def smIn : List IE := vars 24 180
def smK1 : List Con := [.test (.cmp .lss (.var 204) (.const 28)) true, .eq 233 (pickE 204 205 0 27), .test (.cmp .neq (.var 204) (.const 0)) true,
  .ext 71 (vars 0 12 ++ vars 234 12), .ext 71 (vars 234 24), .ext 71 (vars 246 24), .ext 71 (vars 258 24), .eq 282 (.bin .shr .u8 (.var 233) (.const 4)), .ext 74 ([.var 282] ++ vars 24 180 ++ vars 283 12),
  .ext 70 (vars 270 12 ++ vars 283 24), .ext 71 (vars 295 24), .ext 71 (vars 307 24), .ext 71 (vars 319 24), .ext 71 (vars 331 24), .eq 355 (.bin .and .u8 (.var 233) (.const 15)), .ext 74 ([.var 355] ++ vars 24 180 ++ vars 356 12), .ext 70 (vars 343 12 ++ vars 356 24)]
def smK0 : List Con := [.test (.cmp .lss (.var 204) (.const 28)) true, .eq 233 (pickE 204 205 0 27), .test (.cmp .neq (.var 204) (.const 0)) false,
  .eq 234 (.bin .shr .u8 (.var 233) (.const 4)), .ext 74 ([.var 234] ++ vars 24 180 ++ vars 235 12), .ext 70 (vars 0 12 ++ vars 235 24), .ext 71 (vars 247 24), .ext 71 (vars 259 24), .ext 71 (vars 271 24), .ext 71 (vars 283 24),
  .eq 307 (.bin .and .u8 (.var 233) (.const 15)), .ext 74 ([.var 307] ++ vars 24 180 ++ vars 308 12), .ext 70 (vars 295 12 ++ vars 308 24)]
def smB (hi : Int) : List (Nat × Int × Int) := (List.range 28).map (fun i => (205 + i, ((0 : Int), (255 : Int)))) ++ [(204, (0, hi))]
def smDs : List RoundD := [
  .go (vars 368 12 ++ vars 356 12 ++ vars 24 180 ++ [.add (.var 204) (.const 1)] ++ vars 205 28) ⟨[], smB 27, [], []⟩ [(0, ⟨vars 380 24, smB 27, smK1 ++ [.ext 75 (vars 368 12 ++ vars 24 180 ++ [.add (.var 204) (.const 1)] ++ vars 205 28 ++ vars 380 12)], []⟩)],
  .go (vars 320 12 ++ vars 308 12 ++ vars 24 180 ++ [.add (.var 204) (.const 1)] ++ vars 205 28) ⟨[], smB 27, [], []⟩ [(0, ⟨vars 332 24, smB 27, smK0 ++ [.ext 75 (vars 320 12 ++ vars 24 180 ++ [.add (.var 204) (.const 1)] ++ vars 205 28 ++ vars 332 12)], []⟩)],
  .stop 0 ⟨vars 0 24, smB 28, [.test (.cmp .lss (.var 204) (.const 28)) false], []⟩]
section
variable {X : Tk}
theorem smB_bytes {hi : Int} {L : Look} {ρ : Nat -> Int} (hs : Seen X L ρ) (hb : L.bds = smB hi) : (∀ x ∈ B28 ρ 205, byteOK x) /\ 0 <= ρ 204 /\ ρ 204 <= hi :=
  ⟨B28_ok fun k hk => hs.bds (205 + k, (0, 255)) (by rw [hb]; exact List.mem_append_left _ (List.mem_map.2 ⟨k, List.mem_range.2 hk, rfl⟩)), hs.bds (204, (0, hi)) (by rw [hb]; exact List.mem_append_right _ (by simp))⟩
theorem smL_stop (h : FL X) : EndP X smL.core 0 ⟨vars 0 24, smB 28, [.test (.cmp .lss (.var 204) (.const 28)) false], []⟩ := by
  refine endP_of _ 75 _ rfl rfl (fun ρ => Q12 ρ 0 ++ V180 ρ 24 ++ [ρ 204] ++ B28 ρ 205 ++ Q12 ρ 0) (fun ρ => by kernel_rfl) fun ρ hs => (h.smL _).2 ?_
  obtain ⟨hB, h0, h1⟩ := smB_bytes hs rfl
  have ht : (BE.cmp .lss (.var 204) (.const 28)).eval ρ = false := testAt hs 0 rfl
  have ht' : ¬ ρ 204 < 28 := fun q => by
    have := (show decide (ρ 204 < 28) = false from ht)
    rw [decide_eq_true q] at this
    cases this
  refine Eq.mp (by kernel_rfl : (okP (Q12 ρ 0) -> okT (V180 ρ 24) -> okP (Q12 ρ 0) /\ pt (Q12 ρ 0) = loopI (fun n => pt (tabAt (V180 ρ 24) n)) ((B28 ρ 205).drop (ρ 204).toNat) (ρ 204 == 0) (pt (Q12 ρ 0))) = _) ?_
  intro oa _
  refine ⟨oa, ?_⟩
  rw [List.drop_eq_nil_of_le (by rw [B28_len]; omega), loopI]
theorem smL_step (h : FL X) {L : Look} {ρ : Nat -> Int} (hs : Seen X L ρ) (hb : L.bds = smB 27) {P : P3} {r : List Int} {a : List Int} (oT : okT (V180 ρ 24)) (h1 : L.ks[1]? = some (.eq 233 (pickE 204 205 0 27)))
    (ha : pt a = stepI (fun n => pt (tabAt (V180 ρ 24) n)) (ρ 204 == 0) (ρ 233).toNat P) (oa : okP a) (ha' : a.length = 12) (hr : r.length = 12) (t : X 75 (a ++ V180 ρ 24 ++ [ρ 204 + 1] ++ B28 ρ 205 ++ r)) :
    okP r /\ pt r = loopI (fun n => pt (tabAt (V180 ρ 24) n)) ((B28 ρ 205).drop (ρ 204).toNat) (ρ 204 == 0) P := by
  obtain ⟨hB, h0, hi⟩ := smB_bytes hs hb
  obtain ⟨m, hm⟩ : ∃ m : Nat, ρ 204 = (m : Int) := Int.eq_ofNat_of_zero_le h0
  have o := (eqAt hs 1 (d := 233) (e := pickE 204 205 0 27) h1).trans (pickE_eval 204 205 27 0 m hm (by omega) (by omega))
  obtain ⟨q1, q2⟩ := smLT h ha' B28_len hr oa oT t
  refine ⟨q1, ?_⟩
  rw [q2, ha, drop_cons (l := B28 ρ 205) (m := (ρ 204).toNat) (k := ρ 233) (by rw [B28_get _ _ _ (by omega), o]; congr 2; omega)]
  have e1 : (ρ 204 + 1).toNat = (ρ 204).toNat + 1 := by omega
  have e2 : (ρ 204 + 1 == 0) = false := beq_false_of_ne (by omega)
  rw [e1, e2, loopI_cons]
theorem smByte {L : Look} {ρ : Nat -> Int} (hs : Seen X L ρ) (hb : L.bds = smB 27) (h1 : L.ks[1]? = some (.eq 233 (pickE 204 205 0 27))) : byteOK (ρ 233) := by
  obtain ⟨hB, h0, hi⟩ := smB_bytes hs hb
  obtain ⟨m, hm⟩ : ∃ m : Nat, ρ 204 = (m : Int) := Int.eq_ofNat_of_zero_le h0
  have o := (eqAt hs 1 (d := 233) (e := pickE 204 205 0 27) h1).trans (pickE_eval 204 205 27 0 m hm (by omega) (by omega))
  rw [o]
  exact hB _ (List.mem_of_getElem? (B28_get ρ 205 m (by omega)))
theorem nibbles {k a b : Int} (hk : byteOK k) (ha : a = intBin .shr .u8 k 4) (hb : b = intBin .and .u8 k 15) : a.toNat = k.toNat / 16 /\ b.toNat = k.toNat % 16 := by
  rw [shr4] at ha
  rw [and15 hk] at hb
  unfold byteOK at hk
  omega
theorem smL_go1 (h : FL X) : EndP X smL.core 0 ⟨vars 380 24, smB 27, smK1 ++ [.ext 75 (vars 368 12 ++ vars 24 180 ++ [.add (.var 204) (.const 1)] ++ vars 205 28 ++ vars 380 12)], []⟩ := by
  refine endP_of _ 75 _ rfl rfl (fun ρ => Q12 ρ 0 ++ V180 ρ 24 ++ [ρ 204] ++ B28 ρ 205 ++ Q12 ρ 380) (fun ρ => by kernel_rfl) fun ρ hs => (h.smL _).2 ?_
  refine Eq.mp (by kernel_rfl : (okP (Q12 ρ 0) -> okT (V180 ρ 24) -> okP (Q12 ρ 380) /\ pt (Q12 ρ 380) = loopI (fun n => pt (tabAt (V180 ρ 24) n)) ((B28 ρ 205).drop (ρ 204).toNat) (ρ 204 == 0) (pt (Q12 ρ 0))) = _) ?_
  intro oa oT
  have hk := smByte hs rfl rfl
  have ht : (BE.cmp .neq (.var 204) (.const 0)).eval ρ = true := testAt hs 2 rfl
  have ht' : (ρ 204 == 0) = false := beq_false_of_ne (by simpa [BE.eval, intCmp, IE.eval] using ht)
  obtain ⟨n1, n2⟩ := nibbles hk (eqAt hs 7 (d := 282) (e := .bin .shr .u8 (.var 233) (.const 4)) rfl) (eqAt hs 14 (d := 355) (e := .bin .and .u8 (.var 233) (.const 15)) rfl)
  have hK := h.toFK
  obtain ⟨k3, e3⟩ := dblPT hK (a := Q12 ρ 0) (r := Q12 ρ 234) rfl rfl oa (tokAt hs 3 (by kernel_rfl))
  obtain ⟨k4, e4⟩ := dblPT hK (a := Q12 ρ 234) (r := Q12 ρ 246) rfl rfl k3 (tokAt hs 4 (by kernel_rfl))
  obtain ⟨k5, e5⟩ := dblPT hK (a := Q12 ρ 246) (r := Q12 ρ 258) rfl rfl k4 (tokAt hs 5 (by kernel_rfl))
  obtain ⟨k6, e6⟩ := dblPT hK (a := Q12 ρ 258) (r := Q12 ρ 270) rfl rfl k5 (tokAt hs 6 (by kernel_rfl))
  have e8 := tselT hK (ρ := ρ) (i := 24) (n := ρ 282) (r := Q12 ρ 283) rfl (tokAt hs 8 (by kernel_rfl))
  rw [n1] at e8
  have k8 : okP (Q12 ρ 283) := by rw [e8]; exact tabAt_ok oT (by unfold byteOK at hk; omega)
  obtain ⟨k9, e9⟩ := addPT hK (a := Q12 ρ 270) (b := Q12 ρ 283) (r := Q12 ρ 295) rfl rfl rfl k6 k8 (tokAt hs 9 (by kernel_rfl))
  obtain ⟨k10, e10⟩ := dblPT hK (a := Q12 ρ 295) (r := Q12 ρ 307) rfl rfl k9 (tokAt hs 10 (by kernel_rfl))
  obtain ⟨k11, e11⟩ := dblPT hK (a := Q12 ρ 307) (r := Q12 ρ 319) rfl rfl k10 (tokAt hs 11 (by kernel_rfl))
  obtain ⟨k12, e12⟩ := dblPT hK (a := Q12 ρ 319) (r := Q12 ρ 331) rfl rfl k11 (tokAt hs 12 (by kernel_rfl))
  obtain ⟨k13, e13⟩ := dblPT hK (a := Q12 ρ 331) (r := Q12 ρ 343) rfl rfl k12 (tokAt hs 13 (by kernel_rfl))
  have e15 := tselT hK (ρ := ρ) (i := 24) (n := ρ 355) (r := Q12 ρ 356) rfl (tokAt hs 15 (by kernel_rfl))
  rw [n2] at e15
  have k15 : okP (Q12 ρ 356) := by rw [e15]; exact tabAt_ok oT (by omega)
  obtain ⟨k16, e16⟩ := addPT hK (a := Q12 ρ 343) (b := Q12 ρ 356) (r := Q12 ρ 368) rfl rfl rfl k13 k15 (tokAt hs 16 (by kernel_rfl))
  refine smL_step h hs rfl (a := Q12 ρ 368) oT rfl ?_ k16 rfl rfl (tokAt hs 17 (by kernel_rfl))
  rw [ht', stepI_false, e16, e15, e13, e12, e11, e10, e9, e8, e6, e5, e4, e3]
theorem smL_go0 (h : FL X) : EndP X smL.core 0 ⟨vars 332 24, smB 27, smK0 ++ [.ext 75 (vars 320 12 ++ vars 24 180 ++ [.add (.var 204) (.const 1)] ++ vars 205 28 ++ vars 332 12)], []⟩ := by
  refine endP_of _ 75 _ rfl rfl (fun ρ => Q12 ρ 0 ++ V180 ρ 24 ++ [ρ 204] ++ B28 ρ 205 ++ Q12 ρ 332) (fun ρ => by kernel_rfl) fun ρ hs => (h.smL _).2 ?_
  refine Eq.mp (by kernel_rfl : (okP (Q12 ρ 0) -> okT (V180 ρ 24) -> okP (Q12 ρ 332) /\ pt (Q12 ρ 332) = loopI (fun n => pt (tabAt (V180 ρ 24) n)) ((B28 ρ 205).drop (ρ 204).toNat) (ρ 204 == 0) (pt (Q12 ρ 0))) = _) ?_
  intro oa oT
  have hk := smByte hs rfl rfl
  have ht : (BE.cmp .neq (.var 204) (.const 0)).eval ρ = false := testAt hs 2 rfl
  have ht' : (ρ 204 == 0) = true := by simpa [BE.eval, intCmp, IE.eval] using ht
  obtain ⟨n1, n2⟩ := nibbles hk (eqAt hs 3 (d := 234) (e := .bin .shr .u8 (.var 233) (.const 4)) rfl) (eqAt hs 10 (d := 307) (e := .bin .and .u8 (.var 233) (.const 15)) rfl)
  have hK := h.toFK
  have e8 := tselT hK (ρ := ρ) (i := 24) (n := ρ 234) (r := Q12 ρ 235) rfl (tokAt hs 4 (by kernel_rfl))
  rw [n1] at e8
  have k8 : okP (Q12 ρ 235) := by rw [e8]; exact tabAt_ok oT (by unfold byteOK at hk; omega)
  obtain ⟨k9, e9⟩ := addPT hK (a := Q12 ρ 0) (b := Q12 ρ 235) (r := Q12 ρ 247) rfl rfl rfl oa k8 (tokAt hs 5 (by kernel_rfl))
  obtain ⟨k10, e10⟩ := dblPT hK (a := Q12 ρ 247) (r := Q12 ρ 259) rfl rfl k9 (tokAt hs 6 (by kernel_rfl))
  obtain ⟨k11, e11⟩ := dblPT hK (a := Q12 ρ 259) (r := Q12 ρ 271) rfl rfl k10 (tokAt hs 7 (by kernel_rfl))
  obtain ⟨k12, e12⟩ := dblPT hK (a := Q12 ρ 271) (r := Q12 ρ 283) rfl rfl k11 (tokAt hs 8 (by kernel_rfl))
  obtain ⟨k13, e13⟩ := dblPT hK (a := Q12 ρ 283) (r := Q12 ρ 295) rfl rfl k12 (tokAt hs 9 (by kernel_rfl))
  have e15 := tselT hK (ρ := ρ) (i := 24) (n := ρ 307) (r := Q12 ρ 308) rfl (tokAt hs 11 (by kernel_rfl))
  rw [n2] at e15
  have k15 : okP (Q12 ρ 308) := by rw [e15]; exact tabAt_ok oT (by omega)
  obtain ⟨k16, e16⟩ := addPT hK (a := Q12 ρ 295) (b := Q12 ρ 308) (r := Q12 ρ 320) rfl rfl rfl k13 k15 (tokAt hs 12 (by kernel_rfl))
  refine smL_step h hs rfl (a := Q12 ρ 320) oT rfl ?_ k16 rfl rfl (tokAt hs 13 (by kernel_rfl))
  rw [ht', stepI_true, e16, e15, e13, e12, e11, e10, e9, e8]
end
end Go.Vm
namespace Go.Proofs.YtmogojlijkddpaaGreat
open Go.Vm
variable {X : Tk}
theorem smL_chk : chkLoop (exec EF' 3000 (fun _ => none) (loopIn Tryz.f133 2) smL.start) smL smDs = true := by kernel_rfl
def smM (ρ : Nat -> Int) : Nat := (28 - ρ 204).toNat
theorem smL_ok (h : FL X) : LoopSp Tryz.prog X (loopIn Tryz.f133 2) smL.spec := by
  refine loop_by (EF'_ok h.toFK) (BOK_of fun id b hm sp hs => by cases hs) smL_chk smM (fun ρ ρ' hh => ?_) fun d hd => ?_
  · unfold smM
    rw [hh 204 (by decide)]
  simp only [smDs, List.mem_cons, List.not_mem_nil, or_false] at hd
  rcases hd with rfl | rfl | rfl
  · refine ⟨fun ρ hs => ?_, one_ds (smL_go1 h)⟩
    have hi := (smB_bytes hs rfl).2
    show (28 - (ρ 204 + 1)).toNat < (28 - ρ 204).toNat
    omega
  · refine ⟨fun ρ hs => ?_, one_ds (smL_go0 h)⟩
    have hi := (smB_bytes hs rfl).2
    show (28 - (ρ 204 + 1)).toNat < (28 - ρ 204).toNat
    omega
  · exact smL_stop h
end Go.Proofs.YtmogojlijkddpaaGreat
namespace Go.Vm
open Go.Proofs.YtmogojlijkddpaaGreat (Q12 of12)
def smLk : Look := ⟨vars 208 12, (List.range 28).map (fun i => (12 + i, ((0 : Int), (255 : Int)))), [.ext 71 (vars 0 12 ++ vars 40 12), .ext 70 (vars 40 12 ++ vars 0 12 ++ vars 52 12), .ext 71 (vars 40 12 ++ vars 64 12), .ext 70 (vars 64 12 ++ vars 0 12 ++ vars 76 12),
  .ext 71 (vars 52 12 ++ vars 88 12), .ext 70 (vars 88 12 ++ vars 0 12 ++ vars 100 12), .ext 71 (vars 64 12 ++ vars 112 12), .ext 70 (vars 112 12 ++ vars 0 12 ++ vars 124 12), .ext 71 (vars 76 12 ++ vars 136 12), .ext 70 (vars 136 12 ++ vars 0 12 ++ vars 148 12),
  .ext 71 (vars 88 12 ++ vars 160 12), .ext 70 (vars 160 12 ++ vars 0 12 ++ vars 172 12), .ext 71 (vars 100 12 ++ vars 184 12), .ext 70 (vars 184 12 ++ vars 0 12 ++ vars 196 12),
  .ext 75 ([.const 0, .const 0, .const 0, .const 0, .const 18446744069414584320, .const 18446744073709551615, .const 0, .const 0, .const 0, .const 0, .const 0, .const 0] ++ vars 0 12 ++ vars 40 168 ++ [.const 0] ++ vars 12 28 ++ vars 208 12)], []⟩
def smσ (ρ : Nat -> Int) (j : Nat) : Int := if j < 12 then ρ j else ρ (28 + j)
section
variable {X : Tk}
theorem sm_end (h : FL X) : EndP X smS 0 smLk := by
  refine endP_of _ 76 _ rfl rfl (fun ρ => Q12 ρ 0 ++ B28 ρ 12 ++ Q12 ρ 208) (fun ρ => by kernel_rfl) fun ρ hs => (h.sm _).2 ?_
  refine Eq.mp (by kernel_rfl : (okP (Q12 ρ 0) -> okP (Q12 ρ 208) /\ pt (Q12 ρ 208) = loopI (tabI (pt (Q12 ρ 0))) (B28 ρ 12) true farI) = _) ?_
  intro k1
  have hK := h.toFK
  have hB : ∀ x ∈ B28 ρ 12, byteOK x := B28_ok fun k hk => hs.bds (12 + k, (0, 255)) (List.mem_map.2 ⟨k, List.mem_range.2 hk, rfl⟩)
  obtain ⟨k2, e2⟩ := dblPT hK (a := Q12 ρ 0) (r := Q12 ρ 40) rfl rfl k1 (tokAt hs 0 (by kernel_rfl))
  obtain ⟨k3, e3⟩ := addPT hK (a := Q12 ρ 40) (b := Q12 ρ 0) (r := Q12 ρ 52) rfl rfl rfl k2 k1 (tokAt hs 1 (by kernel_rfl))
  obtain ⟨k4, e4⟩ := dblPT hK (a := Q12 ρ 40) (r := Q12 ρ 64) rfl rfl k2 (tokAt hs 2 (by kernel_rfl))
  obtain ⟨k5, e5⟩ := addPT hK (a := Q12 ρ 64) (b := Q12 ρ 0) (r := Q12 ρ 76) rfl rfl rfl k4 k1 (tokAt hs 3 (by kernel_rfl))
  obtain ⟨k6, e6⟩ := dblPT hK (a := Q12 ρ 52) (r := Q12 ρ 88) rfl rfl k3 (tokAt hs 4 (by kernel_rfl))
  obtain ⟨k7, e7⟩ := addPT hK (a := Q12 ρ 88) (b := Q12 ρ 0) (r := Q12 ρ 100) rfl rfl rfl k6 k1 (tokAt hs 5 (by kernel_rfl))
  obtain ⟨k8, e8⟩ := dblPT hK (a := Q12 ρ 64) (r := Q12 ρ 112) rfl rfl k4 (tokAt hs 6 (by kernel_rfl))
  obtain ⟨k9, e9⟩ := addPT hK (a := Q12 ρ 112) (b := Q12 ρ 0) (r := Q12 ρ 124) rfl rfl rfl k8 k1 (tokAt hs 7 (by kernel_rfl))
  obtain ⟨k10, e10⟩ := dblPT hK (a := Q12 ρ 76) (r := Q12 ρ 136) rfl rfl k5 (tokAt hs 8 (by kernel_rfl))
  obtain ⟨k11, e11⟩ := addPT hK (a := Q12 ρ 136) (b := Q12 ρ 0) (r := Q12 ρ 148) rfl rfl rfl k10 k1 (tokAt hs 9 (by kernel_rfl))
  obtain ⟨k12, e12⟩ := dblPT hK (a := Q12 ρ 88) (r := Q12 ρ 160) rfl rfl k6 (tokAt hs 10 (by kernel_rfl))
  obtain ⟨k13, e13⟩ := addPT hK (a := Q12 ρ 160) (b := Q12 ρ 0) (r := Q12 ρ 172) rfl rfl rfl k12 k1 (tokAt hs 11 (by kernel_rfl))
  obtain ⟨k14, e14⟩ := dblPT hK (a := Q12 ρ 100) (r := Q12 ρ 184) rfl rfl k7 (tokAt hs 12 (by kernel_rfl))
  obtain ⟨k15, e15⟩ := addPT hK (a := Q12 ρ 184) (b := Q12 ρ 0) (r := Q12 ρ 196) rfl rfl rfl k14 k1 (tokAt hs 13 (by kernel_rfl))
  have oT : okT (V180 (smσ ρ) 0) := fun j hj => by
    have hn : j = 0 \/ j = 1 \/ j = 2 \/ j = 3 \/ j = 4 \/ j = 5 \/ j = 6 \/ j = 7 \/ j = 8 \/ j = 9 \/ j = 10 \/ j = 11 \/ j = 12 \/ j = 13 \/ j = 14 := by omega
    rcases hn with rfl | rfl | rfl | rfl | rfl | rfl | rfl | rfl | rfl | rfl | rfl | rfl | rfl | rfl | rfl
    · exact Eq.mp (by kernel_rfl : okP (Q12 ρ 0) = okP (((V180 (smσ ρ) 0).drop (12 * 0)).take 12)) k1
    · exact Eq.mp (by kernel_rfl : okP (Q12 ρ 40) = okP (((V180 (smσ ρ) 0).drop (12 * 1)).take 12)) k2
    · exact Eq.mp (by kernel_rfl : okP (Q12 ρ 52) = okP (((V180 (smσ ρ) 0).drop (12 * 2)).take 12)) k3
    · exact Eq.mp (by kernel_rfl : okP (Q12 ρ 64) = okP (((V180 (smσ ρ) 0).drop (12 * 3)).take 12)) k4
    · exact Eq.mp (by kernel_rfl : okP (Q12 ρ 76) = okP (((V180 (smσ ρ) 0).drop (12 * 4)).take 12)) k5
    · exact Eq.mp (by kernel_rfl : okP (Q12 ρ 88) = okP (((V180 (smσ ρ) 0).drop (12 * 5)).take 12)) k6
    · exact Eq.mp (by kernel_rfl : okP (Q12 ρ 100) = okP (((V180 (smσ ρ) 0).drop (12 * 6)).take 12)) k7
    · exact Eq.mp (by kernel_rfl : okP (Q12 ρ 112) = okP (((V180 (smσ ρ) 0).drop (12 * 7)).take 12)) k8
    · exact Eq.mp (by kernel_rfl : okP (Q12 ρ 124) = okP (((V180 (smσ ρ) 0).drop (12 * 8)).take 12)) k9
    · exact Eq.mp (by kernel_rfl : okP (Q12 ρ 136) = okP (((V180 (smσ ρ) 0).drop (12 * 9)).take 12)) k10
    · exact Eq.mp (by kernel_rfl : okP (Q12 ρ 148) = okP (((V180 (smσ ρ) 0).drop (12 * 10)).take 12)) k11
    · exact Eq.mp (by kernel_rfl : okP (Q12 ρ 160) = okP (((V180 (smσ ρ) 0).drop (12 * 11)).take 12)) k12
    · exact Eq.mp (by kernel_rfl : okP (Q12 ρ 172) = okP (((V180 (smσ ρ) 0).drop (12 * 12)).take 12)) k13
    · exact Eq.mp (by kernel_rfl : okP (Q12 ρ 184) = okP (((V180 (smσ ρ) 0).drop (12 * 13)).take 12)) k14
    · exact Eq.mp (by kernel_rfl : okP (Q12 ρ 196) = okP (((V180 (smσ ρ) 0).drop (12 * 14)).take 12)) k15
  obtain ⟨r1, r2⟩ := smLT h (a := farL) (b := B28 ρ 12) (r := Q12 ρ 208) (ρ := smσ ρ) (i := 0) (m := 0) rfl B28_len rfl farL_ok oT (tokAt hs 14 (by kernel_rfl))
  refine ⟨r1, ?_⟩
  rw [r2, pt_farL]
  refine loopI_congr (fun n hn => ?_) true farI hB
  have hn : n = 0 \/ n = 1 \/ n = 2 \/ n = 3 \/ n = 4 \/ n = 5 \/ n = 6 \/ n = 7 \/ n = 8 \/ n = 9 \/ n = 10 \/ n = 11 \/ n = 12 \/ n = 13 \/ n = 14 \/ n = 15 := by omega
  rcases hn with rfl | rfl | rfl | rfl | rfl | rfl | rfl | rfl | rfl | rfl | rfl | rfl | rfl | rfl | rfl | rfl
  · exact pt_farL
  · have a : tabAt (V180 (smσ ρ) 0) 1 = Q12 ρ 0 := by kernel_rfl
    show pt (tabAt (V180 (smσ ρ) 0) 1) = _
    rw [a]
    rfl
  · have a : tabAt (V180 (smσ ρ) 0) 2 = Q12 ρ 40 := by kernel_rfl
    show pt (tabAt (V180 (smσ ρ) 0) 2) = _
    rw [a, e2]
    rfl
  · have a : tabAt (V180 (smσ ρ) 0) 3 = Q12 ρ 52 := by kernel_rfl
    show pt (tabAt (V180 (smσ ρ) 0) 3) = _
    rw [a, e3, e2]
    rfl
  · have a : tabAt (V180 (smσ ρ) 0) 4 = Q12 ρ 64 := by kernel_rfl
    show pt (tabAt (V180 (smσ ρ) 0) 4) = _
    rw [a, e4, e2]
    rfl
  · have a : tabAt (V180 (smσ ρ) 0) 5 = Q12 ρ 76 := by kernel_rfl
    show pt (tabAt (V180 (smσ ρ) 0) 5) = _
    rw [a, e5, e4, e2]
    rfl
  · have a : tabAt (V180 (smσ ρ) 0) 6 = Q12 ρ 88 := by kernel_rfl
    show pt (tabAt (V180 (smσ ρ) 0) 6) = _
    rw [a, e6, e3, e2]
    rfl
  · have a : tabAt (V180 (smσ ρ) 0) 7 = Q12 ρ 100 := by kernel_rfl
    show pt (tabAt (V180 (smσ ρ) 0) 7) = _
    rw [a, e7, e6, e3, e2]
    rfl
  · have a : tabAt (V180 (smσ ρ) 0) 8 = Q12 ρ 112 := by kernel_rfl
    show pt (tabAt (V180 (smσ ρ) 0) 8) = _
    rw [a, e8, e4, e2]
    rfl
  · have a : tabAt (V180 (smσ ρ) 0) 9 = Q12 ρ 124 := by kernel_rfl
    show pt (tabAt (V180 (smσ ρ) 0) 9) = _
    rw [a, e9, e8, e4, e2]
    rfl
  · have a : tabAt (V180 (smσ ρ) 0) 10 = Q12 ρ 136 := by kernel_rfl
    show pt (tabAt (V180 (smσ ρ) 0) 10) = _
    rw [a, e10, e5, e4, e2]
    rfl
  · have a : tabAt (V180 (smσ ρ) 0) 11 = Q12 ρ 148 := by kernel_rfl
    show pt (tabAt (V180 (smσ ρ) 0) 11) = _
    rw [a, e11, e10, e5, e4, e2]
    rfl
  · have a : tabAt (V180 (smσ ρ) 0) 12 = Q12 ρ 160 := by kernel_rfl
    show pt (tabAt (V180 (smσ ρ) 0) 12) = _
    rw [a, e12, e6, e3, e2]
    rfl
  · have a : tabAt (V180 (smσ ρ) 0) 13 = Q12 ρ 172 := by kernel_rfl
    show pt (tabAt (V180 (smσ ρ) 0) 13) = _
    rw [a, e13, e12, e6, e3, e2]
    rfl
  · have a : tabAt (V180 (smσ ρ) 0) 14 = Q12 ρ 184 := by kernel_rfl
    show pt (tabAt (V180 (smσ ρ) 0) 14) = _
    rw [a, e14, e7, e6, e3, e2]
    rfl
  · have a : tabAt (V180 (smσ ρ) 0) 15 = Q12 ρ 196 := by kernel_rfl
    show pt (tabAt (V180 (smσ ρ) 0) 15) = _
    rw [a, e15, e14, e7, e6, e3, e2]
    rfl
end
end Go.Vm
namespace Go.Proofs.YtmogojlijkddpaaGreat
open Go.Vm
variable {X : Tk}
theorem sm_nodup : nodupB ((blocksOf (bodyOf Tryz.f133)).map (·.1)) = true := by kernel_rfl
theorem sm_loop : loopAt (bodyOf Tryz.f133) 2 = some (loopIn Tryz.f133 2) := by kernel_rfl
theorem sm_chk : chkFn (execFn EF' 3000 (blockB 2 (smL.asBlock 2).spec) Tryz.f133 smS.args smS.start) smS [(0, smLk)] = true := by kernel_rfl
theorem sm_ok (h : FL X) : SpecOK Tryz.prog X 133 smS.spec := fn_sumB (EF'_ok h.toFK) Tryz.func133 (by kernel_rfl) (block_bok sm_nodup sm_loop (smL_ok h) rfl) sm_chk (one_ds (sm_end h))
end Go.Proofs.YtmogojlijkddpaaGreat
namespace Go.Vm
def invE : Sm := { bd := List.replicate 8 W64, args := [.ptr 0 0, .ptr 1 0], mem := [nE 0, nE 4], al := [], outs := [{ nbd := List.replicate 4 W64, val := .ptr 0 0, writes := [(0, elt 8)], news := [], post := [(79, vars 4 8)] }] }
def strB (t : String) : Blk := ⟨104, [.val (.string t.toUTF8)], true⟩
def bxS : Sm := { bd := List.replicate 12 W64, args := [.ptr 0 0], mem := [nP 1] ++ ptBs 0, al := [], outs := [{ nbd := List.replicate 28 (0, 255), val := .tup [.slice 4 0 28 28, .val .nilIface], writes := [], news := [⟨175, bytV 12 28, true⟩], post := [(81, vars 0 40)] }, { nbd := [], val := .tup [.nils, errV 4], writes := [], news := [strB "P224 point is the point at infinity"], post := [(80, vars 0 12)] }] }
def spErr (t : String) : SmO := { nbd := [], val := .tup [.nilp, errV 5], writes := [], news := [strB t], post := [(78, vars 12 57)] }
def spS : Sm := { bd := List.replicate 12 W64 ++ List.replicate 57 (0, 255), args := [.ptr 0 0, .view 4 0 57], mem := [nP 1] ++ ptBs 0 ++ [⟨5, bytV 12 57, false⟩], al := [], outs := [{ nbd := List.replicate 8 W64, val := .tup [.ptr 0 0, .val .nilIface], writes := [(1, elt 69), (2, elt 73), (3, oneW)], news := [], post := [(77, vars 12 65)] }, spErr "invalid P224Element encoding", spErr "P224 point not on curve", spErr "invalid P224 point encoding"] }
end Go.Vm
end
