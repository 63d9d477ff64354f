/- The proof of laws.FnP224Verify, text 18 of 36. Conditions: none. -/
import Derived.Test.YtmogojlijkddpaaGreatT04
import Derived.Test.YtmogojlijkddpaaGreatT05
import Derived.Test.YtmogojlijkddpaaGreatT07
import Derived.Test.YtmogojlijkddpaaGreatT12
import Derived.Test.YtmogojlijkddpaaGreatT16
noncomputable section

set_option maxRecDepth 100000
namespace Go.Proofs.YtmogojlijkddpaaGreat
open Go.Vm
variable {X : Tk}
theorem noLk_end {s : Sm} {o : SmO} (ho : s.outs = [o]) (hp : o.post = []) : ∀ d ∈ noLk, EndP X s d.1 d.2 := none_end ho hp
theorem addC_all : ∀ i, i < 35 -> chkFn (execCall E0 3000 99 (addCS (2 ^ (223 + i) % nN) (2 ^ (224 + i) % nN)).args (addCS (2 ^ (223 + i) % nN) (2 ^ (224 + i) % nN)).start) (addCS (2 ^ (223 + i) % nN) (2 ^ (224 + i) % nN)) noLk = true := fun i hi => by
  have key : ∀ a n, addCB a n = true -> a <= i -> i < a + n -> chkFn (execCall E0 3000 99 (addCS (2 ^ (223 + i) % nN) (2 ^ (224 + i) % nN)).args (addCS (2 ^ (223 + i) % nN) (2 ^ (224 + i) % nN)).start) (addCS (2 ^ (223 + i) % nN) (2 ^ (224 + i) % nN)) noLk = true := fun a n h h1 h2 => by
    have hc := List.all_eq_true.1 h (i - a) (List.mem_range.2 (by omega))
    rw [show a + (i - a) = i from by omega] at hc
    exact hc
  rcases (by omega : i < 7 \/ (7 <= i /\ i < 14) \/ (14 <= i /\ i < 21) \/ (21 <= i /\ i < 28) \/ (28 <= i /\ i < 35)) with h | h | h | h | h
  · exact key 0 7 addC_chk0 (by omega) (by omega)
  · exact key 7 7 addC_chk1 h.1 (by omega)
  · exact key 14 7 addC_chk2 h.1 (by omega)
  · exact key 21 7 addC_chk3 h.1 (by omega)
  · exact key 28 7 addC_chk4 h.1 (by omega)
theorem addC_ok : SpecOK Tryz.prog X 99 (firstSp addCs) := SpecOK.first fun s hs => by
  obtain ⟨i, hi, rfl⟩ := List.mem_map.1 hs
  exact fn_sum E0_ok (addC_all i (List.mem_range.1 hi)) (noLk_end rfl rfl)
theorem mmC_all : ∀ x ∈ mmL, chkFn (execCall E0 3000 94 (mmCS x.1 x.2).args (mmCS x.1 x.2).start) (mmCS x.1 x.2) noLk = true := fun x hx => by
  have key : ∀ y, mmCB [y] = true -> x = y -> chkFn (execCall E0 3000 94 (mmCS x.1 x.2).args (mmCS x.1 x.2).start) (mmCS x.1 x.2) noLk = true := fun y h e => by
    subst e
    exact List.all_eq_true.1 h x (by simp)
  simp only [mmL, List.mem_cons, List.not_mem_nil, or_false] at hx
  rcases hx with e | e | e | e | e | e | e
  · exact key _ mmC_chk0 e
  · exact key _ mmC_chk1 e
  · exact key _ mmC_chk2 e
  · exact key _ mmC_chk3 e
  · exact key _ mmC_chk4 e
  · exact key _ mmC_chk5 e
  · exact key _ mmC_chk6 e
theorem mmC_ok : SpecOK Tryz.prog X 94 (firstSp mmCs) := SpecOK.first fun s hs => by
  obtain ⟨x, hx, rfl⟩ := List.mem_map.1 hs
  exact fn_sum E0_ok (mmC_all x hx) (noLk_end rfl rfl)
def specRR (f : FuncId) : Option (Fs) := match f with | 99 => some (firstSp addCs) | 94 => some (firstSp mmCs) | f => spec0 f
theorem specRR_ok : ∀ f sp, specRR f = some sp -> FnOK Tryz.prog f /\ SpecOK Tryz.prog X f sp := fun f sp hs => by
  unfold specRR at hs
  split at hs
  · simp only [Option.some.injEq] at hs; subst hs; exact ⟨fn_ok Tryz.func99 (by kernel_rfl) (by kernel_rfl), addC_ok⟩
  · simp only [Option.some.injEq] at hs; subst hs; exact ⟨fn_ok Tryz.func94 (by kernel_rfl) (by kernel_rfl), mmC_ok⟩
  · exact spec0_ok f sp hs
def ERR : Env := mkEnv Tryz.prog tyTree fnTree ext0 specRR
theorem ERR_ok : EnvOK Tryz.prog X ERR := mkEnv_ok mixed_ok tys_ok fns_ok names_ok ext0_ok specRR_ok
theorem rr_chk : chkFn (execCall ERR 3000 81 rrS.args rrS.start) rrS noLk = true := by kernel_rfl
theorem rr_ok : SpecOK Tryz.prog X 81 rrS.spec := fn_sum ERR_ok rr_chk (noLk_end rfl rfl)
def specCV (f : FuncId) : Option (Fs) := match f with | 81 => some rrS.spec | f => spec0 f
theorem specCV_ok : ∀ f sp, specCV f = some sp -> FnOK Tryz.prog f /\ SpecOK Tryz.prog X f sp := fun f sp hs => by
  unfold specCV at hs
  split at hs
  · simp only [Option.some.injEq] at hs; subst hs; exact ⟨fn_ok Tryz.func81 (by kernel_rfl) (by kernel_rfl), rr_ok⟩
  · exact spec0_ok f sp hs
def ECV : Env := mkEnv Tryz.prog tyTree fnTree ext0 specCV
theorem ECV_ok : EnvOK Tryz.prog X ECV := mkEnv_ok mixed_ok tys_ok fns_ok names_ok ext0_ok specCV_ok
theorem crv_chk : chkFn (execCall ECV 30000 12 crvS.args crvS.start) crvS (noLk ++ noLk) = true := by kernel_rfl
theorem crv_ok : SpecOK Tryz.prog X 12 crvS.spec := fn_sum ECV_ok crv_chk fun d hd => noLk_end rfl rfl d (by
  rcases List.mem_append.1 hd with h | h <;> exact h)
end Go.Proofs.YtmogojlijkddpaaGreat
namespace Go.Vm
def tselQS : Sm := { bd := List.replicate 192 W64 ++ [(0, 15)], args := [.vptr 0 0, .ptr 1 0, .int .u8 (.var 192)], mem := [⟨190, (List.range 15).map (fun j => .ptr (5 + j) 0), false⟩, nP 2] ++ ptBs 0 ++ tabPs 20 ++ tabEs 12, al := [], outs := tselS.outs }
def gPS : Sm := { bd := List.replicate 12 W64, args := [.ptr 0 0], mem := [nP 1] ++ ptBs 0, al := [], outs := [{ nbd := List.replicate 8 W64, val := .ptr 0 0, writes := [(1, elt 12), (2, elt 16), (3, oneW)], news := [], post := [(82, vars 12 8)] }] }
def rowNews (b i : Nat) : List Blk := (List.range 15).flatMap fun j => [nP (b + 4 * j + 1), nE (i + 12 * j), nE (i + 12 * j + 4), nE (i + 12 * j + 8)]
def rowS (i : Nat) : Sm := { bd := List.replicate 12 W64, args := [.ptr 0 0, .ptr 1 0, .int .i64 (.const i)], mem := [⟨190, (List.range (15 * i)).map (fun j => .ptr (5 + j) 0) ++ List.replicate (840 - 15 * i) .nilp, true⟩, nP 2] ++ ptBs 0 ++ List.replicate (15 * i) ⟨92, [], false⟩, al := [], outs := [{ nbd := List.replicate 180 W64, val := .tup [.ptr 0 0, .ptr 1 0, .int .i64 (.const i)], writes := [(0, (List.range (15 * i)).map (fun j => .ptr (5 + j) 0) ++ (List.range 15).map (fun j => .ptr (5 + 15 * i + 4 * j) 0) ++ List.replicate (825 - 15 * i) .nilp)] ++ el3 2 180, news := rowNews (5 + 15 * i) 0, post := [(83, vars 0 192)] }] }
def rowC (i : Nat) : CSm := { core := rowS i, nt := 56, tin := [3, 4, 5], kinds := [(.normal, [3, 4, 5])] }
def rowsSp (S : St) : Option (List (Out × St)) :=
  match S.tmps.get (path 5) with
  | some (.int _ (.const (.ofNat i))) => if i < 56 then (rowC i).spec S else none
  | _ => none
def gen0 : List Blk := [nP 3, nE 0, nE 4, ⟨89, oneW, true⟩]
def gtS : Sm := { bd := [], args := [.ptr 0 0], mem := [⟨92, [], false⟩], al := [], outs := [{ nbd := List.replicate 10088 W64, val := .ptr 1 0, writes := [], news := [⟨190, (List.range 840).map (fun j => .ptr (2 + 4 * j) 0), true⟩] ++ gen0 ++ ((List.range 14).flatMap fun j => [nP (7 + 4 * j), nE (8 + 12 * j), nE (12 + 12 * j), nE (16 + 12 * j)]) ++ (List.range 55).flatMap fun r => rowNews (62 + 60 * r) (176 + 180 * r), post := [(82, vars 0 8), (83, vars 0 8 ++ [.const 18446744069414584320, .const 18446744073709551615, .const 0, .const 0] ++ vars 8 180)] ++ (List.range 55).map fun r => (83, vars (176 + 180 * r) 192) }] }
def sbS : Sm := { bd := List.replicate 12 W64 ++ List.replicate 28 (0, 255), args := [.ptr 0 0, .view 1 0 28], mem := [nP 2, ⟨5, bytV 12 28, false⟩] ++ ptBs 0, al := [], outs := [{ nbd := List.replicate 12 W64, val := .tup [.ptr 0 0, .val .nilIface], writes := el3 2 40, news := [], post := [(84, vars 12 40)] }] }
open Go.Proofs.YtmogojlijkddpaaGreat (Q12 of12)
def gBX : List Int := [183,14,12,189,107,180,191,127,50,19,144,185,74,3,193,211,86,194,17,34,52,50,128,214,17,92,29,33]
def gBY : List Int := [189,55,99,136,181,247,35,251,76,34,223,230,205,67,117,160,90,7,71,100,68,213,129,153,133,0,126,52]
def GenP (l : List Int) : Prop := okE (l.take 4) /\ okE (l.drop 4) /\ dv (l.take 4) = φ gX /\ dv (l.drop 4) = φ gY
def RowP (l : List Int) : Prop := okP (l.take 12) -> okT (l.take 180) /\ okP (l.drop 180) /\ (∀ j, j < 14 -> pt ((l.drop (12 * j + 12)).take 12) = adI (pt ((l.drop (12 * j)).take 12)) (pt (l.take 12))) /\ pt (l.drop 180) = dbI (dbI (dbI (dbI (pt (l.take 12)))))
structure FO (X : Tk) : Prop extends FN X where
  gen : ∀ l, X 82 l ↔ GenP l
  row : ∀ l, X 83 l ↔ RowP l
def rowLk : Look := ⟨vars 12 168 ++ vars 216 12, [], ((List.range 14).map fun j => .ext 70 (vars (12 * j) 12 ++ vars 0 12 ++ vars (12 * j + 12) 12)) ++ [.ext 71 (vars 0 12 ++ vars 180 12), .ext 71 (vars 180 24), .ext 71 (vars 192 24), .ext 71 (vars 204 24)], []⟩
def blkAt (k : Code) (id : Nat) : Code := match (blocksOf k).find? (fun x => x.1 == id) with | some (_, b) => .block id b | none => .skip
section
variable {X : Tk}
def V192 (ρ : Nat -> Int) : List Int := (List.range 180).map ρ ++ Q12 ρ 216
theorem row_end (h : FK X) (hr : ∀ l, X 83 l ↔ RowP l) (i : Nat) : EndP X (rowC i).core 0 rowLk := by
  refine endP_of (s := (rowC i).core) _ 83 _ rfl rfl V192 (fun ρ => by kernel_rfl) fun ρ hs => (hr _).2 ?_
  intro k0
  have k0 : okP (Q12 ρ 0) := k0
  have st : ∀ j, j < 14 -> okP (Q12 ρ (12 * j)) -> okP (Q12 ρ (12 * j + 12)) /\ pt (Q12 ρ (12 * j + 12)) = adI (pt (Q12 ρ (12 * j))) (pt (Q12 ρ 0)) := fun j hj hk => by
    refine addPT h (a := Q12 ρ (12 * j)) (b := Q12 ρ 0) (r := Q12 ρ (12 * j + 12)) rfl rfl rfl hk k0 (tok (hs.ks (.ext 70 (vars (12 * j) 12 ++ vars 0 12 ++ vars (12 * j + 12) 12)) (List.mem_append_left _ (List.mem_map.2 ⟨j, List.mem_range.2 hj, rfl⟩))) ?_)
    simp [vars, Q12, List.range, List.range.loop, IE.eval, Nat.add_assoc]
  have all : ∀ j, j < 15 -> okP (Q12 ρ (12 * j)) := fun j => by
    induction j with
    | zero => exact fun _ => k0
    | succ j ih => exact fun hj => (st j (by omega) (ih (by omega))).1
  have d1 := dblPT h (a := Q12 ρ 0) (r := Q12 ρ 180) rfl rfl k0 (tok (hs.ks (.ext 71 (vars 0 12 ++ vars 180 12)) (List.mem_append_right _ (by simp))) (by kernel_rfl))
  have d2 := dblPT h (a := Q12 ρ 180) (r := Q12 ρ 192) rfl rfl d1.1 (tok (hs.ks (.ext 71 (vars 180 24)) (List.mem_append_right _ (by simp))) (by kernel_rfl))
  have d3 := dblPT h (a := Q12 ρ 192) (r := Q12 ρ 204) rfl rfl d2.1 (tok (hs.ks (.ext 71 (vars 192 24)) (List.mem_append_right _ (by simp))) (by kernel_rfl))
  have d4 := dblPT h (a := Q12 ρ 204) (r := Q12 ρ 216) rfl rfl d3.1 (tok (hs.ks (.ext 71 (vars 204 24)) (List.mem_append_right _ (by simp))) (by kernel_rfl))
  have at' : ∀ j, j < 15 -> ((V192 ρ).drop (12 * j)).take 12 = Q12 ρ (12 * j) := fun j hj => by
    have hn : j = 0 \/ j = 1 \/ j = 2 \/ j = 3 \/ j = 4 \/ j = 5 \/ j = 6 \/ j = 7 \/ j = 8 \/ j = 9 \/ j = 10 \/ j = 11 \/ j = 12 \/ j = 13 \/ j = 14 := by omega
    rcases hn with rfl | rfl | rfl | rfl | rfl | rfl | rfl | rfl | rfl | rfl | rfl | rfl | rfl | rfl | rfl <;> rfl
  have a180 : (V192 ρ).take 180 = V180 ρ 0 := by kernel_rfl
  have av : ∀ j, j < 15 -> ((V180 ρ 0).drop (12 * j)).take 12 = Q12 ρ (12 * j) := fun j hj => by
    have hn : j = 0 \/ j = 1 \/ j = 2 \/ j = 3 \/ j = 4 \/ j = 5 \/ j = 6 \/ j = 7 \/ j = 8 \/ j = 9 \/ j = 10 \/ j = 11 \/ j = 12 \/ j = 13 \/ j = 14 := by omega
    rcases hn with rfl | rfl | rfl | rfl | rfl | rfl | rfl | rfl | rfl | rfl | rfl | rfl | rfl | rfl | rfl <;> rfl
  have ad : (V192 ρ).drop 180 = Q12 ρ 216 := by kernel_rfl
  have a0 : (V192 ρ).take 12 = Q12 ρ 0 := by kernel_rfl
  refine ⟨?_, ?_, fun j hj => ?_, ?_⟩
  · rw [a180]; exact fun j hj => by rw [av j hj]; exact all j hj
  · rw [ad]; exact d4.1
  · have e1 := at' (j + 1) (by omega)
    rw [show 12 * (j + 1) = 12 * j + 12 by omega] at e1
    rw [e1, at' j (by omega), a0]
    exact (st j hj (all j (by omega))).2
  · rw [ad, a0, d4.2, d3.2, d2.2, d1.2]
end
end Go.Vm
namespace Go.Proofs.YtmogojlijkddpaaGreat
open Go.Vm
variable {X : Tk}
def tyTree2 : Tr TI := Tr.set ⟨.array 56 182, 840, 6720, List.replicate 840 .nilp⟩ (path 190) tyTree
theorem tys2_ok : chkTr (tyChk Tryz.prog) id tyTree2 = true := by kernel_rfl
def ES' : Env := mkEnv Tryz.prog tyTree2 fnTree ext0 specF'
theorem ES'_ok (h : FK X) : EnvOK Tryz.prog X ES' := mkEnv_ok mixed_ok tys2_ok fns_ok names_ok ext0_ok (specF'_ok h)
def rowB (a n : Nat) : Bool := (List.range n).all fun i => chkCode (exec ES' 3000 (fun _ => none) (blkAt (bodyOf Tryz.f141) 1) (rowC (a + i)).start) (rowC (a + i)) [(0, rowLk)]
end Go.Proofs.YtmogojlijkddpaaGreat
namespace Go.Vm
open Go.Proofs.YtmogojlijkddpaaGreat (Q12 of12)
def cs (l : List Int) : List IE := l.map .const
def gLk0 : Look := ⟨vars 12 8, [], [.ext 65 (cs gBX ++ vars 12 4), .ext 65 (cs gBY ++ vars 16 4)], []⟩
def gLk1 : Look := ⟨vars 12 4 ++ vars 4 4, [], [.ext 69 (cs gBY)], []⟩
def gLk2 : Look := ⟨vars 0 4 ++ vars 12 4, [], [.ext 69 (cs gBX)], []⟩
def gLk3 : Look := ⟨vars 0 8, [], [.ext 69 (cs gBX)], []⟩
theorem cs_eval (l : List Int) (ρ : Nat -> Int) : (cs l).map (IE.eval ρ) = l := by
  unfold cs
  rw [List.map_map]
  exact (List.map_congr_left fun x _ => rfl).trans (List.map_id l)
section
variable {X : Tk}
theorem gNo (h : FJ X) {s : Sm} {k : Nat} {L : Look} {l : List Int} (hl : l.length = 28) (hb : bn l < p224) (hm : Con.ext 69 (cs l) ∈ L.ks) : EndP X s k L := fun o ho ρ hs x hx => by
  have := setNoT h (a := l) hl (tok (hs.ks _ hm) (cs_eval l ρ))
  exact absurd hb this
theorem g_end0 (h : FO X) : EndP X gPS 0 gLk0 := by
  refine endP_of _ 82 _ rfl rfl (fun ρ => Q4 ρ 12 ++ Q4 ρ 16) (fun ρ => by kernel_rfl) fun ρ hs => (h.gen _).2 ?_
  refine Eq.mp (by kernel_rfl : (okE (Q4 ρ 12) /\ okE (Q4 ρ 16) /\ dv (Q4 ρ 12) = φ gX /\ dv (Q4 ρ 16) = φ gY) = _) ?_
  have a := setBT h.toFJ (a := gBX) (w := Q4 ρ 12) rfl rfl (tok (hs.ks (.ext 65 (cs gBX ++ vars 12 4)) (by simp [gLk0])) (by kernel_rfl))
  have b := setBT h.toFJ (a := gBY) (w := Q4 ρ 16) rfl rfl (tok (hs.ks (.ext 65 (cs gBY ++ vars 16 4)) (by simp [gLk0])) (by kernel_rfl))
  have ex : bn gBX = gX := by decide
  have ey : bn gBY = gY := by decide
  rw [ex] at a
  rw [ey] at b
  exact ⟨a.2.1, b.2.1, a.2.2, b.2.2⟩
theorem endP_all {s : Sm} {k n : Nat} {L : Look} {o : SmO} (h0 : s.nv = 0) (hn : L.nums = vars 0 n) (ho : s.outs[k]? = some o) (hk : ∀ x ∈ o.post, Con.ext x.1 x.2 ∈ L.ks) (hb : (o.post.all fun x => x.2.all (·.okb n)) = true) : EndP X s k L := fun o' ho' ρ hs x hx => by
  rw [ho] at ho'
  simp only [Option.some.injEq] at ho'
  subst ho'
  have := hs.ks _ (hk x hx)
  simp only [Con.holds] at this
  rw [List.map_congr_left fun e he => ?_]
  · exact this
  · refine IE.eval_ext (n := n) (fun i hi => ?_) (IE.ok_of (List.all_eq_true.1 (List.all_eq_true.1 hb x hx) e he))
    unfold numsOf
    rw [if_neg (by omega), hn, h0]
    unfold vars
    rw [List.getElem?_map, List.getElem?_range (by omega)]
    simp [IE.eval]
theorem blk_bok {P : Program} {fn : Func} {id : Nat} {sp : Bs} (hn : nodupB ((blocksOf (bodyOf fn)).map (·.1)) = true) (h : CodeSp P X (blkAt (bodyOf fn) id) sp) :
    ∀ body, fn.body = some body -> BOK P X (blockB id sp) body := fun body hb => by
  have e : bodyOf fn = body := by unfold bodyOf; rw [hb]
  rw [<- e]
  refine BOK_of fun i b hm sp' hs' => ?_
  unfold blockB at hs'
  split at hs'
  · rename_i hi
    simp only [Option.some.injEq] at hs'
    subst hi hs'
    have hf : (blocksOf (bodyOf fn)).find? (fun x => x.1 == i) = some (i, b) := by
      have hn := nodupB_spec hn
      generalize blocksOf (bodyOf fn) = l at hn hm
      induction l with
      | nil => simp at hm
      | cons x l ih =>
        simp only [List.map_cons, List.nodup_cons] at hn
        rcases List.mem_cons.1 hm with rfl | hm
        · simp
        · have : x.1 ≠ i := fun e => hn.1 (List.mem_map.2 ⟨_, hm, e.symm⟩)
          rw [List.find?_cons_of_neg (by simpa using this)]
          exact ih hn.2 hm
    unfold blkAt at h
    rw [hf] at h
    exact h
  · cases hs'
end
def gtLk : Look := ⟨vars 0 10088, [], (match gtS.outs with | [o] => o.post.map fun x => Con.ext x.1 x.2 | _ => []), []⟩
end Go.Vm
namespace Go.Proofs.YtmogojlijkddpaaGreat
open Go.Vm
variable {X : Tk}
theorem g_chk : chkFn (execCall EF' 3000 156 gPS.args gPS.start) gPS [(0, gLk0), (0, gLk1), (0, gLk2), (0, gLk3)] = true := by kernel_rfl
theorem g_ok (h : FO X) : SpecOK Tryz.prog X 156 gPS.spec := fn_sum (EF'_ok h.toFK) g_chk fun d hd => by
  simp only [List.mem_cons, List.not_mem_nil, or_false] at hd
  rcases hd with rfl | rfl | rfl | rfl
  · exact g_end0 h
  · exact gNo h.toFJ (l := gBY) rfl (by decide) (by simp [gLk1])
  · exact gNo h.toFJ (l := gBX) rfl (by decide) (by simp [gLk2])
  · exact gNo h.toFJ (l := gBX) rfl (by decide) (by simp [gLk3])
theorem tselQ_chk : chkFn (execCall EE 3000 143 tselQS.args tselQS.start) tselQS [(0, tselLk)] = true := by kernel_rfl
theorem tselQ_end (h : FK X) : EndP X tselQS 0 tselLk := tsel_end h
theorem tselQ_ok (h : FK X) : SpecOK Tryz.prog X 143 tselQS.spec := fn_sum (EE_ok h) tselQ_chk (one_ds (tselQ_end h))
def specJ' (f : FuncId) : Option (Fs) := match f with | 143 => some (orSp tselS.spec tselQS.spec) | 156 => some gPS.spec | f => specF' f
theorem specJ'_ok (h : FO X) : ∀ f sp, specJ' f = some sp -> FnOK Tryz.prog f /\ SpecOK Tryz.prog X f sp := fun f sp hs => by
  unfold specJ' at hs
  split at hs
  · simp only [Option.some.injEq] at hs; subst hs; exact ⟨fn_ok Tryz.func143 (by kernel_rfl) (by kernel_rfl), (tsel_ok h.toFK).or (tselQ_ok h.toFK)⟩
  · simp only [Option.some.injEq] at hs; subst hs; exact ⟨fn_ok Tryz.func156 (by kernel_rfl) (by kernel_rfl), g_ok h⟩
  · exact specF'_ok h.toFK f sp hs
def EJ' : Env := mkEnv Tryz.prog tyTree2 fnTree ext0 specJ'
theorem EJ'_ok (h : FO X) : EnvOK Tryz.prog X EJ' := mkEnv_ok mixed_ok tys2_ok fns_ok names_ok ext0_ok (specJ'_ok h)
end Go.Proofs.YtmogojlijkddpaaGreat
namespace Go.Vm
open Go.Proofs.YtmogojlijkddpaaGreat (Q12 of12)
def mulR (B : P3) : Nat -> P3
  | 0 => B
  | n + 1 => adI (mulR B n) B
def rowI (B : P3) : Nat -> P3
  | 0 => farI
  | n + 1 => mulR B n
def baseR : Nat -> P3
  | 0 => (φ gX, φ gY, 1)
  | r + 1 => dbI (dbI (dbI (dbI (baseR r))))
def sbF (b : Nat -> Int) : Nat -> P3
  | 0 => farI
  | j + 1 => adI (adI (sbF b j) (rowI (baseR (55 - 2 * j)) ((b j).toNat / 16))) (rowI (baseR (54 - 2 * j)) ((b j).toNat % 16))
def SbP (l : List Int) : Prop := okP (l.drop 28) /\ pt (l.drop 28) = sbF (nth l) 28
structure FQ (X : Tk) : Prop extends FO X where
  sb : ∀ l, X 84 l ↔ SbP l
theorem of180 {a : List Int} (h : a.length = 180) : ∃ σ, a = V180 σ 0 := ⟨fun i => nth a i, by
  apply List.ext_getElem?
  intro i
  unfold V180
  rw [List.getElem?_map]
  by_cases hi : i < 180
  · rw [List.getElem?_range hi]
    simp only [Option.map_some, Nat.zero_add]
    rw [List.getElem?_eq_getElem (by omega), nth_get a i (by omega)]
  · rw [List.getElem?_eq_none (by omega), List.getElem?_eq_none (by simp; omega)]
    rfl⟩
section
variable {X : Tk}
theorem tselL (h : FK X) {n : Int} {T r : List Int} (hT : T.length = 180) (hr : r.length = 12) (t : X 74 ([n] ++ T ++ r)) : r = tabAt T n.toNat := by
  obtain ⟨σ, rfl⟩ := of180 hT
  exact tselT h hr t
theorem row_fact (h : FO X) {T N : List Int} {B : P3} (hT : T.length = 180) (t : X 83 (T ++ N)) (ok : okP (T.take 12)) (hB : pt (T.take 12) = B) :
    okT T /\ okP N /\ pt N = dbI (dbI (dbI (dbI B))) /\ ∀ n, n < 16 -> pt (tabAt T n) = rowI B n := by
  have t' := (h.row _).1 t
  have e1 : (T ++ N).take 12 = T.take 12 := List.take_append_of_le_length (by omega)
  have e2 : (T ++ N).take 180 = T := by rw [<- hT]; exact List.take_left
  have e3 : (T ++ N).drop 180 = N := by rw [<- hT]; exact List.drop_left
  have e4 : ∀ j, j < 15 -> ((T ++ N).drop (12 * j)).take 12 = (T.drop (12 * j)).take 12 := fun j hj => by
    rw [List.drop_append_of_le_length (by omega), List.take_append_of_le_length (by rw [List.length_drop]; omega)]
  unfold RowP at t'
  rw [e1, e2, e3] at t'
  obtain ⟨a1, a2, a3, a4⟩ := t' ok
  rw [hB] at a4
  refine ⟨a1, a2, a4, ?_⟩
  have m : ∀ n, n < 15 -> pt ((T.drop (12 * n)).take 12) = mulR B n := fun n => by
    induction n with
    | zero => intro _; rw [Nat.mul_zero, List.drop_zero]; exact hB
    | succ n ih =>
      intro hn
      have := a3 n (by omega)
      rw [show 12 * n + 12 = 12 * (n + 1) by omega, e4 (n + 1) hn, e4 n (by omega), hB, ih (by omega)] at this
      exact this
  intro n hn
  cases n with
  | zero => exact pt_farL
  | succ n => exact m n (by omega)
end
def sbRow (r : Nat) : List IE := if r = 0 then vars 40 8 ++ cs [18446744069414584320, 18446744073709551615, 0, 0] ++ vars 48 168 else vars (36 + 180 * r) 180
def sbTab : List Con := .ext 82 (vars 40 8) :: (List.range 56).map fun r => .ext 83 (sbRow r ++ vars (216 + 180 * r) 12)
def sbP (j : Nat) : List IE := if j = 0 then cs farL else vars (10116 + 50 * j) 12
def sbK (j : Nat) : List Con := [.eq (10128 + 50 * j) (.bin .shr .u8 (.var (12 + j)) (.const 4)), .ext 74 ([.var (10128 + 50 * j)] ++ sbRow (55 - 2 * j) ++ vars (10129 + 50 * j) 12), .ext 70 (sbP j ++ vars (10129 + 50 * j) 12 ++ vars (10141 + 50 * j) 12), .eq (10153 + 50 * j) (.bin .and .u8 (.var (12 + j)) (.const 15)), .ext 74 ([.var (10153 + 50 * j)] ++ sbRow (54 - 2 * j) ++ vars (10154 + 50 * j) 12), .ext 70 (vars (10141 + 50 * j) 12 ++ vars (10154 + 50 * j) 12 ++ vars (10166 + 50 * j) 12)]
def sbLk : Look := ⟨vars 11516 12, (List.range 28).map (fun i => (12 + i, ((0 : Int), (255 : Int)))), sbTab ++ (List.range 28).flatMap sbK, []⟩
theorem sbRow_len (ρ : Nat -> Int) (r : Nat) : ((sbRow r).map (IE.eval ρ)).length = 180 := by
  unfold sbRow
  split <;> simp [vars, cs]
theorem sbP_len (ρ : Nat -> Int) (j : Nat) : ((sbP j).map (IE.eval ρ)).length = 12 := by
  unfold sbP
  split <;> simp [vars, cs, farL]
theorem vars_take (i n m : Nat) (h : m <= n) : (vars i n).take m = vars i m := by
  unfold vars
  rw [<- List.map_take, List.take_range, Nat.min_eq_left h]
theorem vars_len (ρ : Nat -> Int) (i n : Nat) : ((vars i n).map (IE.eval ρ)).length = n := by simp [vars]
section
variable {X : Tk} {ρ : Nat -> Int}
theorem sb_tok (hs : Seen X sbLk ρ) {r : Nat} (hr : r < 56) : X 83 ((sbRow r).map (IE.eval ρ) ++ (vars (216 + 180 * r) 12).map (IE.eval ρ)) :=
  tok (hs.ks (.ext 83 (sbRow r ++ vars (216 + 180 * r) 12)) (List.mem_append_left _ (List.mem_cons_of_mem _ (List.mem_map.2 ⟨r, List.mem_range.2 hr, rfl⟩)))) List.map_append
theorem sb_base (h : FO X) (hs : Seen X sbLk ρ) : ∀ r, r < 56 -> okP (((sbRow r).map (IE.eval ρ)).take 12) /\ pt (((sbRow r).map (IE.eval ρ)).take 12) = baseR r
  | 0, _ => by
    have t : X 82 (Q4 ρ 40 ++ Q4 ρ 44) := tok (hs.ks (.ext 82 (vars 40 8)) (List.mem_append_left _ List.mem_cons_self)) (by kernel_rfl)
    have t' : okE (Q4 ρ 40) /\ okE (Q4 ρ 44) /\ dv (Q4 ρ 40) = φ gX /\ dv (Q4 ρ 44) = φ gY := Eq.mp (by kernel_rfl) ((h.gen _).1 t)
    have e : ((sbRow 0).map (IE.eval ρ)).take 12 = Q4 ρ 40 ++ Q4 ρ 44 ++ oneL := by kernel_rfl
    rw [e]
    refine ⟨Eq.mp (by kernel_rfl : (okE (Q4 ρ 40) /\ okE (Q4 ρ 44) /\ okE oneL) = _) ⟨t'.1, t'.2.1, by decide, by decide⟩, ?_⟩
    have e2 : pt (Q4 ρ 40 ++ Q4 ρ 44 ++ oneL) = (dv (Q4 ρ 40), dv (Q4 ρ 44), dv oneL) := rfl
    rw [e2, t'.2.2.1, t'.2.2.2, dv_one]
    rfl
  | r + 1, hr => by
    obtain ⟨b1, b2⟩ := sb_base h hs r (by omega)
    obtain ⟨_, c2, c3, _⟩ := row_fact h (sbRow_len ρ r) (sb_tok hs (by omega)) b1 b2
    have e : ((sbRow (r + 1)).map (IE.eval ρ)).take 12 = (vars (216 + 180 * r) 12).map (IE.eval ρ) := by
      unfold sbRow
      rw [if_neg (by omega), <- List.map_take, vars_take _ _ _ (by decide)]
      rw [show 36 + 180 * (r + 1) = 216 + 180 * r by omega]
    rw [e]
    exact ⟨c2, c3⟩
theorem sb_row (h : FO X) (hs : Seen X sbLk ρ) {r : Nat} (hr : r < 56) : okT ((sbRow r).map (IE.eval ρ)) /\ ∀ n, n < 16 -> pt (tabAt ((sbRow r).map (IE.eval ρ)) n) = rowI (baseR r) n := by
  obtain ⟨b1, b2⟩ := sb_base h hs r hr
  obtain ⟨a, _, _, d⟩ := row_fact h (sbRow_len ρ r) (sb_tok hs hr) b1 b2
  exact ⟨a, d⟩
theorem sb_pick (h : FO X) (hs : Seen X sbLk ρ) {r : Nat} (hr : r < 56) {n : Int} {o : List Int} (hn : n.toNat < 16) (ho : o.length = 12) (t : X 74 ([n] ++ (sbRow r).map (IE.eval ρ) ++ o)) : okP o /\ pt o = rowI (baseR r) n.toNat := by
  obtain ⟨a, b⟩ := sb_row h hs hr
  have e := tselL h.toFK (sbRow_len ρ r) ho t
  rw [e]
  exact ⟨tabAt_ok a hn, b _ hn⟩
theorem sb_byte (h : FO X) (hs : Seen X sbLk ρ) {j : Nat} (hj : j < 28) {P : P3} (ok : okP ((sbP j).map (IE.eval ρ))) (hP : pt ((sbP j).map (IE.eval ρ)) = P) :
    okP ((sbP (j + 1)).map (IE.eval ρ)) /\ pt ((sbP (j + 1)).map (IE.eval ρ)) = adI (adI P (rowI (baseR (55 - 2 * j)) ((ρ (12 + j)).toNat / 16))) (rowI (baseR (54 - 2 * j)) ((ρ (12 + j)).toNat % 16)) := by
  have hm : ∀ c ∈ sbK j, c.holds X ρ := fun c hc => hs.ks c (List.mem_append_right _ (List.mem_flatMap.2 ⟨j, List.mem_range.2 hj, hc⟩))
  have hb : byteOK (ρ (12 + j)) := hs.bds (12 + j, (0, 255)) (List.mem_map.2 ⟨j, List.mem_range.2 hj, rfl⟩)
  have k0 := hm (.eq (10128 + 50 * j) (.bin .shr .u8 (.var (12 + j)) (.const 4))) (by simp [sbK])
  have k1 := hm (.ext 74 ([.var (10128 + 50 * j)] ++ sbRow (55 - 2 * j) ++ vars (10129 + 50 * j) 12)) (by simp [sbK])
  have k2 := hm (.ext 70 (sbP j ++ vars (10129 + 50 * j) 12 ++ vars (10141 + 50 * j) 12)) (by simp [sbK])
  have k3 := hm (.eq (10153 + 50 * j) (.bin .and .u8 (.var (12 + j)) (.const 15))) (by simp [sbK])
  have k4 := hm (.ext 74 ([.var (10153 + 50 * j)] ++ sbRow (54 - 2 * j) ++ vars (10154 + 50 * j) 12)) (by simp [sbK])
  have k5 := hm (.ext 70 (vars (10141 + 50 * j) 12 ++ vars (10154 + 50 * j) 12 ++ vars (10166 + 50 * j) 12)) (by simp [sbK])
  simp only [Con.holds, IE.eval] at k0 k3
  rw [shr4] at k0
  rw [and15 hb] at k3
  have h1 : 0 <= ρ (12 + j) := hb.1
  have h2 : ρ (12 + j) <= 255 := hb.2
  have n0 : (ρ (10128 + 50 * j)).toNat = (ρ (12 + j)).toNat / 16 := by rw [k0]; omega
  have n1 : (ρ (10153 + 50 * j)).toNat = (ρ (12 + j)).toNat % 16 := by rw [k3]; omega
  have t1 : X 74 ([ρ (10128 + 50 * j)] ++ (sbRow (55 - 2 * j)).map (IE.eval ρ) ++ (vars (10129 + 50 * j) 12).map (IE.eval ρ)) := tok k1 (by rw [List.map_append, List.map_append]; rfl)
  have t4 : X 74 ([ρ (10153 + 50 * j)] ++ (sbRow (54 - 2 * j)).map (IE.eval ρ) ++ (vars (10154 + 50 * j) 12).map (IE.eval ρ)) := tok k4 (by rw [List.map_append, List.map_append]; rfl)
  obtain ⟨a1, a2⟩ := sb_pick h hs (r := 55 - 2 * j) (by omega) (by omega) (vars_len _ _ _) t1
  obtain ⟨c1, c2⟩ := sb_pick h hs (r := 54 - 2 * j) (by omega) (by omega) (vars_len _ _ _) t4
  have t2 : X 70 ((sbP j).map (IE.eval ρ) ++ (vars (10129 + 50 * j) 12).map (IE.eval ρ) ++ (vars (10141 + 50 * j) 12).map (IE.eval ρ)) := tok k2 (by rw [List.map_append, List.map_append])
  have t5 : X 70 ((vars (10141 + 50 * j) 12).map (IE.eval ρ) ++ (vars (10154 + 50 * j) 12).map (IE.eval ρ) ++ (vars (10166 + 50 * j) 12).map (IE.eval ρ)) := tok k5 (by rw [List.map_append, List.map_append])
  obtain ⟨s1, s2⟩ := addPT h.toFK (sbP_len _ _) (vars_len _ _ _) (vars_len _ _ _) ok a1 t2
  obtain ⟨s3, s4⟩ := addPT h.toFK (vars_len _ _ _) (vars_len _ _ _) (vars_len _ _ _) s1 c1 t5
  have e : sbP (j + 1) = vars (10166 + 50 * j) 12 := by
    unfold sbP
    rw [if_neg (by omega), show 10116 + 50 * (j + 1) = 10166 + 50 * j by omega]
  rw [e]
  exact ⟨s3, by rw [s4, s2, hP, a2, c2, n0, n1]⟩
theorem sb_end (h : FQ X) : EndP X sbS 0 sbLk := by
  refine endP_of _ 84 _ rfl rfl (fun ρ => B28 ρ 12 ++ Q12 ρ 11516) (fun ρ => by kernel_rfl) fun ρ hs => (h.sb _).2 ?_
  have key : ∀ j, j <= 28 -> okP ((sbP j).map (IE.eval ρ)) /\ pt ((sbP j).map (IE.eval ρ)) = sbF (fun i => ρ (12 + i)) j := fun j => by
    induction j with
    | zero =>
      intro _
      have e : (sbP 0).map (IE.eval ρ) = farL := cs_eval farL ρ
      rw [e]
      exact ⟨farL_ok, pt_farL⟩
    | succ j ih =>
      intro hj
      obtain ⟨a, b⟩ := ih (by omega)
      exact sb_byte h.toFO hs (by omega) a b
  obtain ⟨a, b⟩ := key 28 (by omega)
  have e : (sbP 28).map (IE.eval ρ) = Q12 ρ 11516 := by kernel_rfl
  rw [e] at a b
  have d : (B28 ρ 12 ++ Q12 ρ 11516).drop 28 = Q12 ρ 11516 := by kernel_rfl
  unfold SbP
  rw [d, b]
  refine ⟨a, ?_⟩
  have c : ∀ (f g : Nat -> Int) (n : Nat), (∀ i, i < n -> f i = g i) -> sbF f n = sbF g n := fun f g n => by
    induction n with
    | zero => intro _; rfl
    | succ n ih =>
      intro hfg
      unfold sbF
      rw [ih (fun i hi => hfg i (by omega)), hfg n (by omega)]
  refine c _ _ 28 fun i hi => ?_
  exact ((nth_app_l _ _ (by rw [B28_len]; exact hi)).trans (nth_B28 12 i hi)).symm
end
section
variable {p : Nat} [NeZero p] {b : Fin p}
theorem dbl_eq {X Y Z : Fin p} (hc : Y * Y * Z = X * X * X - (X * Z * Z + X * Z * Z + X * Z * Z) + b * Z * Z * Z) : dblT (OF p) b (X, Y, Z) = rcb (OF p) b (X, Y, Z) (X, Y, Z) := by
  refine Prod.ext ?_ (Prod.ext ?_ ?_)
  · simp only [dblT, rcb, OF]; grobner
  · simp only [dblT, rcb, OF]; grobner
  · simp only [dblT, rcb, OF]; grobner
theorem rep_dbl (h : Cv p b) {T : Fin p × Fin p × Fin p} {g : G p} (hg : onG b g) (hT : Rep T g) : Rep (dblT (OF p) b T) (gadd b g g) := by
  have e : dblT (OF p) b T = rcb (OF p) b T T := by
    obtain ⟨l, l0, a1, a2, a3⟩ := hT
    obtain ⟨X, Y, Z⟩ := T
    refine dbl_eq ?_
    simp only at a1 a2 a3
    cases g with
    | none =>
      simp only [lift] at a1 a2 a3
      subst a1; subst a2; subst a3
      grind
    | some t =>
      have ht : t.2 * t.2 = cu b t.1 := hg
      unfold cu at ht
      simp only [lift] at a1 a2 a3
      subst a1; subst a2; subst a3
      grobner
  rw [e]
  exact rep_add h hg hg hT hT
end
theorem rep_dbI {P : P3} {g : GN} (hg : onN g) (h : Rep P g) : Rep (dbI P) (addN g g) := rep_dbl cvN hg h
theorem rep_adI {P Q : P3} {g k : GN} (hg : onN g) (hk : onN k) (h : Rep P g) (h' : Rep Q k) : Rep (adI P Q) (addN g k) := rep_add cvN hg hk h h'
theorem mulN_add {g : GN} (hg : onN g) (m n : Nat) : addN (mulN m g) (mulN n g) = mulN (m + n) g := (gmul_add cvN hg m n).symm
theorem mulN_one {g : GN} (hg : onN g) : mulN 1 g = g := gmul_one cvN hg
theorem mulN_mul {g : GN} (hg : onN g) (m n : Nat) : mulN n (mulN m g) = mulN (m * n) g := (gmul_mul cvN hg m n).symm
theorem rep_far {g : GN} : Rep farI (mulN 0 g) := rep_lift cvN.pr none
def RM (g : GN) (P : P3) (m : Nat) : Prop := Rep P (mulN m g)
section
variable {g : GN}
theorem RM.add (hg : onN g) {P Q : P3} {m n : Nat} (h : RM g P m) (h' : RM g Q n) : RM g (adI P Q) (m + n) := by
  unfold RM
  rw [<- mulN_add hg]
  exact rep_adI (mulN_on hg m) (mulN_on hg n) h h'
theorem RM.dbl (hg : onN g) {P : P3} {m : Nat} (h : RM g P m) : RM g (dbI P) (2 * m) := by
  unfold RM
  rw [<- mulN_dbl hg]
  exact rep_dbI (mulN_on hg m) h
theorem RM.dbl4 (hg : onN g) {P : P3} {m : Nat} (h : RM g P m) : RM g (dbI (dbI (dbI (dbI P)))) (16 * m) := by
  have := RM.dbl hg (RM.dbl hg (RM.dbl hg (RM.dbl hg h)))
  rw [show 2 * (2 * (2 * (2 * m))) = 16 * m by omega] at this
  exact this
theorem RM.cast (_ : onN g) {P : P3} {m n : Nat} (h : RM g P m) (e : m = n) : RM g P n := e ▸ h
theorem rm_mulR (hg : onN g) {B : P3} {k : Nat} (h : RM g B k) : ∀ n, RM g (mulR B n) (k * (n + 1))
  | 0 => RM.cast hg h (by omega)
  | n + 1 => RM.cast hg (RM.add hg (rm_mulR hg h n) h) (by rw [Nat.mul_succ k (n + 1)])
theorem rm_rowI (hg : onN g) {B : P3} {k : Nat} (h : RM g B k) : ∀ n, RM g (rowI B n) (k * n)
  | 0 => rep_far
  | n + 1 => rm_mulR hg h n
theorem rm_tabI (hg : onN g) {Q : P3} (h : RM g Q 1) {n : Nat} (hn : n < 16) : RM g (tabI Q n) n := by
  have t2 := RM.dbl hg h
  have t3 := RM.add hg t2 h
  have t4 := RM.dbl hg t2
  have t5 := RM.add hg t4 h
  have t6 := RM.dbl hg t3
  have t7 := RM.add hg t6 h
  have t8 := RM.dbl hg t4
  have t9 := RM.add hg t8 h
  have t10 := RM.dbl hg t5
  have t11 := RM.add hg t10 h
  have t12 := RM.dbl hg t6
  have t13 := RM.add hg t12 h
  have t14 := RM.dbl hg t7
  have t15 := RM.add hg t14 h
  match n, hn with
  | 0, _ => exact rep_far
  | 1, _ => exact h
  | 2, _ => exact t2
  | 3, _ => exact t3
  | 4, _ => exact t4
  | 5, _ => exact t5
  | 6, _ => exact t6
  | 7, _ => exact t7
  | 8, _ => exact t8
  | 9, _ => exact t9
  | 10, _ => exact t10
  | 11, _ => exact t11
  | 12, _ => exact t12
  | 13, _ => exact t13
  | 14, _ => exact t14
  | 15, _ => exact t15
  | n + 16, h' => exact absurd h' (by omega)
theorem rm_step (hg : onN g) {S : Nat -> P3} (hS : ∀ n, n < 16 -> RM g (S n) n) {f : Bool} {P : P3} {m k : Nat} (h : RM g P m) (hf : f = true -> m = 0) (hk : k < 256) : RM g (stepI S f k P) (m * 256 + k) := by
  have a : RM g (if f then P else dbI (dbI (dbI (dbI P)))) (16 * m) := by
    cases f with
    | true => exact RM.cast hg h (by rw [hf rfl])
    | false => exact RM.dbl4 hg h
  have b := RM.add hg a (hS (k / 16) (by omega))
  have c := RM.add hg (RM.dbl4 hg b) (hS (k % 16) (by omega))
  exact RM.cast hg c (by omega)
theorem rm_loop (hg : onN g) {S : Nat -> P3} (hS : ∀ n, n < 16 -> RM g (S n) n) : ∀ {l : List Int} {f : Bool} {P : P3} {m : Nat}, (∀ x ∈ l, byteOK x) -> RM g P m -> (f = true -> m = 0) -> RM g (loopI S l f P) (l.foldl (fun a b => a * 256 + b.toNat) m)
  | [], _, _, _, _, h, _ => h
  | k :: l, f, P, m, hl, h, hf => by
    have hk := hl k (by simp)
    unfold byteOK at hk
    rw [loopI_cons]
    exact rm_loop hg hS (fun x hx => hl x (by simp [hx])) (rm_step hg hS h hf (k := k.toNat) (by omega)) (fun e => by cases e)
end
theorem fold_bn : ∀ {l : List Int} {m : Nat}, (∀ x ∈ l, byteOK x) -> ((l.foldl (fun a b => a * 256 + b.toNat) m : Nat) : Int) = l.foldl (fun a b => a * 256 + b) (m : Int)
  | [], _, _ => rfl
  | k :: l, m, hl => by
    have hk := hl k (by simp)
    unfold byteOK at hk
    rw [List.foldl_cons, List.foldl_cons, fold_bn fun x hx => hl x (by simp [hx])]
    congr 1
    omega
theorem rm_sm {g : GN} (hg : onN g) {Q : P3} (h : RM g Q 1) {l : List Int} (hl : ∀ x ∈ l, byteOK x) : RM g (loopI (tabI Q) l true farI) (bn l).toNat := by
  have a := rm_loop hg (S := tabI Q) (fun n hn => rm_tabI hg h hn) (f := true) (m := 0) hl rep_far (fun _ => rfl)
  have e : l.foldl (fun a b => a * 256 + b.toNat) 0 = (bn l).toNat := by
    have : ((l.foldl (fun a b => a * 256 + b.toNat) 0 : Nat) : Int) = l.foldl (fun a b => a * 256 + b) 0 := fold_bn (m := 0) hl
    unfold bn
    omega
  exact RM.cast hg a e
theorem rm_base : ∀ r, RM GG (baseR r) (16 ^ r)
  | 0 => by
    show Rep _ (mulN 1 GG)
    rw [mulN_one GG_on]
    exact rep_lift cvN.pr GG
  | r + 1 => RM.cast GG_on (RM.dbl4 GG_on (rm_base r)) (by rw [Nat.pow_succ, Nat.mul_comm])
def sbN (b : Nat -> Int) : Nat -> Nat
  | 0 => 0
  | j + 1 => sbN b j * 256 + (b j).toNat
theorem rm_sb (b : Nat -> Int) (hb : ∀ j, j < 28 -> byteOK (b j)) : ∀ j, j <= 28 -> RM GG (sbF b j) (sbN b j * 256 ^ (28 - j))
  | 0, _ => RM.cast GG_on rep_far (by simp [sbN])
  | j + 1, hj => by
    have ih := rm_sb b hb j (by omega)
    have k := hb j (by omega)
    unfold byteOK at k
    have r1 := rm_rowI GG_on (rm_base (55 - 2 * j)) ((b j).toNat / 16)
    have r0 := rm_rowI GG_on (rm_base (54 - 2 * j)) ((b j).toNat % 16)
    refine RM.cast GG_on (RM.add GG_on (RM.add GG_on ih r1) r0) ?_
    have e1 : 16 ^ (55 - 2 * j) = 16 * 256 ^ (27 - j) := by
      rw [show 55 - 2 * j = 2 * (27 - j) + 1 by omega, Nat.pow_succ, Nat.pow_mul, Nat.mul_comm]
    have e0 : 16 ^ (54 - 2 * j) = 256 ^ (27 - j) := by
      rw [show 54 - 2 * j = 2 * (27 - j) by omega, Nat.pow_mul]
    have e2 : 256 ^ (28 - j) = 256 * 256 ^ (27 - j) := by
      rw [show 28 - j = (27 - j) + 1 by omega, Nat.pow_succ, Nat.mul_comm]
    rw [e1, e0, e2, show 28 - (j + 1) = 27 - j by omega, show sbN b (j + 1) = sbN b j * 256 + (b j).toNat from rfl]
    generalize 256 ^ (27 - j) = K
    have d := Nat.div_add_mod (b j).toNat 16
    generalize (b j).toNat / 16 = q at *
    generalize (b j).toNat % 16 = r at *
    rw [<- d, Nat.add_mul, Nat.add_mul]
    have x1 : sbN b j * (256 * K) = sbN b j * 256 * K := (Nat.mul_assoc _ _ _).symm
    have x2 : 16 * K * q = 16 * q * K := by rw [Nat.mul_assoc, Nat.mul_comm K q, Nat.mul_assoc]
    have x3 : K * r = r * K := Nat.mul_comm _ _
    rw [x1, x2, x3]
    omega
theorem sbN_fold (l : List Int) : ∀ j, j <= l.length -> sbN (nth l) j = (l.take j).foldl (fun a b => a * 256 + b.toNat) 0
  | 0, _ => rfl
  | j + 1, hj => by
    unfold sbN
    rw [sbN_fold l j (by omega), List.take_succ_eq_append_getElem (by omega), List.foldl_append, nth_get l j (by omega)]
    rfl
theorem rm_sbF {l : List Int} (hl : l.length = 28) (hb : ∀ x ∈ l, byteOK x) : RM GG (sbF (nth l) 28) (bn l).toNat := by
  have a := rm_sb (nth l) (fun j hj => by rw [nth_get l j (by omega)]; exact hb _ (List.getElem_mem _)) 28 (by omega)
  refine RM.cast GG_on a ?_
  rw [sbN_fold l 28 (by omega), List.take_of_length_le (by omega)]
  have : ((l.foldl (fun a b => a * 256 + b.toNat) 0 : Nat) : Int) = l.foldl (fun a b => a * 256 + b) 0 := fold_bn (m := 0) hb
  unfold bn
  simp only [Nat.sub_self, Nat.pow_zero, Nat.mul_one]
  omega
theorem x_far {P : P3} {g : GN} (h : Rep P g) (hz : P.2.2 = 0) (r : Int) : ¬ xIs g r := by
  have e := h.aff_eq cvN.pr
  unfold aff at e
  rw [if_pos hz] at e
  subst e
  exact fun q => q
theorem x_is {P : P3} {g : GN} (h : Rep P g) (hz : P.2.2 ≠ 0) {x : Int} (hx : red x) (e : φ x = P.1 * finv P.2.2) (r : Int) : xIs g r ↔ x % n224 = r := by
  have e' := h.aff_eq cvN.pr
  unfold aff at e'
  rw [if_neg hz] at e'
  subst e'
  show ((P.1 * finv P.2.2).val : Int) % n224 = r ↔ _
  rw [<- e, φ_val hx]
theorem xor1 {b : Int} (h : b = 0 \/ b = 1) : intBin .xor .u64 1 b = 1 - b := by rcases h with rfl | rfl <;> decide
theorem orb {b c : Int} (hb : b = 0 \/ b = 1) (hc : c = 0 \/ c = 1) : intBin .or .u64 b c = if b = 1 \/ c = 1 then 1 else 0 := by
  rcases hb with rfl | rfl <;> rcases hc with rfl | rfl <;> decide
theorem andb {b c : Int} (hb : b = 0 \/ b = 1) (hc : c = 0 \/ c = 1) : intBin .and .u64 b c = if b = 1 /\ c = 1 then 1 else 0 := by
  rcases hb with rfl | rfl <;> rcases hc with rfl | rfl <;> decide
theorem neg64 {b : Int} (h : b = 0 \/ b = 1) : intBin .sub .u64 0 b = if b = 1 then 18446744073709551615 else 0 := by rcases h with rfl | rfl <;> decide
theorem xor_range (x y : Int) : 0 <= intBin .xor .u64 x y /\ intBin .xor .u64 x y <= 18446744073709551615 := by
  have h := wrap_range .u64 ((BitVec.ofInt 64 x ^^^ BitVec.ofInt 64 y).toNat : Int)
  exact ⟨h.1, h.2⟩
theorem xor64_zero {t : Int} (h0 : 0 <= t) (h1 : t <= 18446744073709551615) : intBin .xor .u64 t 0 = t := by
  show IntKind.u64.wrap ((BitVec.ofInt 64 t ^^^ BitVec.ofInt 64 0).toNat : Int) = t
  rw [show BitVec.ofInt 64 0 = 0#64 from rfl, BitVec.xor_zero, u64_back h0 h1]
theorem selx {t d k o : Int} (ht : 0 <= t /\ t <= 18446744073709551615) (hd : 0 <= d /\ d <= 18446744073709551615) (hk : k = 0 \/ k = 18446744073709551615)
    (ho : o = intBin .xor .u64 t (intBin .and .u64 k (intBin .xor .u64 t d))) : o = if k = 0 then t else d := by
  rcases hk with rfl | rfl
  · rw [and_zero, xor64_zero ht.1 ht.2] at ho
    rw [if_pos rfl]; exact ho
  · rw [and_ones _ (xor_range t d).1 (by have := (xor_range t d).2; omega), xx64 t hd.1 hd.2] at ho
    rw [if_neg (by decide)]; exact ho
theorem low0 {x y h l s c : Int} (e1 : y = intBin .mul .u64 x 15484011519437423339) (e2 : l + 2 ^ 64 * h = 1431345634452711997 * y) (e3 : s + 2 ^ 64 * c = l + x + 0) (hs : 0 <= s /\ s <= 18446744073709551615) : s = 0 := by
  have e : intBin .mul .u64 x 15484011519437423339 = (x * 15484011519437423339) % 18446744073709551616 := Go.IntKind.wrap_u64 _
  rw [e] at e1
  omega
theorem mont_n {a b T M D bw cy r : Int} (ha : 0 <= a /\ a < 26959946667150639794667015087019630673637144422540572481103610249216) (hb : 0 <= b /\ b < 26959946667150639794667015087019630673637144422540572481103610249216)
    (hT : 0 <= T /\ T < 115792089237316195423570985008687907853269984665640564039457584007913129639936) (hM : 0 <= M /\ M < 115792089237316195423570985008687907853269984665640564039457584007913129639936) (hD : 0 <= D /\ D < 115792089237316195423570985008687907853269984665640564039457584007913129639936) (hbw : bw = 0 \/ bw = 1) (hcy : cy = 0 \/ cy = 1)
    (e1 : 115792089237316195423570985008687907853269984665640564039457584007913129639936 * (T + 115792089237316195423570985008687907853269984665640564039457584007913129639936 * cy) = a * b + 26959946667150639794667015087019625940457807714424391721682722368061 * M)
    (e2 : D = T - 26959946667150639794667015087019625940457807714424391721682722368061 + 115792089237316195423570985008687907853269984665640564039457584007913129639936 * bw) (hr : r = if bw = 0 \/ cy = 1 then D else T) :
    0 <= r /\ r < 26959946667150639794667015087019625940457807714424391721682722368061 /\ ∃ k, r * 115792089237316195423570985008687907853269984665640564039457584007913129639936 = a * b + 26959946667150639794667015087019625940457807714424391721682722368061 * k := by
  have q0 : 0 <= a * b := Int.mul_nonneg ha.1 hb.1
  have q1 : a * b <= 26959946667150639794667015087019630673637144422540572481103610249215 * 26959946667150639794667015087019630673637144422540572481103610249215 := Int.mul_le_mul (by omega) (by omega) hb.1 (by omega)
  generalize a * b = q at *
  have hcy0 : cy = 0 := by rcases hcy with h | h <;> omega
  subst hcy0
  rcases hbw with rfl | rfl
  · rw [if_pos (.inl rfl)] at hr
    refine ⟨by omega, by omega, M - 115792089237316195423570985008687907853269984665640564039457584007913129639936, ?_⟩
    omega
  · rw [if_neg (by decide)] at hr
    refine ⟨by omega, by omega, M, ?_⟩
    omega
theorem msub_n {T D bw _ r : Int} (hT : 0 <= T /\ T < 26959946667150639794667015087019630673637144422540572481103610249216) (hD : 0 <= D /\ D < 115792089237316195423570985008687907853269984665640564039457584007913129639936) (hbw : bw = 0 \/ bw = 1)
    (e2 : D = T - 26959946667150639794667015087019625940457807714424391721682722368061 + 115792089237316195423570985008687907853269984665640564039457584007913129639936 * bw) (hr : r = if bw = 0 then D else T) :
    r = T % 26959946667150639794667015087019625940457807714424391721682722368061 := by
  rcases hbw with rfl | rfl
  · rw [if_pos rfl] at hr; omega
  · rw [if_neg (by decide)] at hr; omega
theorem or_add {k : IntKind} {x y : Int} {n : Nat} (hy : 0 <= y /\ y < 2 ^ n) (hx : 0 <= x) (hk : x * 2 ^ n + y < 2 ^ k.bits) (hw : ∀ z : Int, 0 <= z -> z < 2 ^ k.bits -> k.wrap z = z) : intBin .or k y (x * 2 ^ n) = y + x * 2 ^ n := by
  obtain ⟨X, rfl⟩ := Int.eq_ofNat_of_zero_le hx
  obtain ⟨Y, rfl⟩ := Int.eq_ofNat_of_zero_le hy.1
  have hY : Y < 2 ^ n := by have := hy.2; exact_mod_cast this
  have hXY : X * 2 ^ n + Y < 2 ^ k.bits := by exact_mod_cast hk
  have e1 : BitVec.ofInt k.bits ((Y : Nat) : Int) = BitVec.ofNat k.bits Y := BitVec.ofInt_natCast ..
  have e2 : BitVec.ofInt k.bits (((X : Nat) : Int) * 2 ^ n) = BitVec.ofNat k.bits (X * 2 ^ n) := by
    rw [show (((X : Nat) : Int) * 2 ^ n) = ((X * 2 ^ n : Nat) : Int) by push_cast; rfl]; exact BitVec.ofInt_natCast ..
  have e3 : (BitVec.ofNat k.bits Y ||| BitVec.ofNat k.bits (X * 2 ^ n)).toNat = Y + X * 2 ^ n := by
    rw [BitVec.toNat_or, BitVec.toNat_ofNat, BitVec.toNat_ofNat, Nat.mod_eq_of_lt (by omega), Nat.mod_eq_of_lt (by omega)]
    have := Nat.two_pow_add_eq_or_of_lt hY X
    rw [Nat.or_comm, Nat.mul_comm X, <- this, Nat.add_comm]
  show k.wrap ((BitVec.ofInt k.bits ((Y : Nat) : Int) ||| BitVec.ofInt k.bits (((X : Nat) : Int) * 2 ^ n)).toNat : Int) = _
  rw [e1, e2, e3]
  rw [hw _ (by omega) (by have : Y + X * 2 ^ n < 2 ^ k.bits := by omega
                          exact_mod_cast this)]
  push_cast; rfl
theorem wrap_u32' (z : Int) (h0 : 0 <= z) (h1 : z < 2 ^ IntKind.u32.bits) : IntKind.u32.wrap z = z := wrap_of_range (by show (0 : Int) <= z; exact h0) (by show z <= 2 ^ 32 - 1; have : z < (2 : Int) ^ 32 := h1; omega)
theorem wrap_u64' (z : Int) (h0 : 0 <= z) (h1 : z < 2 ^ IntKind.u64.bits) : IntKind.u64.wrap z = z := wrap_of_range (by show (0 : Int) <= z; exact h0) (by show z <= 2 ^ 64 - 1; have : z < (2 : Int) ^ 64 := h1; omega)
def by8 (x : Int) : Prop := 0 <= x /\ x <= 255
theorem or32 {x y m : Int} (n : Nat) (hm : m = 2 ^ n) (hy : 0 <= y /\ y < m) (hx : 0 <= x) (hk : x * m + y < 4294967296) : intBin .or .u32 y (x * m) = y + x * m := by
  subst hm
  exact or_add hy hx hk wrap_u32'
theorem or64 {x y m : Int} (n : Nat) (hm : m = 2 ^ n) (hy : 0 <= y /\ y < m) (hx : 0 <= x) (hk : x * m + y < 18446744073709551616) : intBin .or .u64 y (x * m) = y + x * m := by
  subst hm
  exact or_add hy hx hk wrap_u64'
theorem be32 {a b c d : Int} (ha : 0 <= a /\ a <= 255) (hb : 0 <= b /\ b <= 255) (hc : 0 <= c /\ c <= 255) (hd : 0 <= d /\ d <= 255) :
    intBin .or .u32 (intBin .or .u32 (intBin .or .u32 d (c * 256)) (b * 65536)) (a * 16777216) = d + c * 256 + b * 65536 + a * 16777216 := by
  rw [or32 8 (by decide) ⟨hd.1, by omega⟩ hc.1 (by omega), or32 16 (by decide) ⟨by omega, by omega⟩ hb.1 (by omega), or32 24 (by decide) ⟨by omega, by omega⟩ ha.1 (by omega)]
theorem hi64 {x y : Int} (hx : 0 <= x /\ x <= 4294967295) (hy : 0 <= y /\ y <= 4294967295) : intBin .or .u64 (x * 4294967296) y = x * 4294967296 + y := by
  have h := or64 (x := x) (y := y) 32 (m := 4294967296) (by decide) ⟨hy.1, by omega⟩ hx.1 (by omega)
  have c : intBin .or .u64 (x * 4294967296) y = intBin .or .u64 y (x * 4294967296) := by
    show IntKind.u64.wrap ((BitVec.ofInt 64 (x * 4294967296) ||| BitVec.ofInt 64 y).toNat : Int) = IntKind.u64.wrap ((BitVec.ofInt 64 y ||| BitVec.ofInt 64 (x * 4294967296)).toNat : Int)
    rw [BitVec.or_comm]
  rw [c, h]
  omega
section
variable {P : Program} {X : Tk}
def Tighter (X : Tk) (s : Sm) (o : SmO) (b : List (Int × Int)) : Prop :=
  b.length = o.nbd.length /\ ∀ σ : Nat -> Int, (∀ x ∈ o.post, X x.1 (x.2.map (IE.eval σ))) -> ∀ (i : Nat) r, b[i]? = some r -> r.1 <= σ (s.nv + i) /\ σ (s.nv + i) <= r.2
def SmO.tighten (o : SmO) (b : List (Int × Int)) : SmO := { o with nbd := b }
def Sm.tighten (s : Sm) (bs : List (List (Int × Int))) : Sm := { s with outs := List.zipWith SmO.tighten s.outs bs }
theorem after_tighten {s : Sm} {bs : List (List (Int × Int))} {m : Mt} {S : St} {o : SmO} {b : List (Int × Int)} (hl : b.length = o.nbd.length) (mem : Tr Blk) (al : List Nat) (ln : List (Nat × Nat)) :
    (s.tighten bs).after (o.tighten b) m S mem al ln = ((s.after o m S mem al ln).1, { (s.after o m S mem al ln).2 with bd := listTr S.nv b S.bd }) := by
  have hn : (o.tighten b).nr = o.nr := hl
  unfold Sm.after
  rw [hn]
  rfl
theorem one_tighten {s : Sm} {bs : List (List (Int × Int))} {m : Mt} {S : St} {o : SmO} {b : List (Int × Int)} (hl : b.length = o.nbd.length) :
    (s.tighten bs).one m S (o.tighten b) = (s.one m S o).map fun r => (r.1, { r.2 with bd := listTr S.nv b S.bd }) := by
  have hw : (s.tighten bs).ws (o.tighten b) m S = s.ws o m S := rfl
  unfold Sm.one
  rw [hw]
  split
  · rw [after_tighten hl]; rfl
  · split
    · rw [after_tighten hl]; rfl
    · rfl
theorem one_facts {s : Sm} {m : Mt} {S : St} {o : SmO} {r : SV × St} (h : s.one m S o = some r) :
    r.2.nv = S.nv + o.nr /\ r.2.cons = (o.post.map fun x => Con.ext x.1 (x.2.map (·.subst (s.out m S)))) ++ S.cons := by
  unfold Sm.one at h
  split at h
  · simp only [Option.some.injEq] at h; subst h; exact ⟨rfl, rfl⟩
  · split at h
    · simp only [Option.some.injEq] at h; subst h; exact ⟨rfl, rfl⟩
    · cases h
theorem optMap_tighten {s : Sm} {bs0 : List (List (Int × Int))} {m : Mt} {S : St} : ∀ {outs : List SmO} {bs : List (List (Int × Int))} {ls' : List (SV × St)}, bs.length = outs.length ->
    (∀ (k : Nat) o b, outs[k]? = some o -> bs[k]? = some b -> Tighter X s o b) -> optMap ((s.tighten bs0).one m S) (List.zipWith SmO.tighten outs bs) = some ls' ->
    ∃ ls, optMap (s.one m S) outs = some ls /\ ∀ x ∈ ls, ∃ o b, Tighter X s o b /\ s.one m S o = some x /\ (x.1, { x.2 with bd := listTr S.nv b S.bd }) ∈ ls'
  | [], bs, ls', _, _, h => by
    cases bs with
    | nil => exact ⟨[], rfl, fun x hx => by cases hx⟩
    | cons b bs => simp_all
  | o :: outs, [], ls', hl, _, h => by simp at hl
  | o :: outs, b :: bs, ls', hl, ht, h => by
    have hto := ht 0 o b rfl rfl
    simp only [List.zipWith_cons_cons, optMap] at h
    rw [one_tighten hto.1] at h
    cases h1 : s.one m S o with
    | none => rw [h1] at h; simp at h
    | some r =>
      rw [h1] at h
      simp only [Option.map_some] at h
      cases h2 : optMap ((s.tighten bs0).one m S) (List.zipWith SmO.tighten outs bs) with
      | none => rw [h2] at h; simp at h
      | some rs =>
        rw [h2] at h
        simp only [Option.some.injEq] at h
        subst h
        obtain ⟨ls, g1, g2⟩ := optMap_tighten (by simpa using hl) (fun k o' b' h1 h2 => ht (k + 1) o' b' (by simpa using h1) (by simpa using h2)) h2
        refine ⟨r :: ls, by simp [optMap, h1, g1], fun x hx => ?_⟩
        rcases List.mem_cons.1 hx with rfl | hx
        · exact ⟨o, b, hto, h1, List.mem_cons_self⟩
        · obtain ⟨o', b', q1, q2, q3⟩ := g2 x hx
          exact ⟨o', b', q1, q2, List.mem_cons_of_mem _ q3⟩
theorem SpecOK.tight {f : FuncId} {s : Sm} {bs : List (List (Int × Int))} (h : SpecOK P X f s.spec) (hl : bs.length = s.outs.length) (ht : ∀ (k : Nat) o b, s.outs[k]? = some o -> bs[k]? = some b -> Tighter X s o b) :
    SpecOK P X f (s.tighten bs).spec := by
  intro args S ls' hsp w0 c w hM hargs R hR
  unfold Sm.spec at hsp
  have hmi : (s.tighten bs).matchIn args S = s.matchIn args S := rfl
  rw [hmi] at hsp
  split at hsp
  · cases hsp
  rename_i m hm
  obtain ⟨ls, g1, g2⟩ := optMap_tighten (X := X) hl ht hsp
  refine h args S ls (by unfold Sm.spec; rw [hm]; exact g1) w0 c w hM hargs R fun v S1 hmem c' w' hled => ?_
  obtain ⟨o, b, hto, hone, hmem'⟩ := g2 _ hmem
  obtain ⟨f1, f2⟩ := one_facts hone
  simp only at f1 f2
  have hr := hled.rep
  refine hR v _ hmem' c' w' ⟨hled.ext, hled.nv, hled.nb, ⟨hr.mem, hr.inj, hr.wr, hr.new, hr.frame, hr.size, hr.cons, ?_, hr.os, hr.out, hr.tape, hr.its, hr.lens⟩, hled.ok⟩
  intro i r hi
  simp only [listTr_get] at hi
  split at hi
  · rename_i hlt
    have hpo : ∀ x ∈ o.post, X x.1 (x.2.map (IE.eval fun j => (s.out m S j).eval c'.ρ)) := fun x hx => by
      have := (hr.cons (Con.ext x.1 (x.2.map (·.subst (s.out m S)))) (by rw [f2]; exact List.mem_append_left _ (List.mem_map.2 ⟨x, hx, rfl⟩))).2
      simp only [Con.holds, List.map_map] at this
      rw [List.map_congr_left fun e _ => (IE.eval_subst (e := e) (f := s.out m S) (ρ := c'.ρ)).symm]
      exact this
    have := hto.2 _ hpo (i - S.nv) r hi
    have e : (s.out m S (s.nv + (i - S.nv))).eval c'.ρ = c'.ρ i := by
      unfold Sm.out
      rw [if_neg (by omega)]
      simp only [IE.eval]
      congr 1; omega
    simp only [e] at this
    refine ⟨?_, this⟩
    show i < S1.nv
    rw [f1]
    have := hto.1
    unfold SmO.nr
    omega
  · have := hM.bd i r hi
    have hlt := hled.nv
    exact ⟨by show i < S1.nv; omega, by rw [hled.ext.ρ i this.1]; exact this.2⟩
end
def W4 : List (Int × Int) := [W64, W64, W64, (0, 4294967295)]
def limbV (i : Nat) : Blk := limbB (elt i)
def modBs (b : Nat) : List Blk := [⟨118, [.ptr (b + 1) 0, .bool true, cw 15484011519437423339, .ptr (b + 3) 0], true⟩, natB (b + 2) 4, limbB nW, natB (b + 4) 4, limbB rrW]
def limbC (i : Nat) : List SV := (limbV i).cells
def blS : Sm := { bd := [(0, 4294967295)], args := [.int .u64 (.var 0)], mem := [], al := [], outs := [{ nbd := [(0, 32)], val := .int .i64 (.var 1), writes := [], news := [], post := [] }] }
def mmO (k : Nat) (b : List IE) : SmO := { nbd := List.replicate 4 W64, val := .ptr 0 0, writes := [(0, [.slice 1 0 4 32]), (1, limbC k)], news := [], post := [(89, vars 0 4 ++ b ++ vars k 4)] }
def mm1 : Sm := { bd := W4 ++ W4, args := [.ptr 0 0, .ptr 2 0, .ptr 4 0, .ptr 6 0], mem := [natB 1 0, limbB [], natB 3 4, limbV 0, natB 5 4, limbV 4] ++ modBs 6, al := [], outs := [mmO 8 (vars 4 4)] }
def mm2 : Sm := { bd := W4, args := [.ptr 0 0, .ptr 2 0, .ptr 2 0, .ptr 4 0], mem := [natB 1 0, limbB [], natB 3 4, limbV 0] ++ modBs 4, al := [], outs := [mmO 4 (vars 0 4)] }
def mm3 : Sm := { bd := W4, args := [.ptr 0 0, .ptr 0 0, .ptr 5 0, .ptr 2 0], mem := [natB 1 4, limbV 0] ++ modBs 2, al := [], outs := [mmO 4 (rrW.filterMap fun v => match v with | .int _ e => some e | _ => none)] }
def mm4 : Sm := { bd := W4, args := [.ptr 0 0, .ptr 0 0, .ptr 0 0, .ptr 2 0], mem := [natB 1 4, limbV 0] ++ modBs 2, al := [], outs := [mmO 4 (vars 0 4)] }
def mm5 : Sm := { bd := W4 ++ W4, args := [.ptr 0 0, .ptr 2 0, .ptr 0 0, .ptr 4 0], mem := [natB 1 4, limbV 4, natB 3 4, limbV 0] ++ modBs 4, al := [], outs := [mmO 8 (vars 4 4)] }
def mm6 : Sm := { bd := W4 ++ W4 ++ W4, args := [.ptr 0 0, .ptr 2 0, .ptr 4 0, .ptr 6 0], mem := [natB 1 4, limbV 8, natB 3 4, limbV 0, natB 5 4, limbV 4] ++ modBs 6, al := [], outs := [mmO 12 (vars 4 4)] }
def mm7 : Sm := { bd := W4, args := [.ptr 0 0, .ptr 0 0, .ptr 2 0, .ptr 4 0], mem := [natB 1 4, limbV 0, natB 3 4, limbB [cw 1, cw 0, cw 0, cw 0]] ++ modBs 4, al := [], outs := [mmO 4 [.const 1, .const 0, .const 0, .const 0]] }
def nsbE (t : String) : SmO := { nbd := List.replicate 4 W64, val := .tup [.nilp, errV 8], writes := [(0, [.slice 1 0 4 32]), (1, limbC 28)], news := [strB t], post := [(91, vars 0 28)] }
def nsbS : Sm := { bd := List.replicate 28 (0, 255), args := [.ptr 0 0, .view 2 0 28, .ptr 3 0], mem := [natB 1 0, limbB [], ⟨5, bytV 0 28, false⟩] ++ modBs 3, al := [], outs := [{ nbd := List.replicate 4 W64, val := .tup [.ptr 0 0, .val .nilIface], writes := [(0, [.slice 1 0 4 32]), (1, limbC 28)], news := [], post := [(90, vars 0 32)] }, nsbE "input overflows the modulus"] }
def nizS : Sm := { bd := W4, args := [.ptr 0 0], mem := [natB 1 4, limbV 0], al := [], outs := [{ nbd := [(0, 1)], val := .int .u64 (.var 4), writes := [], news := [], post := [(92, vars 0 5)] }] }
def neqS : Sm := { bd := W4 ++ W4, args := [.ptr 0 0, .ptr 2 0], mem := [natB 1 4, limbV 0, natB 3 4, limbV 4], al := [], outs := [{ nbd := [(0, 1)], val := .int .u64 (.var 8), writes := [], news := [], post := [(98, vars 0 9)] }] }
def nbyS : Sm := { bd := W4, args := [.ptr 0 0, .ptr 2 0], mem := [natB 1 4, limbV 0] ++ modBs 2, al := [], outs := [{ nbd := List.replicate 28 (0, 255), val := .slice 7 0 28 28, writes := [], news := [⟨5, bytV 4 28, true⟩], post := [(96, vars 0 32)] }] }
def nsoS (m ty : Nat) : Sm := { bd := List.replicate m (0, 255), args := [.ptr 0 0, .view 2 0 m, .ptr 3 0], mem := [natB 1 0, limbB [], ⟨ty, bytV 0 m, false⟩] ++ modBs 3, al := [], outs := [{ nbd := List.replicate 4 W64, val := .tup [.ptr 0 0, .val .nilIface], writes := [(0, [.slice 1 0 4 32]), (1, limbC m)], news := [], post := [(97, vars 0 (m + 4))] }] }
def expS : Sm := { bd := W4, args := [.ptr 0 0, .ptr 2 0, .ptr 4 0], mem := [], al := [], outs := [] }
def nmuS : Sm := { bd := W4 ++ W4, args := [.ptr 0 0, .ptr 2 0, .ptr 4 0], mem := [natB 1 4, limbV 0, natB 3 4, limbV 4] ++ modBs 4, al := [], outs := [{ nbd := List.replicate 4 W64, val := .ptr 0 0, writes := [(0, [.slice 1 0 4 32]), (1, limbC 8)], news := [], post := [(95, vars 0 12)] }] }
def W64' : Int × Int := (0, 18446744073709551615)
structure Step where
  w : Int
  hi : Nat
  lo : Nat
  s1 : Nat
  c1 : Nat
  t1 : Nat
  s2 : Nat
  c2 : Nat
  t2 : Nat
  k2 : Nat
  x : IE
  y : IE
  z : IE
  cr : IE
def Step.ks (s : Step) : List Con := [.mul64 s.hi s.lo s.x s.y, .add64 s.s1 s.c1 (.var s.lo) s.z (.const 0), .eq s.t1 (.add (.add (.var s.hi) (.const 0)) (.var s.c1)), .add64 s.s2 s.c2 (.var s.s1) s.cr (.const 0), .add64 s.t2 s.k2 (.var s.t1) (.const 0) (.var s.c2)]
def wordB : IE -> List (Nat × Int × Int)
  | .var i => [(i, W64')]
  | _ => []
def wordE : IE -> Bool
  | .var _ => true
  | .const c => decide (0 <= c) && decide (c <= 18446744073709551615)
  | _ => false
def Step.bds (s : Step) : List (Nat × Int × Int) := wordB s.x ++ wordB s.y ++ wordB s.z ++ wordB s.cr ++ [(s.s2, W64'), (s.t2, W64'), (s.k2, (0, 1))]
def Step.good (s : Step) : Bool := wordE s.x && wordE s.y && wordE s.z && wordE s.cr
def stepsP : List Step -> Poly
  | [] => []
  | s :: l => (pscale s.w (pvar s.k2)).add (stepsP l)
structure MI where
  k : Nat
  y0 : Nat
  y1 : Nat
  y2 : Nat
  y3 : Nat
  x0 : Nat
  x1 : Nat
  x2 : Nat
  x3 : Nat
  t0 : Nat
  t1 : Nat
  t2 : Nat
  t3 : Nat
  d : Nat
def mmRound (y x : Nat) : List Con := [.eq y (.bin .mul .u64 (.var x) (.const 15484011519437423339)), .mul64 (y + 1) (y + 2) (.const 1431345634452711997) (.var y), .add64 (y + 3) (y + 4) (.var (y + 2)) (.var x) (.const 0)]
def mmSelK (o : Nat) (t : IE) (d m : Nat) : Con := .eq o (.bin .xor .u64 t (.bin .and .u64 (.var m) (.bin .xor .u64 t (.var d))))
def MI.T (c : MI) : List Nat := [c.k + c.t0, c.k + c.t1, c.k + c.t2, c.k + c.t3]
def MI.D (c : MI) : List Nat := [c.k + c.d, c.k + c.d + 2, c.k + c.d + 4, c.k + c.d + 6]
def MI.M (c : MI) : List Nat := [c.k + c.y0, c.k + c.y1, c.k + c.y2, c.k + c.y3]
def MI.L (c : MI) : List Nat := [c.k + c.y0 + 3, c.k + c.y1 + 3, c.k + c.y2 + 3, c.k + c.y3 + 3]
def MI.o (c : MI) : Nat := c.k + c.d + 11
def mmSub (d : Nat) (t0 t1 t2 t3 : IE) : List Con := [.eq (d + 8) (.bin .xor .u64 (.const 1) (.var (d + 7))), .eq (d + 9) (.bin .or .u64 (.var (d + 8)) (.const 0)), .eq (d + 10) (.bin .sub .u64 (.const 0) (.var (d + 9))), mmSelK (d + 11) t0 d (d + 10), mmSelK (d + 12) t1 (d + 2) (d + 10), mmSelK (d + 13) t2 (d + 4) (d + 10), mmSelK (d + 14) t3 (d + 6) (d + 10)]
def mmLk (c : MI) (st : List Step) (a b : Poly) (bds : List (Nat × Int × Int)) : Look :=
  ⟨vars c.o 4, (c.T ++ c.D ++ c.M ++ c.L).map (fun i => (i, W64')) ++ [(c.k + c.d + 7, (0, 1))] ++ st.flatMap Step.bds ++ bds,
   mmRound (c.k + c.y0) (c.k + c.x0) ++ mmRound (c.k + c.y1) (c.k + c.x1) ++ mmRound (c.k + c.y2) (c.k + c.x2) ++ mmRound (c.k + c.y3) (c.k + c.x3) ++ mmSub (c.k + c.d) (.var (c.k + c.t0)) (.var (c.k + c.t1)) (.var (c.k + c.t2)) (.var (c.k + c.t3)) ++ st.flatMap Step.ks,
   [((pscale 115792089237316195423570985008687907853269984665640564039457584007913129639936 (limbs 0 c.T)).add (stepsP st)).sub ((a.mul b).add ((pscale 26959946667150639794667015087019625940457807714424391721682722368061 (limbs 0 c.M)).sub (limbs 0 c.L))),
    (limbs 0 c.D).sub (((limbs 0 c.T).sub (pconst 26959946667150639794667015087019625940457807714424391721682722368061)).add (pscale 115792089237316195423570985008687907853269984665640564039457584007913129639936 (pvar (c.k + c.d + 7))))]⟩
section
variable {X : Tk} {ρ : Nat -> Int}
theorem mm_low {ks : List Con} (hk : ∀ c ∈ ks, c.holds X ρ) {y x : Nat} (h : ∀ c ∈ mmRound y x, c ∈ ks) (hb : 0 <= ρ (y + 3) /\ ρ (y + 3) <= 18446744073709551615) : ρ (y + 3) = 0 := by
  have h1 := hk _ (h _ (List.mem_cons_self))
  have h2 := hk _ (h _ (List.mem_cons_of_mem _ List.mem_cons_self))
  have h3 := hk _ (h _ (List.mem_cons_of_mem _ (List.mem_cons_of_mem _ List.mem_cons_self)))
  simp only [Con.holds, IE.eval] at h1 h2 h3
  exact low0 h1 h2 h3 hb
theorem nocarry {x y hi lo s1 c1 z t1 s2 c2 cr t2 k2 : Int} (hx : 0 <= x /\ x <= 18446744073709551615) (hy : 0 <= y /\ y <= 18446744073709551615) (hz : 0 <= z /\ z <= 18446744073709551615) (hr : 0 <= cr /\ cr <= 18446744073709551615) (h2 : 0 <= s2) (ht : 0 <= t2) (hk : 0 <= k2 /\ k2 <= 1)
    (e1 : lo + 2 ^ 64 * hi = x * y) (e2 : s1 + 2 ^ 64 * c1 = lo + z + 0) (e3 : t1 = hi + 0 + c1) (e4 : s2 + 2 ^ 64 * c2 = s1 + cr + 0) (e5 : t2 + 2 ^ 64 * k2 = t1 + 0 + c2) : k2 = 0 := by
  have q1 : x * y <= 18446744073709551615 * 18446744073709551615 := Int.mul_le_mul hx.2 hy.2 hy.1 (by omega)
  generalize x * y = q at *
  omega
theorem word_seen {bds : List (Nat × Int × Int)} (hb : ∀ b ∈ bds, b.2.1 <= ρ b.1 /\ ρ b.1 <= b.2.2) {e : IE} (hm : ∀ b ∈ wordB e, b ∈ bds) (he : wordE e = true) : 0 <= e.eval ρ /\ e.eval ρ <= 18446744073709551615 := by
  cases e with
  | var i => exact hb (i, W64') (hm _ (List.mem_singleton.2 rfl))
  | const c =>
    simp only [wordE, Bool.and_eq_true, decide_eq_true_eq] at he
    exact he
  | _ => cases he
theorem step_zero {ks : List Con} {bds : List (Nat × Int × Int)} (hk : ∀ c ∈ ks, c.holds X ρ) (hb : ∀ b ∈ bds, b.2.1 <= ρ b.1 /\ ρ b.1 <= b.2.2) {s : Step} (h1 : ∀ c ∈ s.ks, c ∈ ks) (h2 : ∀ b ∈ s.bds, b ∈ bds) (h3 : s.good = true) : ρ s.k2 = 0 := by
  simp only [Step.good, Bool.and_eq_true] at h3
  obtain ⟨⟨⟨g1, g2⟩, g3⟩, g4⟩ := h3
  have e1 := hk _ (h1 (.mul64 s.hi s.lo s.x s.y) (by simp [Step.ks]))
  have e2 := hk _ (h1 (.add64 s.s1 s.c1 (.var s.lo) s.z (.const 0)) (by simp [Step.ks]))
  have e3 := hk _ (h1 (.eq s.t1 (.add (.add (.var s.hi) (.const 0)) (.var s.c1))) (by simp [Step.ks]))
  have e4 := hk _ (h1 (.add64 s.s2 s.c2 (.var s.s1) s.cr (.const 0)) (by simp [Step.ks]))
  have e5 := hk _ (h1 (.add64 s.t2 s.k2 (.var s.t1) (.const 0) (.var s.c2)) (by simp [Step.ks]))
  simp only [Con.holds, IE.eval] at e1 e2 e3 e4 e5
  exact nocarry (word_seen hb (fun b hm => h2 b (by simp [Step.bds, hm])) g1) (word_seen hb (fun b hm => h2 b (by simp [Step.bds, hm])) g2) (word_seen hb (fun b hm => h2 b (by simp [Step.bds, hm])) g3) (word_seen hb (fun b hm => h2 b (by simp [Step.bds, hm])) g4)
    (hb _ (h2 (s.s2, W64') (by simp [Step.bds]))).1 (hb _ (h2 (s.t2, W64') (by simp [Step.bds]))).1 (hb _ (h2 (s.k2, (0, 1)) (by simp [Step.bds]))) e1 e2 e3 e4 e5
theorem stepsP_zero : ∀ {st : List Step}, (∀ s ∈ st, ρ s.k2 = 0) -> Poly.eval ρ (stepsP st) = 0
  | [], _ => rfl
  | s :: l, h => by
    unfold stepsP
    rw [eval_add, eval_scale, eval_var, h s (by simp), stepsP_zero fun t ht => h t (by simp [ht])]
    simp
theorem mm_e1 {A B q D : Int} (h : A * B + 0 - (q + (D - (0 + 18446744073709551616 * 0 + 340282366920938463463374607431768211456 * 0 + 6277101735386680763835789423207666416102355444464034512896 * 0))) = 0) : A * (B + A * 0) = q + D := by
  rw [Int.mul_zero, Int.add_zero]
  generalize A * B = z at *
  omega
theorem mm_e2 {A B C D : Int} (h : A - (B - C + D) = 0) : A = B - C + D := by omega
theorem sub_fact {ks : List Con} (hk : ∀ c ∈ ks, c.holds X ρ) {d : Nat} {t0 t1 t2 t3 : IE} (h : ∀ c ∈ mmSub d t0 t1 t2 t3, c ∈ ks) (hw : ρ (d + 7) = 0 \/ ρ (d + 7) = 1)
    (b0 : 0 <= t0.eval ρ /\ t0.eval ρ <= 18446744073709551615) (b1 : 0 <= t1.eval ρ /\ t1.eval ρ <= 18446744073709551615) (b2 : 0 <= t2.eval ρ /\ t2.eval ρ <= 18446744073709551615) (b3 : 0 <= t3.eval ρ /\ t3.eval ρ <= 18446744073709551615)
    (c0 : 0 <= ρ d /\ ρ d <= 18446744073709551615) (c1 : 0 <= ρ (d + 2) /\ ρ (d + 2) <= 18446744073709551615) (c2 : 0 <= ρ (d + 4) /\ ρ (d + 4) <= 18446744073709551615) (c3 : 0 <= ρ (d + 6) /\ ρ (d + 6) <= 18446744073709551615) :
    wordsOK (Q4 ρ (d + 11)) /\ wv4 (Q4 ρ (d + 11)) = if ρ (d + 7) = 0 \/ (0 : Int) = 1 then wv4 [ρ d, ρ (d + 2), ρ (d + 4), ρ (d + 6)] else wv4 [t0.eval ρ, t1.eval ρ, t2.eval ρ, t3.eval ρ] := by
  have s1 := hk _ (h (.eq (d + 8) (.bin .xor .u64 (.const 1) (.var (d + 7)))) (by simp [mmSub]))
  have s2 := hk _ (h (.eq (d + 9) (.bin .or .u64 (.var (d + 8)) (.const 0))) (by simp [mmSub]))
  have s3 := hk _ (h (.eq (d + 10) (.bin .sub .u64 (.const 0) (.var (d + 9)))) (by simp [mmSub]))
  have o0 := hk _ (h (mmSelK (d + 11) t0 d (d + 10)) (by simp [mmSub]))
  have o1 := hk _ (h (mmSelK (d + 12) t1 (d + 2) (d + 10)) (by simp [mmSub]))
  have o2 := hk _ (h (mmSelK (d + 13) t2 (d + 4) (d + 10)) (by simp [mmSub]))
  have o3 := hk _ (h (mmSelK (d + 14) t3 (d + 6) (d + 10)) (by simp [mmSub]))
  clear hk h
  simp only [Con.holds, IE.eval, mmSelK] at s1 s2 s3 o0 o1 o2 o3
  rw [xor1 hw] at s1
  have h1 : ρ (d + 8) = 0 \/ ρ (d + 8) = 1 := by rcases hw with h | h <;> rw [s1, h] <;> simp
  rw [orb h1 (.inl rfl)] at s2
  have h2 : ρ (d + 9) = 0 \/ ρ (d + 9) = 1 := by rw [s2]; split <;> simp
  rw [neg64 h2] at s3
  have h3 : ρ (d + 10) = 0 \/ ρ (d + 10) = 18446744073709551615 := by rw [s3]; split <;> simp
  have r0 := selx b0 c0 h3 o0
  have r1 := selx b1 c1 h3 o1
  have r2 := selx b2 c2 h3 o2
  have r3 := selx b3 c3 h3 o3
  have hc : (ρ (d + 10) = 0) ↔ ¬ (ρ (d + 7) = 0) := by
    rw [s3, s2]
    rcases hw with h | h <;> simp [s1, h]
  clear s1 s2 s3 o0 o1 o2 o3 h1 h2 h3
  by_cases h : ρ (d + 10) = 0
  · rw [if_pos h] at r0 r1 r2 r3
    rw [if_neg (fun e => e.elim (fun e => hc.1 h e) (by decide))]
    have e : Q4 ρ (d + 11) = [t0.eval ρ, t1.eval ρ, t2.eval ρ, t3.eval ρ] := by
      show [ρ (d + 11), ρ (d + 12), ρ (d + 13), ρ (d + 14)] = _
      rw [r0, r1, r2, r3]
    rw [e]
    refine ⟨fun i hi => ?_, rfl⟩
    match i, hi with
    | 0, _ => exact b0
    | 1, _ => exact b1
    | 2, _ => exact b2
    | 3, _ => exact b3
  · rw [if_neg h] at r0 r1 r2 r3
    rw [if_pos (.inl (Classical.byContradiction fun e => h (hc.2 e)))]
    have e : Q4 ρ (d + 11) = [ρ d, ρ (d + 2), ρ (d + 4), ρ (d + 6)] := by
      show [ρ (d + 11), ρ (d + 12), ρ (d + 13), ρ (d + 14)] = _
      rw [r0, r1, r2, r3]
    rw [e]
    refine ⟨fun i hi => ?_, rfl⟩
    match i, hi with
    | 0, _ => exact c0
    | 1, _ => exact c1
    | 2, _ => exact c2
    | 3, _ => exact c3
def n4 (x : Int) : Prop := 0 <= x /\ x < 26959946667150639794667015087019630673637144422540572481103610249216
theorem mm_core {c : MI} {st : List Step} {a b : Poly} {bds : List (Nat × Int × Int)} (hs : Seen X (mmLk c st a b bds) ρ) (hst : st.all Step.good = true) (ha : n4 (Poly.eval ρ a)) (hb : n4 (Poly.eval ρ b)) :
    wordsOK (Q4 ρ c.o) /\ 0 <= wv4 (Q4 ρ c.o) /\ wv4 (Q4 ρ c.o) < n224 /\ ∃ m, wv4 (Q4 ρ c.o) * R256 = Poly.eval ρ a * Poly.eval ρ b + n224 * m := by
  have bd : ∀ i ∈ c.T ++ c.D ++ c.M ++ c.L, 0 <= ρ i /\ ρ i <= 18446744073709551615 := fun i hi => hs.bds (i, W64') (List.mem_append_left _ (List.mem_append_left _ (List.mem_append_left _ (List.mem_map.2 ⟨i, hi, rfl⟩))))
  have b1 := hs.bds (c.k + c.d + 7, (0, 1)) (List.mem_append_left _ (List.mem_append_left _ (List.mem_append_right _ (by simp))))
  simp only at b1
  have hbw : ρ (c.k + c.d + 7) = 0 \/ ρ (c.k + c.d + 7) = 1 := by omega
  have l1 : ρ (c.k + c.y0 + 3) = 0 := mm_low hs.ks (fun k hk => List.mem_append_left _ (List.mem_append_left _ (List.mem_append_left _ (List.mem_append_left _ (List.mem_append_left _ hk))))) (bd _ (by simp [MI.L]))
  have l2 : ρ (c.k + c.y1 + 3) = 0 := mm_low hs.ks (fun k hk => List.mem_append_left _ (List.mem_append_left _ (List.mem_append_left _ (List.mem_append_left _ (List.mem_append_right _ hk))))) (bd _ (by simp [MI.L]))
  have l3 : ρ (c.k + c.y2 + 3) = 0 := mm_low hs.ks (fun k hk => List.mem_append_left _ (List.mem_append_left _ (List.mem_append_left _ (List.mem_append_right _ hk)))) (bd _ (by simp [MI.L]))
  have l4 : ρ (c.k + c.y3 + 3) = 0 := mm_low hs.ks (fun k hk => List.mem_append_left _ (List.mem_append_left _ (List.mem_append_right _ hk))) (bd _ (by simp [MI.L]))
  have p1 := hs.ps _ (List.mem_cons_self)
  have p2 := hs.ps _ (List.mem_cons_of_mem _ List.mem_cons_self)
  have bT0 := bd (c.k + c.t0) (by simp [MI.T])
  have bT1 := bd (c.k + c.t1) (by simp [MI.T])
  have bT2 := bd (c.k + c.t2) (by simp [MI.T])
  have bT3 := bd (c.k + c.t3) (by simp [MI.T])
  have bD0 := bd (c.k + c.d) (by simp [MI.D])
  have bD1 := bd (c.k + c.d + 2) (by simp [MI.D])
  have bD2 := bd (c.k + c.d + 4) (by simp [MI.D])
  have bD3 := bd (c.k + c.d + 6) (by simp [MI.D])
  have hM := words4 (bd (c.k + c.y0) (by simp [MI.M])) (bd (c.k + c.y1) (by simp [MI.M])) (bd (c.k + c.y2) (by simp [MI.M])) (bd (c.k + c.y3) (by simp [MI.M]))
  have hT := words4 bT0 bT1 bT2 bT3
  have hD := words4 bD0 bD1 bD2 bD3
  have sf := sub_fact hs.ks (fun k hk => List.mem_append_left _ (List.mem_append_right _ hk)) hbw bT0 bT1 bT2 bT3 bD0 bD1 bD2 bD3
  have sz := stepsP_zero (ρ := ρ) (st := st) fun s hm => step_zero hs.ks hs.bds (fun k hk => List.mem_append_right _ (List.mem_flatMap.2 ⟨s, hm, hk⟩)) (fun k hk => List.mem_append_left _ (List.mem_append_right _ (List.mem_flatMap.2 ⟨s, hm, hk⟩))) (List.all_eq_true.1 hst s hm)
  clear hs
  simp only [eval_sub, eval_add, eval_mul, eval_scale, eval_var, eval_const, sz, MI.T, MI.D, MI.M, MI.L, limbs4] at p1 p2
  rw [l1, l2, l3, l4] at p1
  clear bd l1 l2 l3 l4
  have key := mont_n (a := Poly.eval ρ a) (b := Poly.eval ρ b) (r := wv4 (Q4 ρ c.o)) ha hb hT hM hD hbw (.inl rfl) (mm_e1 p1) (mm_e2 p2) sf.2
  exact ⟨sf.1, key.1, key.2.1, key.2.2⟩
end
end Go.Vm
end
