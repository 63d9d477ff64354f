/- The proof of laws.FnP224Verify, text 6 of 36. Conditions: none. -/
import Derived.Test.YtmogojlijkddpaaGreatT04
noncomputable section

set_option maxRecDepth 100000
namespace Go.Vm
theorem outEq_spec {a b : Out} (h : outEq a b = true) : a = b := by
  cases a <;> cases b <;> simp [outEq] at h ⊢ <;> exact h
inductive RoundD where
  | stop (k : Nat) (L : Look)
  | go (hd : List IE) (L : Look) (ends : List (Nat × Look))
def chkEnd (s : CSm) (k : Nat) (L : Look) (o : Out) (S : St) : Bool :=
  match s.kinds[k]? with
  | some kd => outEq kd.1 o && S.nt == s.nt && match CSm.outVal kd S with | some v => chkOut s.core k L v S | none => false
  | none => false
def chkEnds (s : CSm) : List (Out × St) -> List (Nat × Look) -> Bool
  | [], [] => true
  | x :: xs, d :: ds => chkEnd s d.1 d.2 x.1 x.2 && chkEnds s xs ds
  | _, _ => false
def chkRound (s : CSm) (x : Out × St) : RoundD -> Bool
  | .stop k L => !outEq x.1 .normal && chkEnd s k L x.1 x.2
  | .go hd L ends => outEq x.1 .normal && L.ok x.2 && hd.length == s.core.nv &&
      (match optMap (fun t => x.2.tmps.get (path t)) s.tin with
       | some args => match s.core.matchIn args { x.2 with tmps := .nil, nt := 0 } with | some m => sameNums m 0 hd | none => false
       | none => false) &&
      (match s.spec x.2 with | some ls => chkEnds s ls ends | none => false)
def chkRounds (s : CSm) : List (Out × St) -> List RoundD -> Bool
  | [], [] => true
  | x :: xs, d :: ds => chkRound s x d && chkRounds s xs ds
  | _, _ => false
def chkLoop (r : Option (List (Out × St))) (s : CSm) (ds : List RoundD) : Bool :=
  s.core.wf && match r with | some ls => chkRounds s ls ds | none => false
def chkCode (r : Option (List (Out × St))) (s : CSm) (ds : List (Nat × Look)) : Bool :=
  s.core.wf && match r with | some ls => chkEnds s ls ds | none => false
section
variable {P : Program} {X : Tk} {E : Env}
def EndP (X : Tk) (s : Sm) (k : Nat) (L : Look) : Prop :=
  ∀ o, s.outs[k]? = some o -> ∀ ρ, Seen X L ρ -> ∀ x ∈ o.post, X x.1 (x.2.map (·.eval (numsOf s.nv L ρ)))
theorem chkEnd_spec {s : CSm} {k : Nat} {L : Look} {o : Out} {S : St} (h : chkEnd s k L o S = true) (hp : EndP X s.core k L) : EndOK X s o S := by
  unfold chkEnd at h
  split at h
  · rename_i kd hkd
    simp only [Bool.and_eq_true, beq_iff_eq] at h
    obtain ⟨⟨h1, h2⟩, h3⟩ := h
    split at h3
    · rename_i v hv
      obtain ⟨out, ho, M, hM, hP⟩ := chkOut_spec (X := X) h3
      exact ⟨k, kd, out, v, M, hkd, ho, outEq_spec h1, hv, h2, hM, hP (hp out ho)⟩
    · cases h3
  · cases h
theorem chkEnds_spec {s : CSm} : ∀ {ls : List (Out × St)} {ds : List (Nat × Look)}, chkEnds s ls ds = true -> ∀ x ∈ ls, ∃ d ∈ ds, chkEnd s d.1 d.2 x.1 x.2 = true
  | [], ds, _, x, hx => by simp at hx
  | y :: ys, [], h, _, _ => by simp [chkEnds] at h
  | y :: ys, d :: ds, h, x, hx => by
    simp only [chkEnds, Bool.and_eq_true] at h
    rcases List.mem_cons.1 hx with rfl | hx
    · exact ⟨d, by simp, h.1⟩
    · obtain ⟨d', h1, h2⟩ := chkEnds_spec h.2 x hx
      exact ⟨d', by simp [h1], h2⟩
theorem chkRounds_spec {s : CSm} : ∀ {ls : List (Out × St)} {ds : List RoundD}, chkRounds s ls ds = true -> ∀ x ∈ ls, ∃ d ∈ ds, chkRound s x d = true
  | [], ds, _, x, hx => by simp at hx
  | y :: ys, [], h, _, _ => by simp [chkRounds] at h
  | y :: ys, d :: ds, h, x, hx => by
    simp only [chkRounds, Bool.and_eq_true] at h
    rcases List.mem_cons.1 hx with rfl | hx
    · exact ⟨d, by simp, h.1⟩
    · obtain ⟨d', h1, h2⟩ := chkRounds_spec h.2 x hx
      exact ⟨d', by simp [h1], h2⟩
def RoundP (X : Tk) (s : Sm) (μ : (Nat -> Int) -> Nat) : RoundD -> Prop
  | .stop k L => EndP X s k L
  | .go hd L ends => (∀ ρ, Seen X L ρ -> μ (fun i => ((hd[i]?).getD (.const 0)).eval ρ) < μ ρ) /\ ∀ d ∈ ends, EndP X s d.1 d.2
theorem loop_by (hE : EnvOK P X E) {n : Nat} {B : BSp} {b : Code} {s : CSm} {ds : List RoundD} (hB : BOK P X B b) (h : chkLoop (exec E n B b s.start) s ds = true)
    (μ : (Nat -> Int) -> Nat) (hμ : ∀ (ρ ρ' : Nat -> Int), (∀ i, i < s.core.nv -> ρ i = ρ' i) -> μ ρ = μ ρ') (hp : ∀ d ∈ ds, RoundP X s.core μ d) : LoopSp P X b s.spec := by
  simp only [chkLoop, Bool.and_eq_true] at h
  obtain ⟨hwf, h⟩ := h
  split at h
  · rename_i ls hls
    refine loop_sum hE hB hwf hls μ hμ fun o S' hm => ?_
    obtain ⟨d, hdm, hc⟩ := chkRounds_spec h (o, S') hm
    have hpd := hp d hdm
    cases d with
    | stop k L =>
      simp only [chkRound, Bool.and_eq_true, Bool.not_eq_true'] at hc
      have := chkEnd_spec (X := X) hc.2 hpd
      cases o with
      | normal => simp [outEq] at hc
      | exit id => exact this
      | ret => exact this
    | go hd L ends =>
      simp only [chkRound, Bool.and_eq_true, beq_iff_eq] at hc
      obtain ⟨⟨⟨⟨c1, c2⟩, c3⟩, c4⟩, c5⟩ := hc
      have hoe := outEq_spec c1
      subst hoe
      split at c5
      · rename_i ls' hls'
        refine ⟨ls', hls', fun o' S'' hm' => ?_, fun args m ha hm' ρ hBd hk => ?_⟩
        · obtain ⟨d', h1, h2⟩ := chkEnds_spec c5 (o', S'') hm'
          exact chkEnd_spec h2 (hpd.2 d' h1)
        · rw [ha] at c4
          simp only [hm'] at c4
          have h1 := hpd.1 ρ (L.seen c2 hBd hk)
          have h2 : μ (fun i => (m.f i).eval ρ) = μ (fun i => ((hd[i]?).getD (.const 0)).eval ρ) := hμ _ _ fun i hi => by
            have hj : i < hd.length := by omega
            have := sameNums_spec c4 i _ (List.getElem?_eq_getElem hj)
            rw [Nat.zero_add] at this
            rw [this, List.getElem?_eq_getElem hj]; rfl
          omega
      · cases c5
  · cases h
theorem code_by (hE : EnvOK P X E) {n : Nat} {B : BSp} {k : Code} {s : CSm} {ds : List (Nat × Look)} (hB : BOK P X B k) (h : chkCode (exec E n B k s.start) s ds = true)
    (hp : ∀ d ∈ ds, EndP X s.core d.1 d.2) : CodeSp P X k s.spec := by
  simp only [chkCode, Bool.and_eq_true] at h
  obtain ⟨hwf, h⟩ := h
  split at h
  · rename_i ls hls
    refine code_sum hE hB hwf hls fun o S' hm => ?_
    obtain ⟨d, hd, hc⟩ := chkEnds_spec h (o, S') hm
    exact chkEnd_spec hc (hp d hd)
  · cases h
def execFn (E : Env) (n : Nat) (B : BSp) (fn : Func) (args : List SV) (S : St) : Option (List (SV × St)) :=
  let r := nameL S args
  match fn.body with
  | none => none
  | some body =>
    match exec E n B body { r.2 with tmps := initTmps 0 r.1 .nil, nt := max r.1.length fn.ntmps } with
    | none => none
    | some ls => bindL ls fun (o, S') => match o with
        | .normal | .ret => do some [(<- resultSV E fn S', S')]
        | _ => none
theorem execFn_sound (hE : EnvOK P X E) {f : FuncId} {fn : Func} (hf : P.funcs[f]? = some fn) (hn : (fn.name == "runtime.NumGoroutine") = false) {n : Nat} {B : BSp} (hB : ∀ body, fn.body = some body -> BOK P X B body)
    {args : List SV} {S : St} {ls : List (SV × St)} (h : execFn E n B fn args S = some ls) {w0 : Base} {c : Ctx} {w : World} (hM : MRep X w0 c S w) (hok : okL S.nv S.nb args) : FnOK P f /\
    ∀ R : Ending -> World -> Prop, (∀ v S', (v, S') ∈ ls -> ∀ c' w', Led X w0 c c' S S' w' v -> R (.returned (v.den c')) w') -> Calls P f (denL c args).toArray w R := by
  unfold execFn at h
  simp only [] at h
  obtain ⟨c1, h1, h2, h3, h4⟩ := nameL_sound hM hok
  generalize hA : (nameL S args).1 = args1 at *
  generalize hS : (nameL S args).2 = S1 at *
  rw [<- h2]
  split at h
  · cases h
  rename_i body hbody
  split at h
  · cases h
  rename_i ls' hls
  refine ⟨⟨fn, hf, hn, by simp [hbody]⟩, fun R hR => ?_⟩
  refine calls_of_wp hf hbody (CodeWp.wp ?_)
  have hT : TRep c1 (initTmps 0 args1 .nil) (max args1.length fn.ntmps) S1.nv S1.nb
      { tmps := (denL c1 args1).toArray ++ Array.replicate (fn.ntmps - (denL c1 args1).toArray.size) undef, defers := [] } := by
    refine ⟨rfl, ?_, fun i v hv => ?_⟩
    · simp [denL_length]; omega
    · rcases initTmps_get hv with ⟨m, e, hm⟩ | hm
      · have e' : m = i := by omega
        subst e'
        refine ⟨?_, okL_get h3 hm⟩
        have hlt : m < (denL c1 args1).toArray.size := by
          rw [List.size_toArray, denL_length]
          rcases Nat.lt_or_ge m args1.length with h | h
          · exact h
          · rw [List.getElem?_eq_none h] at hm; cases hm
        simp only [Array.getD_eq_getD_getElem?]
        rw [Array.getElem?_append_left hlt]
        simp [denL_map, hm]
      · rw [Tr.get_nil] at hm; cases hm
  refine code_sound hE n B body _ ls' hls (hB body hbody) w0 c1 _ w hT (h1.rep.tmps_irrel _ _) _ ?_
  intro o S' hm c' a' w' he hnv hnb hT' hM'
  obtain ⟨rx, g1, g2⟩ := bindL_mem h (o, S') hm
  have hL : ∀ v : SV, v.ok S'.nv S'.nb -> Led X w0 c c' S S' w' v := fun v hv =>
    ⟨h1.ext.trans he h1.nv (by rw [h1.nb]; exact Nat.le_refl _), Nat.le_trans h1.nv hnv, by have := h1.nb; have : S1.nb <= S'.nb := hnb; omega, hM', hv⟩
  have fin : ∀ rx : List (SV × St), (do some [(<- resultSV E fn S', S')] : Option (List (SV × St))) = some rx -> (∀ y ∈ rx, y ∈ ls) ->
      a'.defers = [] /\ ∃ v, (results fn a'.tmps).run P w' = .ok v w' /\ R (.returned v) w' := fun rx h g => by
    simp only [Option.bind_eq_bind, Option.bind_eq_some_iff, Option.some.injEq] at h
    obtain ⟨v, hv, rfl⟩ := h
    obtain ⟨k1, k2⟩ := result_sound (P := P) (w := w') hE hT' hM' hv
    exact ⟨hT'.defers, _, k1, hR v S' (g _ (by simp)) c' w' (hL v k2)⟩
  cases o with
  | normal => exact fin rx g1 g2
  | ret => exact fin rx g1 g2
  | exit id => simp at g1
theorem fn_sumB (hE : EnvOK P X E) {f : FuncId} {fn : Func} (hf : P.funcs[f]? = some fn) (hn : (fn.name == "runtime.NumGoroutine") = false) {n : Nat} {B : BSp} (hB : ∀ body, fn.body = some body -> BOK P X B body)
    {s : Sm} {ds : List (Nat × Look)} (h : chkFn (execFn E n B fn s.args s.start) s ds = true) (hp : ∀ d ∈ ds, EndP X s d.1 d.2) : SpecOK P X f s.spec := by
  simp only [chkFn, Bool.and_eq_true] at h
  obtain ⟨hwf, h⟩ := h
  split at h
  · rename_i ls hls
    intro args S ls' hsp w0 c w hM hargs R hR
    obtain ⟨wargs, wmem, wouts⟩ := Sm.wf_spec hwf
    unfold Sm.spec at hsp
    split at hsp
    · cases hsp
    rename_i m hm
    have hI := sm_in hm wmem hM hargs
    obtain ⟨_, hcalls⟩ := execFn_sound hE hf hn hB hls hI.start wargs
    rw [hI.args] at hcalls
    refine hcalls R fun v0 S0 hmem0 c' w' hled0 => ?_
    obtain ⟨v, S', hmem, hled, hv0⟩ := splitB_mem hmem0 hled0
    rw [<- hv0]
    obtain ⟨d, hd, hc⟩ := chkOuts_spec h (v, S') hmem
    obtain ⟨o, ho, M, hMo, hP⟩ := chkOut_spec (X := X) hc
    obtain ⟨r, hr, hone⟩ := optMap_mem hsp o (List.mem_of_getElem? ho)
    obtain ⟨c1, h1, h2⟩ := sm_out hI hM (wouts o (List.mem_of_getElem? ho)) hled hMo (hP (hp d hd o ho)) hone
    have := hR r.1 r.2 hr c1 w' h1
    rw [h2] at this
    exact this
  · cases h
def blocksOf : Code -> List (Nat × Code)
  | .seq a b => blocksOf a ++ blocksOf b
  | .cond _ t e => blocksOf t ++ blocksOf e
  | .block id b => (id, b) :: blocksOf b
  | .loop b => blocksOf b
  | _ => []
theorem BOK_of {B : BSp} : ∀ {k : Code}, (∀ id b, (id, b) ∈ blocksOf k -> ∀ sp, B id = some sp -> CodeSp P X (.block id b) sp) -> BOK P X B k
  | .seq _ _, h => ⟨BOK_of fun id c hm => h id c (List.mem_append_left _ hm), BOK_of fun id c hm => h id c (List.mem_append_right _ hm)⟩
  | .cond _ _ _, h => ⟨BOK_of fun id c hm => h id c (List.mem_append_left _ hm), BOK_of fun id c hm => h id c (List.mem_append_right _ hm)⟩
  | .block id b, h => ⟨fun sp hs => h id b List.mem_cons_self sp hs, BOK_of fun id' c hm => h id' c (List.mem_cons_of_mem _ hm)⟩
  | .loop b, h => BOK_of (k := b) h
  | .skip, _ => trivial
  | .region _ _ _, _ => trivial
  | .exit _, _ => trivial
  | .ret, _ => trivial
  | .rangeFunc _ _ _ _, _ => trivial
  | .scope _, _ => trivial
  | .label _, _ => trivial
  | .goto _, _ => trivial
  | .refuse _, _ => trivial
theorem endP_of {s : Sm} {k : Nat} {L : Look} (o : SmO) (tag : Nat) (es : List IE) (ho : s.outs[k]? = some o) (hp : o.post = [(tag, es)]) (out : (Nat -> Int) -> List Int)
    (he : ∀ ρ, es.map (IE.eval (numsOf s.nv L ρ)) = out ρ) (h : ∀ ρ, Seen X L ρ -> X tag (out ρ)) : EndP X s k L := fun o' ho' ρ hs x hx => by
  rw [ho] at ho'
  simp only [Option.some.injEq] at ho'
  subst ho'
  rw [hp] at hx
  simp only [List.mem_singleton] at hx
  subst hx
  have := h ρ hs
  rw [<- he ρ] at this
  exact this
theorem tok {ρ : Nat -> Int} {tag : Nat} {es : List IE} {l : List Int} (h : Con.holds X ρ (.ext tag es)) (e : es.map (IE.eval ρ) = l) : X tag l := by
  rw [<- e]; exact h
end
def W32 : Int × Int := (0, 4294967295)
def B64 : Int × Int := (0, 18446744073709551615)
def curveV (b : Nat) : SV := .agg [.int .i64 (.const 224), .int .i64 (.const 28), .int .i64 (.const 7), .slice b 0 2 2]
def curveB (b : Nat) : Blk := ⟨25, [.int .i64 (.const 224), .int .i64 (.const 28), .int .i64 (.const 7), .slice b 0 2 2], true⟩
def foldsB : Blk := ⟨37, [.int .i64 (.const 3), .int .i64 (.const 1), .int .i64 (.const 0), .int .i64 (.const (-1))], true⟩
def wordsV (i n : Nat) : List SV := (List.range n).map fun j => .int .i64 (.var (i + j))
def zerosV (n : Nat) : List SV := List.replicate n (.int .i64 (.const 0))
def vars (i n : Nat) : List IE := (List.range n).map fun j => .var (i + j)
def elB (i : Nat) : Blk := ⟨2, wordsV i 7, false⟩
def Wd (h : Int) : Int × Int := (-h, h)
def redL (z : Nat) : CSm :=
  { core := { bd := List.replicate 7 W32 ++ [Wd 1099511627776], args := [.ptr 0 0, .slice 2 0 7 (7 + z), .int .i64 (.var 7)], mem := [curveB 1, foldsB, ⟨2, wordsV 0 7 ++ zerosV z, true⟩], al := [],
              outs := [{ nbd := List.replicate 7 W32, val := .tup [.ptr 0 0, .slice 2 0 7 (7 + z)], writes := [(2, wordsV 8 7 ++ zerosV z)], news := [], post := [(20, vars 0 15)] }] },
    nt := 96, tin := [2, 7, 8], kinds := [(.exit 2, [2, 7])] }
def cmpS (tag : Nat) : Sm :=
  { bd := List.replicate 14 W32, args := [.view 0 0 7, .view 1 0 7], mem := [elB 0, elB 7], al := [0, 1],
    outs := [{ nbd := [(0, 1)], val := .bexp (.cmp .eql (.var 14) (.const 1)), writes := [], news := [], post := [(tag, vars 0 15)] }] }
def sameS : Sm := cmpS 26
def belowS : Sm := cmpS 27
def red7S : Sm :=
  { bd := List.replicate 7 (Wd 1099511627776), args := [curveV 0, .slice 1 0 7 7], mem := [foldsB, ⟨2, wordsV 0 7, true⟩], al := [],
    outs := [{ nbd := List.replicate 7 W32, val := .slice 1 0 7 7, writes := [(1, wordsV 7 7)], news := [], post := [(21, vars 0 14)] }] }
def red14S : Sm :=
  { bd := List.replicate 14 W32, args := [curveV 0, .slice 1 0 14 14], mem := [foldsB, ⟨2, wordsV 0 14, true⟩], al := [],
    outs := [{ nbd := List.replicate 7 W32, val := .slice 1 0 7 14, writes := [(1, wordsV 14 7 ++ zerosV 7)], news := [], post := [(22, vars 0 21)] }] }
def binS (tag z : Nat) : Sm :=
  { bd := List.replicate 14 W32, args := [curveV 0, .view 1 0 7, .view 2 0 7], mem := [foldsB, elB 0, elB 7], al := [1, 2],
    outs := [{ nbd := List.replicate 7 W32, val := .slice 3 0 7 (7 + z), writes := [], news := [⟨2, wordsV 14 7 ++ zerosV z, true⟩], post := [(tag, vars 0 21)] }] }
def plusS : Sm := binS 23 0
def minusS : Sm := binS 24 0
def timesS : Sm := binS 25 7
def orSp (a b : Fs) (args : List SV) (S : St) : Option (List (SV × St)) :=
  match a args S with
  | some r => some r
  | none => b args S
def orBl (a b : Bs) (S : St) : Option (List (Out × St)) :=
  match a S with
  | some r => some r
  | none => b S
def redBl : BSp := fun id => if id = 2 then some (orBl ((redL 0).asBlock 2).spec ((redL 7).asBlock 2).spec) else none
def ordW : List SV := [.int .i64 (.const 1549543997), .int .i64 (.const 333261125), .int .i64 (.const 3770216510), .int .i64 (.const 4294907554), .int .i64 (.const 4294967295), .int .i64 (.const 4294967295), .int .i64 (.const 4294967295)]
def orderS : Sm :=
  { bd := [], args := [curveV 0], mem := [foldsB], al := [], outs := [{ nbd := [], val := .slice 1 0 7 7, writes := [], news := [⟨2, ordW, true⟩], post := [] }] }
def sumBelowS : Sm := binS 31 0
def bitLt (tag nt : Nat) (c : Nat) (tin : List Tmp) (tout : Tmp) : CSm :=
  { core := { bd := List.replicate 21 W32 ++ [(-1, 223)], args := [.view 0 0 7, .view 1 0 7, .ptr 2 0, .view 3 0 7, .int .i64 (.var 21)], mem := [elB 0, elB 7, curveB 4, elB 14, foldsB], al := [0, 1, 3],
              outs := [{ nbd := [], val := .tup [.view 3 0 7], writes := [], news := [], post := [(tag, vars 0 22 ++ vars 14 7)] },
                       { nbd := List.replicate 7 W32, val := .tup [.view 5 0 7], writes := [], news := [elB 22], post := [(tag, vars 0 29)] }] },
    nt := nt, tin := tin, kinds := [(.exit c, [tout]), (.exit c, [tout])] }
def bitL (tag nt : Nat) (c : Nat) : CSm := bitLt tag nt c [1, 2, 3, 7, 8] 7
def powL : CSm := bitL 30 38 0
def ordL : CSm := bitL 32 38 0
def oinvL : CSm := bitLt 36 44 0 [1, 5, 2, 6, 7] 6
def blockB (id : Nat) (sp : Bs) : BSp := fun i => if i = id then some sp else none
def binV (tag : Nat) : Sm :=
  { bd := List.replicate 14 W32, args := [curveV 0, .view 1 0 7, .view 2 0 7], mem := [foldsB, elB 0, elB 7], al := [1, 2],
    outs := [{ nbd := List.replicate 7 W32, val := .view 3 0 7, writes := [], news := [elB 14], post := [(tag, vars 0 21)] }] }
def unV (tag : Nat) : Sm :=
  { bd := List.replicate 7 W32, args := [curveV 0, .view 1 0 7], mem := [foldsB, elB 0], al := [1],
    outs := [{ nbd := List.replicate 7 W32, val := .view 2 0 7, writes := [], news := [elB 7], post := [(tag, vars 0 14)] }] }
def powS : Sm := binV 33
def ordTimesS : Sm := binV 34
def invS : Sm := unV 35
def oinvS : Sm := unV 37
end Go.Vm
end
