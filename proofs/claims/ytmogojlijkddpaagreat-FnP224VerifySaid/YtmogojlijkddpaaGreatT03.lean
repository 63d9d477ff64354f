/- The proof of laws.FnP224Verify, text 4 of 36. Conditions: none. -/
import Derived.Laws.Externs
import Derived.Test.YtmogojlijkddpaaGreatT02
noncomputable section

set_option maxRecDepth 100000
namespace Go.Vm
theorem isD_set {listed : Array Bool} {j : Nat} (hj : j < listed.size) : isD (listed.setIfInBounds j true) = fun i => if i = j then true else isD listed i := by
  funext i
  unfold isD
  by_cases h : i = j
  · subst h; simp [hj]
  · rw [if_neg h]
    have : j ≠ i := fun e => h e.symm
    simp [Array.getElem?_setIfInBounds_ne this]
theorem mem_ready {ops : Array Oper} {listed : Array Bool} {j : Nat} (h : j ∈ Region.ready .any ops listed) :
    j < ops.size /\ listed.getD j true = false /\ ∃ o, ops[j]? = some o /\ ∀ e ∈ o.after.toList, Region.binds .any e = true -> listed.getD e.on false = true := by
  unfold Region.ready at h
  rw [List.mem_filter] at h
  obtain ⟨h1, h2⟩ := h
  simp only [Bool.and_eq_true, Bool.not_eq_true'] at h2
  have hj : j < ops.size := by simpa using h1
  refine ⟨hj, h2.1, ops[j], by simp [hj], fun e he hb => ?_⟩
  have h3 := h2.2
  simp only [hj, Array.getElem?_eq_getElem, Option.map_some, Option.getD_some, Array.all_eq_true_iff_forall_mem] at h3
  have := h3 e (by simpa using he)
  simpa [hb] using this
section
variable {P : Program} {X : Tk} {E : Env} {l : List Oper} {nt0 n0 m0 : Nat} {w0 : Base} {c0 : Ctx}
structure Ready (X : Tk) (E : Env) (w0 : Base) (c0 : Ctx) (l : List Oper) (nt0 n0 m0 : Nat) (c : Ctx) (D Pu : Nat) (S : St) (listed : Array Bool) (a : Act) (w : World) (j : Nat) (o : Oper) : Prop where
  closedL' : ∀ (j' : Nat) o', l[j']? = some o' -> isD (listed.setIfInBounds j true) j' = true -> ∀ e ∈ o'.after.toList, Region.binds .any e = true -> isD (listed.setIfInBounds j true) e.on = true
  ahead : ∀ i, ((beforeL l []).getD j 0).testBit i = true -> isD listed i = true /\ i < j
  ev : EvOK c (withT S (cut D listed 0 l S.tmps)) a.eval
  trep : TRep c (cut D listed 0 l S.tmps) S.nt S.nv S.nb a
  opds : ∀ x ∈ o.op.operands, opd (withT S (cut D listed 0 l S.tmps)) x = opd S x
theorem ready_of (G : Stat l nt0) {c : Ctx} {D Pu : Nat} {S : St} {listed : Array Bool} {a : Act} {w : World} (I : DInv X E w0 c0 l nt0 n0 m0 c D Pu S listed a w)
    {j : Nat} {o : Oper} (ho : l[j]? = some o) (hpre : ∀ e ∈ o.after.toList, Region.binds .any e = true -> isD listed e.on = true) :
    Ready X E w0 c0 l nt0 n0 m0 c D Pu S listed a w j o := by
  have hjl := lt_of_get ho
  have hset := isD_set (listed := listed) (j := j) (by rw [I.size]; exact hjl)
  have hcl' : ∀ (j' : Nat) o', l[j']? = some o' -> isD (listed.setIfInBounds j true) j' = true -> ∀ e ∈ o'.after.toList, Region.binds .any e = true -> isD (listed.setIfInBounds j true) e.on = true := by
    intro j' o' ho' hd e he' hb
    rw [hset] at hd ⊢
    simp only at hd ⊢
    by_cases e1 : e.on = j
    · simp [e1]
    · rw [if_neg e1]
      by_cases e2 : j' = j
      · subst e2
        rw [ho] at ho'
        simp only [Option.some.injEq] at ho'
        subst ho'
        exact hpre e he' hb
      · rw [if_neg e2] at hd
        exact I.closedL j' o' ho' hd e he' hb
  have ahead : ∀ i, ((beforeL l []).getD j 0).testBit i = true -> isD listed i = true /\ i < j := fun i hi => by
    have := bits_closed G.edges hcl' j hjl (by rw [hset]; simp) i hi
    refine ⟨?_, this.2⟩
    have h1 := this.1
    rw [hset] at h1
    simp only [] at h1
    rwa [if_neg (by omega)] at h1
  have htr : TRep c (cut D listed 0 l S.tmps) S.nt S.nv S.nb a := ⟨I.defers, I.asize, fun t v hv => by
    obtain ⟨h1, h2⟩ := cut_get hv
    obtain ⟨h3, h4⟩ := I.tmps t v h1
    refine ⟨?_, h3⟩
    rcases h4 with h4 | ⟨i, p, k1, k2, k3, k4⟩
    · exact h4
    · have := h2 i p k1 k4 (by rw [Nat.zero_add]; exact k2)
      rw [Nat.zero_add, k3] at this; cases this⟩
  refine ⟨hcl', ahead, fun x u hx => opd_sound (S := withT S (cut D listed 0 l S.tmps)) htr hx, htr, fun x hx => opd_get fun t ht => ?_⟩
  subst ht
  refine cut_keep fun m p hp hd hb => ?_
  rw [Nat.zero_add] at hb ⊢
  cases hl : isD listed m with
  | true => rfl
  | false =>
    have hw := (I.pend m p hp hb hl).1
    rw [hd] at hw
    have := (ahead m (war_spec hw ho hx)).1
    rw [hl] at this; cases this
theorem real_get (G : Stat l nt0) {c : Ctx} {D Pu : Nat} {S : St} {listed : Array Bool} {a : Act} {w : World} (I : DInv X E w0 c0 l nt0 n0 m0 c D Pu S listed a w)
    {g : Nat} {p : Oper} {t : Tmp} {u : SV} (hp : l[g]? = some p) (ht : p.dst = some t) (hu : S.tmps.get (path t) = some u) (hg : isD listed g = true) : a.tmps.getD t undef = u.den c := by
  rcases (I.tmps t u hu).2 with h | ⟨i, q, k1, k2, k3, k4⟩
  · exact h
  · have := G.unique k1 hp k4 ht
    subst this
    rw [hg] at k3; cases k3
theorem wanted_yes {ops : Array Oper} {o : Oper} {a : Act} (h : ∀ g w, o.guard = some (g, w) -> ∃ p t, ops.toList[g]? = some p /\ p.dst = some t /\ a.tmps.getD t undef = .bool w) : Region.wanted o (yielded ops a.tmps) = true := by
  unfold Region.wanted
  split
  · rfl
  · rename_i g w hg
    obtain ⟨p, t, h1, h2, h3⟩ := h g w hg
    simp [yields_bool h1 h2 h3]
theorem wanted_no {ops : Array Oper} {o : Oper} {a : Act} (h : ∃ g w p t, o.guard = some (g, w) /\ ops.toList[g]? = some p /\ p.dst = some t /\ (a.tmps.getD t undef = .bool (!w) \/ a.tmps.getD t undef = undef)) :
    Region.wanted o (yielded ops a.tmps) = false := by
  obtain ⟨g, w, p, t, h0, h1, h2, h3⟩ := h
  unfold Region.wanted
  rw [h0]
  rcases h3 with h3 | h3
  · simp [yields_bool h1 h2 h3]
  · simp [yields_undef h1 h2 h3]
theorem act_put_get {a : Act} {d : Option Tmp} {v : Value} {t : Nat} (hd : ∀ x, d = some x -> x < a.tmps.size) : (a.put d v).tmps.getD t undef = if d = some t then v else a.tmps.getD t undef := by
  cases d with
  | none => simp [Act.put]
  | some d =>
    have := hd d rfl
    simp only [Act.put, Array.getD_eq_getD_getElem?, Option.some.injEq]
    by_cases h : d = t
    · subst h; simp [this]
    · rw [if_neg h, Array.getElem?_setIfInBounds_ne h]
theorem pend_done (G : Stat l nt0) {c : Ctx} {D Pu : Nat} {S : St} {listed : Array Bool} {a : Act} {w : World} (I : DInv X E w0 c0 l nt0 n0 m0 c D Pu S listed a w)
    {j : Nat} {o : Oper} (ho : l[j]? = some o) (hDj : D.testBit j = true) (R : Ready X E w0 c0 l nt0 n0 m0 c D Pu S listed a w j o) {x : Value} (hx : ∀ d, o.dst = some d -> ∃ u, S.tmps.get (path d) = some u /\ u.den c = x) :
    DInv X E w0 c0 l nt0 n0 m0 c D Pu S (listed.setIfInBounds j true) (a.put o.dst x) w := by
  have hjl := lt_of_get ho
  have hset := isD_set (listed := listed) (j := j) (by rw [I.size]; exact hjl)
  have hds : ∀ d, o.dst = some d -> d < a.tmps.size := fun d hd => by rw [I.asize, I.nt]; exact G.dst j o ho d hd
  refine ⟨by simp [I.size], R.closedL', fun i hi hd => ?_, I.closedD, fun i p hp hi hl => ?_, I.nt, I.ext, I.nv, I.nb, I.rep, ?_, ?_, fun t v hv => ?_⟩
  · rw [hset] at hd
    simp only at hd
    split at hd
    · rename_i e; rw [e]; exact hDj
    · exact I.sub i hi hd
  · rw [hset] at hl
    simp only at hl
    split at hl
    · cases hl
    · exact I.pend i p hp hi hl
  · have := I.defers; cases o.dst <;> exact this
  · rw [<- I.asize]; cases o.dst <;> simp [Act.put]
  · obtain ⟨h1, h2⟩ := I.tmps t v hv
    refine ⟨h1, ?_⟩
    by_cases hd : o.dst = some t
    · left
      rw [act_put_get hds, if_pos hd]
      obtain ⟨u, g1, g2⟩ := hx t hd
      rw [hv] at g1
      simp only [Option.some.injEq] at g1
      rw [g1, g2]
    · rcases h2 with h2 | ⟨i, p, k1, k2, k3, k4⟩
      · left; rw [act_put_get hds, if_neg hd]; exact h2
      · right
        refine ⟨i, p, k1, k2, ?_, k4⟩
        rw [hset]
        simp only
        rw [if_neg]
        · exact k3
        intro e
        subst e
        rw [ho] at k1
        simp only [Option.some.injEq] at k1
        subst k1
        exact hd k4
theorem effD_spec {b : List Nat} : ∀ {n : Nat} {ops : List Oper} {D Pu : Nat} {S : St} {j : Nat} {l' : List Oper} {res : List St}, effD E n ops b D Pu S j l' = some res ->
    ∀ (m : Nat) o, l'[m]? = some o -> D.testBit (j + m) = false -> edgesIn o D = true -> gYes (guardOf ops S o) = true /\ ∃ n1 eff ls r, n1 < n /\ execOne E n1 { o with guard := none } S = some (eff, ls) /\
      (bindL ls fun (v, S') => if okDst S' o.dst && recheck E b ops Pu (j + m) (S'.put o.dst v) then do
                bindL (<- satD E ops b 0 ops (D ||| 2 ^ (j + m)) Pu (S'.put o.dst v)) fun x => exploreD E n1 ops b x.1 x.2.1 x.2.2
              else none) = some r /\ ∀ x ∈ r, x ∈ res
  | 0, _, _, _, _, _, _, _, h => by simp [effD] at h
  | n + 1, ops, D, Pu, S, j, [], res, _ => fun m o hm => by simp at hm
  | n + 1, ops, D, Pu, S, j, o :: rest, res, h => by
    simp only [effD] at h
    split at h
    · cases h
    rename_i more hmore
    intro m o' hm hD hin
    cases m with
    | zero =>
      simp only [List.getElem?_cons_zero, Option.some.injEq] at hm
      subst hm
      rw [Nat.add_zero] at hD ⊢
      rw [if_neg (by simp [hD, hin])] at h
      split at h
      · rename_i hg
        simp only [Option.bind_eq_bind, Option.bind_eq_some_iff, Option.some.injEq] at h
        obtain ⟨⟨eff, ls⟩, h1, r, h2, rfl⟩ := h
        exact ⟨hg, n, eff, ls, r, by omega, h1, h2, fun x hx => List.mem_append_left _ hx⟩
      · cases h
    | succ m =>
      have ih := effD_spec hmore m o' (by simpa using hm) (by rwa [show j + 1 + m = j + (m + 1) by omega]) hin
      rw [show j + 1 + m = j + (m + 1) by omega] at ih
      obtain ⟨g1, n1, eff, ls, r, g2, g3, g4, g5⟩ := ih
      refine ⟨g1, n1, eff, ls, r, by omega, g3, g4, fun x hx => ?_⟩
      have := g5 x hx
      split at h
      · simp only [Option.some.injEq] at h; subst h; exact this
      · split at h
        · simp only [Option.bind_eq_bind, Option.bind_eq_some_iff, Option.some.injEq] at h
          obtain ⟨_, _, r', _, rfl⟩ := h
          exact List.mem_append_right _ this
        · cases h
theorem eff_done (G : Stat l nt0) {c : Ctx} {D Pu : Nat} {S : St} {listed : Array Bool} {a : Act} {w : World} (I : DInv X E w0 c0 l nt0 n0 m0 c D Pu S listed a w)
    {j : Nat} {o : Oper} (ho : l[j]? = some o) (hDj : D.testBit j = false) (hin : edgesIn o D = true) (R : Ready X E w0 c0 l nt0 n0 m0 c D Pu S listed a w j o)
    {v : SV} {S' : St} {c' : Ctx} {w' : World} (ht : S'.tmps = S.tmps) (hnt : S'.nt = S.nt) (hx : Ext S.nv S.nb c c') (hnv : S.nv <= S'.nv) (hnb : S.nb <= S'.nb) (hM : MRep X w0 c' S' w') (hv : v.ok S'.nv S'.nb)
    (hre : recheck E (beforeL l []) l Pu j (S'.put o.dst v) = true) :
    DInv X E w0 c0 l nt0 n0 m0 c' (D ||| 2 ^ j) Pu (S'.put o.dst v) (listed.setIfInBounds j true) (a.put o.dst (v.den c')) w' := by
  have hjl := lt_of_get ho
  have hset := isD_set (listed := listed) (j := j) (by rw [I.size]; exact hjl)
  have hds : ∀ d, o.dst = some d -> d < a.tmps.size := fun d hd => by rw [I.asize, I.nt]; exact G.dst j o ho d hd
  have hcl := closedN_add I.closedD ho hin
  have hkeep : ∀ (g : Nat) p t, l[g]? = some p -> p.dst = some t -> g ≠ j -> (S'.put o.dst v).tmps.get (path t) = S.tmps.get (path t) := fun g p t hp hpt hg => by
    rw [put_get, if_neg, ht]
    intro e
    exact hg (G.unique ho hp e hpt)
  have e1 : (S'.put o.dst v).nv = S'.nv := by cases o.dst <;> rfl
  have e2 : (S'.put o.dst v).nb = S'.nb := by cases o.dst <;> rfl
  have e3 : (S'.put o.dst v).nt = S'.nt := by cases o.dst <;> rfl
  have hden : ∀ t u, S.tmps.get (path t) = some u -> u.den c' = u.den c := fun t u hu => SV.den_ext hx (I.tmps t u hu).1
  refine ⟨by simp [I.size], R.closedL', fun i hi hd => ?_, hcl, fun i p hp hi hl => ?_, ?_, I.ext.trans hx I.nv I.nb, ?_, ?_, ?_, ?_, ?_, fun t u hu => ?_⟩
  · rw [hset] at hd
    simp only at hd
    rw [testBit_or_pow]
    split at hd
    · rename_i e; simp [e]
    · simp [I.sub i hi hd]
  · rw [hset] at hl
    simp only at hl
    split at hl
    · cases hl
    rename_i hij
    rw [testBit_or_pow] at hi
    simp only [Bool.or_eq_true, decide_eq_true_eq] at hi
    have hDi : D.testBit i = true := by
      rcases hi with hi | hi
      · exact hi
      · exact absurd hi.symm hij
    obtain ⟨h1, h2⟩ := I.pend i p hp hDi hl
    refine ⟨h1, ?_⟩
    have hgD : ∀ g w, p.guard = some (g, w) -> g ≠ j := fun g w hg e => by
      have := (closedN_before G I.closedD (lt_of_get hp) hDi (G.guard i p hp g w hg)).1
      rw [e, hDj] at this; cases this
    rcases h2 with ⟨g1, g2, v', g3, g4⟩ | ⟨⟨g, w1, q, t, u, k1, k2, k3, k4, k5⟩, g4⟩
    · left
      refine ⟨g1, fun g w1 hg => ?_, ?_⟩
      · obtain ⟨q, t, u, k1, k2, k3, k4⟩ := g2 g w1 hg
        exact ⟨q, t, u, k1, k2, by rw [hkeep g q t k1 k2 (hgD g w1 hg)]; exact k3, by rw [hden t u k3]; exact k4⟩
      · have := allIdx_get hre i p hp
        simp only [Nat.zero_add, g1, Bool.not_true, Bool.false_or, Bool.or_eq_true] at this
        rcases this with h | h
        · have := (R.ahead i h).1
          rw [hl] at this; cases this
        · split at h
          · cases h
          · rename_i v2 hv2
            refine ⟨v2, hv2, fun d hd => ?_⟩
            rw [hd] at h
            simp only at h
            split at h
            · rename_i u hu
              have := same_spec h
              exact ⟨u, hu, by rw [this]⟩
            · cases h
    · right
      refine ⟨⟨g, w1, q, t, u, k1, k2, k3, by rw [hkeep g q t k2 k3 (hgD g w1 k1)]; exact k4, by rw [hden t u k4]; exact k5⟩, fun d hd => ?_⟩
      obtain ⟨u, m1, m2⟩ := g4 d hd
      exact ⟨u, by rw [hkeep i p d hp hd hij]; exact m1, by rw [hden d u m1]; exact m2⟩
  · rw [e3, hnt]; exact I.nt
  · rw [e1]; exact Nat.le_trans I.nv hnv
  · rw [e2]; exact Nat.le_trans I.nb hnb
  · rw [put_withT]; exact hM.tmps_irrel _ _
  · have := I.defers; cases o.dst <;> exact this
  · rw [e3, hnt, <- I.asize]; cases o.dst <;> simp [Act.put]
  · rw [e1, e2]
    rw [put_get] at hu
    by_cases hd : o.dst = some t
    · rw [if_pos hd] at hu
      simp only [Option.some.injEq] at hu
      subst hu
      exact ⟨hv, .inl (by rw [act_put_get hds, if_pos hd])⟩
    · rw [if_neg hd, ht] at hu
      obtain ⟨h1, h2⟩ := I.tmps t u hu
      refine ⟨SV.ok_mono hnv hnb h1, ?_⟩
      rcases h2 with h2 | ⟨i, p, k1, k2, k3, k4⟩
      · left; rw [act_put_get hds, if_neg hd, hden t u hu]; exact h2
      · right
        have hij : i ≠ j := fun e => by rw [e, hDj] at k2; cases k2
        refine ⟨i, p, k1, by rw [testBit_or_pow]; simp [k2], ?_, k4⟩
        rw [hset]
        simp only
        rw [if_neg hij]; exact k3
end
section
variable {P : Program} {X : Tk} {E : Env} {nt0 n0 m0 : Nat} {w0 : Base} {c0 : Ctx}
theorem any_sound (hE : EnvOK P X E) {N : Nat} (hall : ∀ m, m < N -> OneOK P X E m) {ops : Array Oper} (G : Stat ops.toList nt0) {Q : Exit -> Act -> World -> Prop} {all : List St}
    (hQ : ∀ S ∈ all, ∀ c a w, Ext n0 m0 c0 c -> n0 <= S.nv -> m0 <= S.nb -> TRep c S.tmps S.nt S.nv S.nb a -> MRep X w0 c S w -> Q .normal a w) :
    ∀ (fuel : Nat) (listed : Array Bool) (a : Act) (w : World) (c : Ctx) (D Pu : Nat) (S : St) (n : Nat) (res : List St), n <= N -> DInv X E w0 c0 ops.toList nt0 n0 m0 c D Pu S listed a w ->
      exploreD E n ops.toList (beforeL ops.toList []) D Pu S = some res -> (∀ S' ∈ res, S' ∈ all) ->
      ((List.range ops.size).filter fun i => !isD listed i).length <= fuel -> wpAny P .any ops Q fuel listed a w := by
  have leaf : ∀ (listed : Array Bool) (a : Act) (w : World) (c : Ctx) (D Pu : Nat) (S : St) (n : Nat) (res : List St), DInv X E w0 c0 ops.toList nt0 n0 m0 c D Pu S listed a w ->
      exploreD E n ops.toList (beforeL ops.toList []) D Pu S = some res -> (∀ S' ∈ res, S' ∈ all) -> (∀ j, j < ops.toList.length -> isD listed j = true) -> Q .normal a w := by
    intro listed a w c D Pu S n res I hex hres hdone
    cases n with
    | zero => simp [exploreD] at hex
    | succ n =>
      simp only [exploreD] at hex
      have hD : allIdx (fun j _ => D.testBit j) 0 ops.toList = true := by
        have key : ∀ (l : List Oper) (i : Nat), i + l.length <= ops.toList.length -> allIdx (fun j _ => D.testBit j) i l = true := by
          intro l
          induction l with
          | nil => intro i _; rfl
          | cons o l ih =>
            intro i hi
            simp only [List.length_cons] at hi
            simp only [allIdx, Bool.and_eq_true]
            exact ⟨I.sub i (by omega) (hdone i (by omega)), ih (i + 1) (by omega)⟩
        exact key _ 0 (by omega)
      rw [if_pos hD] at hex
      simp only [Option.some.injEq] at hex
      subst hex
      refine hQ S (hres S (by simp)) c a w I.ext I.nv I.nb ⟨I.defers, I.asize, fun t v hv => ?_⟩ I.rep
      obtain ⟨h1, h2⟩ := I.tmps t v hv
      refine ⟨?_, h1⟩
      rcases h2 with h2 | ⟨i, p, k1, k2, k3, k4⟩
      · exact h2
      · rw [hdone i (lt_of_get k1)] at k3; cases k3
  intro fuel
  induction fuel with
  | zero =>
    intro listed a w c D Pu S n res hnN I hex hres hf
    have hall' : ∀ j, j < ops.toList.length -> isD listed j = true := fun j hj => by
      have h0 : ((List.range ops.size).filter fun i => !isD listed i) = [] := List.eq_nil_of_length_eq_zero (by omega)
      cases hd : isD listed j with
      | true => rfl
      | false =>
        have : j ∈ (List.range ops.size).filter fun i => !isD listed i := List.mem_filter.2 ⟨by simpa using hj, by simp [hd]⟩
        rw [h0] at this; cases this
    refine ⟨?_, leaf listed a w c D Pu S n res I hex hres hall'⟩
    apply List.eq_nil_iff_forall_not_mem.2
    intro j hj
    obtain ⟨h1, h2, _⟩ := mem_ready hj
    have := hall' j (by simpa using h1)
    unfold isD at this
    have hjl : j < listed.size := by rw [I.size]; simpa using h1
    simp only [Array.getD_eq_getD_getElem?, hjl, Array.getElem?_eq_getElem, Option.getD_some] at this h2
    rw [h2] at this; cases this
  | succ fuel ih =>
    intro listed a w c D Pu S n res hnN I hex hres hf
    refine ⟨fun h => ?_, fun j hj => ?_⟩
    ·
      refine leaf listed a w c D Pu S n res I hex hres fun j => ?_
      induction j using Nat.strongRecOn with
      | _ j ihj =>
        intro hj
        cases hd : isD listed j with
        | true => rfl
        | false =>
          exfalso
          have hj' : j < ops.size := by simpa using hj
          have hm : j ∈ Region.ready .any ops listed := by
            unfold Region.ready
            rw [List.mem_filter]
            refine ⟨by simpa using hj', ?_⟩
            simp only [Bool.and_eq_true, Bool.not_eq_true']
            have hjl : j < listed.size := by rw [I.size]; exact hj
            refine ⟨?_, ?_⟩
            · unfold isD at hd
              simp only [Array.getD_eq_getD_getElem?, hjl, Array.getElem?_eq_getElem, Option.getD_some] at hd ⊢
              exact hd
            · simp only [hj', Array.getElem?_eq_getElem, Option.map_some, Option.getD_some]
              rw [Array.all_eq_true_iff_forall_mem]
              intro e he
              simp only [Bool.or_eq_true, Bool.not_eq_true']
              cases hb : Region.binds .any e with
              | false => exact .inl rfl
              | true =>
                right
                have := G.edges j ops[j] (by simp [hj'])
                simp only [edgesOK, List.all_eq_true, Bool.or_eq_true, Bool.not_eq_true', decide_eq_true_eq] at this
                rcases this e (by simpa using he) with h | h
                · rw [h] at hb; cases hb
                · exact ihj e.on h (by omega)
          rw [h] at hm; cases hm
    · obtain ⟨h1, h2, o, ho, hpre⟩ := mem_ready hj
      have hjl : j < listed.size := by rw [I.size]; simpa using h1
      have hnot : isD listed j = false := by
        unfold isD
        simp only [Array.getD_eq_getD_getElem?, hjl, Array.getElem?_eq_getElem, Option.getD_some] at h2 ⊢
        exact h2
      have ho' : ops.toList[j]? = some o := by simpa using ho
      have hset := isD_set (listed := listed) (j := j) hjl
      have hcount : ((List.range ops.size).filter fun i => !isD (listed.setIfInBounds j true) i).length <= fuel := by
        rw [hset]
        have key : ∀ (l : List Nat), l.Nodup -> j ∈ l -> (l.filter fun i => !(if i = j then true else isD listed i)).length + 1 <= (l.filter fun i => !isD listed i).length := by
          intro l
          induction l with
          | nil => intro _ h; cases h
          | cons x l ih =>
            intro hn hx
            have hn' := List.nodup_cons.1 hn
            by_cases e : x = j
            · subst e
              have : (l.filter fun i => !(if i = x then true else isD listed i)) = (l.filter fun i => !isD listed i) := by
                apply List.filter_congr
                intro i hi
                have : i ≠ x := fun e => hn'.1 (e ▸ hi)
                simp [this]
              rw [List.filter_cons_of_neg (by simp), List.filter_cons_of_pos (by simp [hnot]), this]; simp
            · have hx' : j ∈ l := by
                rcases List.mem_cons.1 hx with h | h
                · exact absurd h.symm e
                · exact h
              have := ih hn'.2 hx'
              cases hd : isD listed x with
              | true => rw [List.filter_cons_of_neg (by simp [hd]), List.filter_cons_of_neg (by simp [hd])]; exact this
              | false =>
                rw [List.filter_cons_of_pos (by simp [e, hd]), List.filter_cons_of_pos (by simp [hd])]
                simp only [List.length_cons]; omega
        exact Nat.le_of_succ_le_succ (Nat.le_trans (key (List.range ops.size) List.nodup_range (by simpa using h1)) hf)
      have R := ready_of G I ho' hpre
      have hlt : ∀ e ∈ o.after.toList, Region.binds .any e = true -> e.on < ops.toList.length := fun e he hb => by
        have := G.edges j o ho'
        simp only [edgesOK, List.all_eq_true, Bool.or_eq_true, Bool.not_eq_true', decide_eq_true_eq] at this
        rcases this e he with h | h
        · rw [h] at hb; cases hb
        · have : j < ops.toList.length := lt_of_get ho'; omega
      have hgL : ∀ g w', o.guard = some (g, w') -> isD listed g = true := fun g w' hg => (R.ahead g (G.guard j o ho' g w' hg)).1
      unfold wpOp
      rw [ho]
      simp only []
      cases hDj : D.testBit j with
      | true =>
        obtain ⟨hw, hp⟩ := I.pend j o ho' hDj hnot
        rcases hp with ⟨g1, g2, v, g3, g4⟩ | ⟨⟨g, w1, q, t, u, k1, k2, k3, k4, k5⟩, g4⟩
        · have hwant : Region.wanted o (yielded ops a.tmps) = true := wanted_yes fun g w' hg => by
            obtain ⟨p, t, u, m1, m2, m3, m4⟩ := g2 g w' hg
            exact ⟨p, t, m1, m2, by rw [real_get G I m1 m2 m3 (hgL g w' hg)]; exact m4⟩
          rw [if_pos hwant]
          left
          have hpc := pureOp_congr (E := E) R.opds
          rw [g3] at hpc
          obtain ⟨r1, _⟩ := pureOp_soundE (P := P) (w := w) hE R.ev (I.rep.tmps_irrel _ _) hpc
          simp only [Oper.wp, r1, Oper.upon]
          exact ih _ _ _ c D Pu S n res hnN (pend_done G I ho' hDj R g4) hex hres hcount
        · have hwant : Region.wanted o (yielded ops a.tmps) = false := wanted_no ⟨g, w1, q, t, k1, k2, k3, by rw [real_get G I k2 k3 k4 (hgL g w1 k1)]; exact k5⟩
          rw [if_neg (by rw [hwant]; simp)]
          exact ih _ _ _ c D Pu S n res hnN (pend_done G I ho' hDj R g4) hex hres hcount
      | false =>
        have hin : edgesIn o D = true := by
          simp only [edgesIn, List.all_eq_true, Bool.or_eq_true, Bool.not_eq_true']
          intro e he
          cases hb : Region.binds .any e with
          | false => exact .inl rfl
          | true => exact .inr (I.sub e.on (hlt e he hb) (hpre e he hb))
        cases n with
        | zero => simp [exploreD] at hex
        | succ n =>
          simp only [exploreD] at hex
          split at hex
          · rename_i hDall
            have := allIdx_get hDall j o ho'
            simp only [Nat.zero_add] at this
            rw [hDj] at this; cases this
          obtain ⟨hgy, n1, eff, ls, r, q1, q2, q3, q4⟩ := effD_spec hex j o ho' (by rw [Nat.zero_add]; exact hDj) hin
          rw [Nat.zero_add] at q3
          have hwant : Region.wanted o (yielded ops a.tmps) = true := wanted_yes fun g w' hg => by
            unfold gYes at hgy
            split at hgy
            · rename_i hgo
              rcases guardOf_spec hgo with ⟨hn, _⟩ | ⟨g', w'', p, t, u, k1, k2, k3, k4, k5⟩
              · rw [hn] at hg; cases hg
              · rw [k1] at hg
                simp only [Option.some.injEq, Prod.mk.injEq] at hg
                obtain ⟨rfl, rfl⟩ := hg
                rcases k5 with ⟨rfl, _⟩ | ⟨_, h⟩ | ⟨_, h⟩ | ⟨_, _, h⟩
                · exact ⟨p, t, k2, k3, by rw [real_get G I k2 k3 k4 (hgL g' w'' k1)]; rfl⟩
                all_goals cases h
            · cases hgy
          rw [if_pos hwant]
          left
          have q2' := execOne_congr q2 (t := cut D listed 0 ops.toList S.tmps) R.opds
          obtain ⟨_, hwp⟩ := hall n1 (by omega) _ _ eff _ q2' w0 c a w (show TRep c _ _ _ _ a from R.trep) (I.rep.tmps_irrel _ _)
          refine hwp _ Q fun v S'' hm _ hnt c' w' hled => ?_
          obtain ⟨⟨v', S'⟩, hm', he⟩ := List.mem_map.1 hm
          simp only [Prod.mk.injEq] at he
          obtain ⟨rfl, rfl⟩ := he
          have hts := execOne_tmps q2 _ hm'
          obtain ⟨rx, s1, s2⟩ := bindL_mem q3 (v', S') hm'
          simp only [] at s1
          split at s1
          · rename_i hc
            simp only [Bool.and_eq_true] at hc
            simp only [Option.bind_eq_bind, Option.bind_eq_some_iff] at s1
            obtain ⟨nodes, s3, s4⟩ := s1
            have hMS : MRep X w0 c' S' w' := by
              have := hled.rep.tmps_irrel S'.tmps S'.nt
              exact this
            have I' := eff_done G I ho' hDj hin R (v := v') (S' := S') hts hnt hled.ext hled.nv hled.nb hMS hled.ok hc.2
            obtain ⟨x, hx1, hx2⟩ := satD_sound hE G s3 (fun m o' hm => by rwa [Nat.zero_add]) I'
            obtain ⟨rx', u1, u2⟩ := bindL_mem s4 x hx1
            exact ih _ _ _ c' x.1 x.2.1 x.2.2 n1 rx' (by omega) hx2 u1 (fun z hz => hres z (q4 z (s2 z (u2 z hz)))) hcount
          · cases s1
theorem draw_sound (hE : EnvOK P X E) {n : Nat} (hall : ∀ m, m < n -> OneOK P X E m) {ops : Array Oper} {S : St} {nodes : List (Nat × Nat × St)} {res : List St}
    (hok : drawOK ops.toList S = true) (hsat : satD E ops.toList (beforeL ops.toList []) 0 ops.toList 0 0 S = some nodes)
    (hres : bindL nodes (fun x => exploreD E n ops.toList (beforeL ops.toList []) x.1 x.2.1 x.2.2) = some res) {w0 : Base} {c : Ctx} {a : Act} {w : World}
    (hT : TRep c S.tmps S.nt S.nv S.nb a) (hM : MRep X w0 c S w) {id : Nat} {Q : Exit -> Act -> World -> Prop}
    (hQ : ∀ S' ∈ res, ∀ c' a' w', Ext S.nv S.nb c c' -> S.nv <= S'.nv -> S.nb <= S'.nb -> TRep c' S'.tmps S'.nt S'.nv S'.nb a' -> MRep X w0 c' S' w' -> Q .normal a' w') :
    (Code.region id ops true).wp P Q a w := by
  have G := stat_of hok
  refine wp_region_any hE.mixed ?_
  have hM' : MRep X w0 c S { w with drawn := w.drawn + 1 } := ⟨hM.mem, hM.inj, hM.wr, hM.new, hM.frame, hM.size, hM.cons, hM.bd, hM.os, hM.out, hM.tape, hM.its, hM.lens⟩
  have hrep : ∀ i, isD (Array.replicate ops.size false) i = false := fun i => by
    unfold isD
    simp only [Array.getD_eq_getD_getElem?, Array.getElem?_replicate]
    split <;> rfl
  have I0 : DInv X E w0 c ops.toList S.nt S.nv S.nb c 0 0 S (Array.replicate ops.size false) a { w with drawn := w.drawn + 1 } :=
    ⟨by simp, fun j o _ hd => (by rw [hrep] at hd; cases hd), fun j _ hd => (by rw [hrep] at hd; cases hd), fun j o _ hd => (by simp at hd), fun j o _ hd => (by simp at hd), rfl, Ext.refl _ _ _, Nat.le_refl _, Nat.le_refl _, hM',
     hT.defers, hT.size, fun t v hv => ⟨(hT.tmps t v hv).2, .inl (hT.tmps t v hv).1⟩⟩
  obtain ⟨x, hx1, hx2⟩ := satD_sound hE G hsat (fun m o hm => by rwa [Nat.zero_add]) I0
  obtain ⟨rx, h1, h2⟩ := bindL_mem hres x hx1
  refine any_sound hE hall G (all := res) (fun S' hS' c' a' w' => hQ S' hS' c' a' w') ops.size _ a _ c x.1 x.2.1 x.2.2 n rx (Nat.le_refl _) hx2 h1 h2 ?_
  exact Nat.le_trans (List.length_filter_le _ _) (by simp)
end
section
variable {P : Program} {X : Tk} {E : Env}
theorem newRng_ok {op : BinOp} {b : Bool} {n x : Int} {r : Int × Int} (h1 : r.1 <= x) (h2 : x <= r.2) (h : intCmp op x n = b) : (newRng op b n r).1 <= x /\ x <= (newRng op b n r).2 := by
  subst h
  unfold newRng
  split <;> rename_i e <;> first
    | exact ⟨h1, h2⟩
    | (simp [intCmp] at e; simp only; omega)
theorem refB_ok {ρ : Nat -> Int} {bd : Tr (Int × Int)} {n : Nat} (hB : BdOK ρ bd n) : ∀ {e : BE} {b : Bool}, e.eval ρ = b -> BdOK ρ (refB bd e b) n
  | .cmp op x y, b, h => by
    unfold refB
    split
    · rename_i op' i m heq
      simp only [BE.cmp.injEq] at heq
      obtain ⟨rfl, rfl, rfl⟩ := heq
      split
      · rename_i r hr
        intro j q hq
        rw [Tr.get_set] at hq
        split at hq
        · rename_i hji
          subst hji
          simp only [Option.some.injEq] at hq
          subst hq
          obtain ⟨h0, h1, h2⟩ := hB j r hr
          exact ⟨h0, newRng_ok h1 h2 h⟩
        · exact hB j q hq
      · exact hB
    · rename_i heq; cases heq
    · exact hB
  | .not e, b, h => by
    unfold refB
    refine refB_ok hB ?_
    simp only [BE.eval] at h
    rw [<- h]; simp
theorem code_step (hE : EnvOK P X E) {n : Nat} (hall : ∀ m, m < n -> OneOK P X E m) (hcode : CodeOK P X E n) (hops : OpsOK P X E n) : CodeOK P X E (n + 1) := by
  intro B k S ls h hB w0 c a w hT hM Q hQ
  cases k with
  | skip =>
    simp only [exec, Option.some.injEq] at h
    subst h
    exact wp_skip (hQ .normal S (by simp) c a w (Ext.refl _ _ _) (Nat.le_refl _) (Nat.le_refl _) hT hM)
  | region id ops draw =>
    simp only [exec] at h
    split at h
    · rename_i hd
      subst hd
      split at h
      · rename_i hok
        split at h
        · rename_i nodes hsat
          simp only [Option.map_eq_some_iff] at h
          obtain ⟨res, hres, rfl⟩ := h
          exact draw_sound hE hall hok hsat hres hT hM fun S' hS' c' a' w' he hnv hnb hT' hM' => hQ .normal S' (List.mem_map.2 ⟨S', hS', rfl⟩) c' a' w' he hnv hnb hT' hM'
        · cases h
      · cases h
    · rename_i hd
      have hd' : draw = false := by simpa using hd
      subst hd'
      simp only [Option.map_eq_some_iff] at h
      obtain ⟨Ss, h1, rfl⟩ := h
      refine wp_region_list (hops ops ops.toList S Ss h1 w0 c a w hT hM Q fun S' hS' c' a' w' he hnv hnb hT' hM' => ?_)
      exact hQ .normal S' (List.mem_map.2 ⟨S', hS', rfl⟩) c' a' w' he hnv hnb hT' hM'
  | seq x y =>
    simp only [exec, Option.bind_eq_bind, Option.bind_eq_some_iff] at h
    obtain ⟨la, h1, h2⟩ := h
    refine wp_seq (CodeWp.wp (hcode B x S la h1 hB.1 w0 c a w hT hM _ fun o S' hm c' a' w' he hnv hnb hT' hM' => ?_))
    obtain ⟨rx, g1, g2⟩ := bindL_mem h2 (o, S') hm
    have other : ∀ o', o = o' -> some [(o', S')] = some rx -> Q o'.toExit a' w' := fun o' e h => by
      simp only [Option.some.injEq] at h
      exact hQ o' S' (g2 _ (by rw [<- h]; simp)) c' a' w' he hnv hnb hT' hM'
    cases o with
    | normal =>
      simp only [] at g1
      exact CodeWp.wp (hcode B y S' rx g1 hB.2 w0 c' a' w' hT' hM' Q fun o S'' hm' c'' a'' w'' he' hnv' hnb' hT'' hM'' =>
        hQ o S'' (g2 _ hm') c'' a'' w'' (he.trans he' hnv hnb) (Nat.le_trans hnv hnv') (Nat.le_trans hnb hnb') hT'' hM'')
    | ret => exact other .ret rfl g1
    | exit id => exact other (.exit id) rfl g1
  | cond x t e =>
    simp only [exec, Option.bind_eq_bind, Option.bind_eq_some_iff] at h
    obtain ⟨u, hu, h⟩ := h
    obtain ⟨h1, h2⟩ := opd_sound hT hu
    split at h
    · exact wp_cond_true (by rw [h1]; rfl) (CodeWp.wp (hcode B t S ls h hB.1 w0 c a w hT hM Q hQ))
    · exact wp_cond_false (by rw [h1]; rfl) (CodeWp.wp (hcode B e S ls h hB.2 w0 c a w hT hM Q hQ))
    · rename_i y
      split at h
      · rename_i la lb ha hb
        simp only [Option.some.injEq] at h
        subst h
        have hM' : ∀ b, y.eval c.ρ = b -> MRep X w0 c (S.learn y b) w := fun b hb =>
          hM.more (ks := [.test y b]) (bd' := refB S.bd y b) (Nat.le_refl _) (Ext.refl _ _ _) (by
            intro k hk
            simp only [List.mem_singleton] at hk
            subst hk
            exact ⟨h2, hb⟩) (refB_ok hM.bd hb)
        refine wp_cond_split (t := y.eval c.ρ) (by rw [h1]; rfl) (fun ht => ?_) (fun hf => ?_)
        · exact CodeWp.wp (hcode B t _ la ha hB.1 w0 c a w hT (hM' true ht) Q fun o S' hm => hQ o S' (List.mem_append_left _ hm))
        · exact CodeWp.wp (hcode B e _ lb hb hB.2 w0 c a w hT (hM' false hf) Q fun o S' hm => hQ o S' (List.mem_append_right _ hm))
      · cases h
    · cases h
  | block id b =>
    simp only [exec] at h
    split at h
    · rename_i sp hsp
      exact hB.1 sp hsp S ls h w0 c a w hT hM Q hQ
    simp only [Option.bind_eq_bind, Option.bind_eq_some_iff, Option.some.injEq] at h
    obtain ⟨l, h1, rfl⟩ := h
    refine wp_block (CodeWp.wp (hcode B b S l h1 hB.2 w0 c a w hT hM _ fun o S' hm c' a' w' he hnv hnb hT' hM' => ?_))
    have hq := fun o' (hm' : (o', S') ∈ l.map fun (o, S) => match o with | .exit i => if i = id then (.normal, S) else (.exit i, S) | o => (o, S)) =>
      hQ o' S' hm' c' a' w' he hnv hnb hT' hM'
    cases o with
    | normal => exact hq .normal (List.mem_map.2 ⟨_, hm, rfl⟩)
    | ret => exact hq .ret (List.mem_map.2 ⟨_, hm, rfl⟩)
    | exit i =>
      simp only [Out.toExit, Exit.inBlock]
      split
      · rename_i hi
        exact hq .normal (List.mem_map.2 ⟨_, hm, by simp [hi]⟩)
      · rename_i hi
        exact hq (.exit i) (List.mem_map.2 ⟨_, hm, by simp [hi]⟩)
  | loop b =>
    simp only [exec, Option.bind_eq_bind, Option.bind_eq_some_iff] at h
    obtain ⟨la, h1, h2⟩ := h
    refine LoopWp.round (CodeWp.wp (hcode B b S la h1 hB w0 c a w hT hM _ fun o S' hm c' a' w' he hnv hnb hT' hM' => ?_))
    obtain ⟨rx, g1, g2⟩ := bindL_mem h2 (o, S') hm
    have other : ∀ o', o = o' -> some [(o', S')] = some rx -> Q o'.toExit a' w' := fun o' e h => by
      simp only [Option.some.injEq] at h
      exact hQ o' S' (g2 _ (by rw [<- h]; simp)) c' a' w' he hnv hnb hT' hM'
    cases o with
    | normal =>
      simp only [] at g1
      exact hcode B (.loop b) S' rx g1 hB w0 c' a' w' hT' hM' Q fun o S'' hm' c'' a'' w'' he' hnv' hnb' hT'' hM'' =>
        hQ o S'' (g2 _ hm') c'' a'' w'' (he.trans he' hnv hnb) (Nat.le_trans hnv hnv') (Nat.le_trans hnb hnb') hT'' hM''
    | ret => exact other .ret rfl g1
    | exit id => exact other (.exit id) rfl g1
  | exit id =>
    simp only [exec, Option.some.injEq] at h
    subst h
    exact wp_exit (hQ (.exit id) S (by simp) c a w (Ext.refl _ _ _) (Nat.le_refl _) (Nat.le_refl _) hT hM)
  | ret =>
    simp only [exec, Option.some.injEq] at h
    subst h
    exact wp_ret (hQ .ret S (by simp) c a w (Ext.refl _ _ _) (Nat.le_refl _) (Nat.le_refl _) hT hM)
  | rangeFunc f p s b => simp [exec] at h
  | scope b => simp [exec] at h
  | label l => simp [exec] at h
  | goto l => simp [exec] at h
  | refuse y => simp [exec] at h
theorem sound_all (hE : EnvOK P X E) : ∀ n, ∀ m, m <= n -> CodeOK P X E m /\ OneOK P X E m /\ OpsOK P X E m /\ CallOK P X E m
  | 0, m, hm => by
    obtain rfl : m = 0 := by omega
    exact ⟨fun B k S ls h => (by simp [exec] at h), fun o S b ls h => by simp [execOne] at h, fun ops l S Ss h => by simp [execOps] at h, fun f args S ls h => by simp [execCall] at h⟩
  | n + 1, m, hm => by
    have ih := sound_all hE n
    rcases Nat.lt_or_ge m (n + 1) with h | h
    · exact ih m (by omega)
    · obtain rfl : m = n + 1 := by omega
      obtain ⟨h1, h2, h3, h4⟩ := ih n (Nat.le_refl _)
      exact ⟨code_step hE (fun k hk => (ih k (by omega)).2.1) h1 h3, one_step hE h4, ops_step h2 h3, call_step hE h1⟩
theorem call_sound (hE : EnvOK P X E) (n : Nat) : CallOK P X E n := (sound_all hE n n (Nat.le_refl _)).2.2.2
theorem code_sound (hE : EnvOK P X E) (n : Nat) : CodeOK P X E n := (sound_all hE n n (Nat.le_refl _)).1
end
def word (r : Int × Int) : Bool := decide (0 <= r.1) && decide (r.2 < 18446744073709551616)
def carry (r : Int × Int) : Bool := decide (0 <= r.1) && decide (r.2 <= 1)
def nameTwo (S : St) (r1 r2 : Int × Int) (k : Con) : St :=
  { S with nv := S.nv + 2, bd := setBd (setBd S.bd S.nv (some r1)) (S.nv + 1) (some r2), cons := k :: S.cons }
def extAdd : List SV -> St -> Option (SV × St)
  | [.int .u64 x, .int .u64 y, .int .u64 z], S =>
    match rng S.bd x, rng S.bd y, rng S.bd z with
    | some a, some b, some c =>
      if word a && word b && carry c then
        match x, y, z with
        | .const a, .const b, .const c => some (.tup [.int .u64 (.const ((a + b + c) % 18446744073709551616)), .int .u64 (.const ((a + b + c) / 18446744073709551616))], S)
        | _, _, _ =>
          if a.2 + b.2 + c.2 < 18446744073709551616 then
            let (e, S) := nameNew S (.add (.add x y) z)
            some (.tup [.int .u64 e, .int .u64 (.const 0)], S)
          else some (.tup [.int .u64 (.var S.nv), .int .u64 (.var (S.nv + 1))],
            nameTwo S (0, 18446744073709551615) (0, 1) (.add64 S.nv (S.nv + 1) x y z))
      else none
    | _, _, _ => none
  | _, _ => none
def extSub : List SV -> St -> Option (SV × St)
  | [.int .u64 x, .int .u64 y, .int .u64 z], S =>
    match rng S.bd x, rng S.bd y, rng S.bd z with
    | some a, some b, some c =>
      if word a && word b && carry c then
        match x, y, z with
        | .const a, .const b, .const c => some (.tup [.int .u64 (.const ((a - b - c) % 18446744073709551616)), .int .u64 (.const (if a < b + c then 1 else 0))], S)
        | _, _, _ =>
          if b.2 + c.2 <= a.1 then
            let (e, S) := nameNew S (.sub (.sub x y) z)
            some (.tup [.int .u64 e, .int .u64 (.const 0)], S)
          else some (.tup [.int .u64 (.var S.nv), .int .u64 (.var (S.nv + 1))],
            nameTwo S (0, 18446744073709551615) (0, 1) (.sub64 S.nv (S.nv + 1) x y z))
      else none
    | _, _, _ => none
  | _, _ => none
section
variable {P : Program} {X : Tk} {w : World} {w0 : Base} {c : Ctx} {S : St}
theorem nameTwo_sound (hM : MRep X w0 c S w) {r1 r2 : Int × Int} {k : Con} (u v : Int) (h1 : r1.1 <= u /\ u <= r1.2) (h2 : r2.1 <= v /\ v <= r2.2)
    (hk : k.ok (S.nv + 2)) (hh : ∀ ρ : Nat -> Int, (∀ i, i < S.nv -> ρ i = c.ρ i) -> ρ S.nv = u -> ρ (S.nv + 1) = v -> k.holds X ρ) :
    ∃ c', Named X w0 w c c' S (nameTwo S r1 r2 k) /\ c'.ρ S.nv = u /\ c'.ρ (S.nv + 1) = v := by
  have hx : Ext S.nv S.nb c ⟨fun i => if i = S.nv then u else if i = S.nv + 1 then v else c.ρ i, c.β, c.o, c.κ⟩ :=
    ⟨fun i hi => by simp only []; rw [if_neg (by omega), if_neg (by omega)], fun _ _ => rfl, fun _ _ => rfl, fun _ _ => rfl⟩
  refine ⟨_, ⟨hx, by simp [nameTwo], rfl, rfl, rfl, rfl, ?_⟩, by simp, by simp⟩
  refine hM.more (ks := [k]) (nv' := S.nv + 2) (by omega) hx ?_ ?_
  · intro k' hk'
    simp only [List.mem_singleton] at hk'
    subst hk'
    exact ⟨hk, hh _ hx.ρ (by simp) (by simp)⟩
  · refine setBd_ok (i := S.nv + 1) (BdOK.ext (n := S.nv + 1) (ρ := fun i => if i = S.nv then u else if i = S.nv + 1 then v else c.ρ i) ?_ (fun _ _ => rfl) (by omega)) fun x hr => ?_
    · refine setBd_ok (hM.bd.ext hx.ρ (Nat.le_succ _)) fun x hr => ?_
      simp only [Option.some.injEq] at hr
      subst hr
      simpa using h1
    · simp only [Option.some.injEq] at hr
      subst hr
      simpa using h2
theorem Named.led {c' : Ctx} {S' : St} {v : SV} (h : Named X w0 w c c' S S') (hv : v.ok S'.nv S'.nb) : Led X w0 c c' S S' w v :=
  ⟨h.ext, h.nv, by rw [h.nb]; exact Nat.le_refl _, h.rep, hv⟩
theorem toNat_of {n : Int} (h : 0 <= n) : ∃ m : Nat, n = m := ⟨n.toNat, by omega⟩
theorem extAdd_ok {f : FuncId}
    (hrun : ∀ (x y z : Nat) (w : World), x < 18446744073709551616 -> y < 18446744073709551616 -> z <= 1 -> (callFunc f #[.int .u64 x, .int .u64 y, .int .u64 z]).run P w =
      .ok (.value (.tuple #[.int .u64 (((x + y + z) % 18446744073709551616 : Nat) : Int), .int .u64 (((x + y + z) / 18446744073709551616 : Nat) : Int)])) w) : ExtOK P X f extAdd := by
  intro args S v S' h w0 c w hM hargs
  unfold extAdd at h
  split at h
  · rename_i _ x y z
    split at h
    · rename_i ra rb rc ha hb hc
      split at h
      · rename_i hw
        simp only [Bool.and_eq_true, word, carry, decide_eq_true_eq] at hw
        have ia := rng_sound hM.bd ha
        have ib := rng_sound hM.bd hb
        have ic := rng_sound hM.bd hc
        obtain ⟨a, ea⟩ := toNat_of (n := x.eval c.ρ) (by omega)
        obtain ⟨b, eb⟩ := toNat_of (n := y.eval c.ρ) (by omega)
        obtain ⟨d, ed⟩ := toNat_of (n := z.eval c.ρ) (by omega)
        have hr := hrun a b d w (by omega) (by omega) (by omega)
        have hargs' : (denL c [.int .u64 x, .int .u64 y, .int .u64 z]).toArray = #[.int .u64 a, .int .u64 b, .int .u64 d] := by
          simp only [denL, SV.den, ea, eb, ed]
        rw [hargs', hr]
        split at h
        · rename_i a' b' d' _ _ _
          simp only [Option.some.injEq, Prod.mk.injEq] at h
          obtain ⟨rfl, rfl⟩ := h
          simp only [IE.eval] at ea eb ed ia ib ic
          refine ⟨c, w, (Named.refl hM).led ⟨trivial, trivial, trivial⟩, ?_⟩
          have e1 : (((a + b + d) % 18446744073709551616 : Nat) : Int) = ((a : Int) + b + d) % 18446744073709551616 := by omega
          have e2 : (((a + b + d) / 18446744073709551616 : Nat) : Int) = ((a : Int) + b + d) / 18446744073709551616 := by omega
          simp only [SV.den, denL, IE.eval, ea, eb, ed, e1, e2]
        · split at h
          · rename_i hlt
            obtain ⟨h1, h2, h3⟩ := hargs
            obtain ⟨c', hN, he, hok⟩ := nameNew_sound hM (e := .add (.add x y) z) ⟨⟨h1, h2⟩, h3.1⟩
            simp only [Option.some.injEq, Prod.mk.injEq] at h
            obtain ⟨rfl, rfl⟩ := h
            refine ⟨c', w, hN.led ⟨hok, trivial, trivial⟩, ?_⟩
            simp only [SV.den, denL, he]
            simp only [IE.eval, ea, eb, ed]
            rw [Nat.mod_eq_of_lt (by omega), Nat.div_eq_of_lt (by omega)]
            push_cast; rfl
          · simp only [Option.some.injEq, Prod.mk.injEq] at h
            obtain ⟨rfl, rfl⟩ := h
            obtain ⟨h1, h2, h3⟩ := hargs
            obtain ⟨c', hN, e1, e2⟩ := nameTwo_sound hM (r1 := (0, 18446744073709551615)) (r2 := (0, 1)) (k := .add64 S.nv (S.nv + 1) x y z)
              (((a + b + d) % 18446744073709551616 : Nat) : Int) (((a + b + d) / 18446744073709551616 : Nat) : Int) (by simp only []; omega) (by simp only []; omega)
              ⟨by omega, by omega, IE.ok_mono (by omega) h1, IE.ok_mono (by omega) h2, IE.ok_mono (by omega) h3.1⟩
              (fun ρ hρ g1 g2 => by
                simp only [Con.holds, IE.eval_ext hρ h1, IE.eval_ext hρ h2, IE.eval_ext hρ h3.1, g1, g2, ea, eb, ed]
                omega)
            refine ⟨c', w, hN.led ⟨by simp [nameTwo, SV.ok, IE.ok], by simp [nameTwo, SV.ok, IE.ok], trivial⟩, ?_⟩
            simp only [SV.den, denL, IE.eval, e1, e2]
      · cases h
    · cases h
  · cases h
theorem extSub_ok {f : FuncId}
    (hrun : ∀ (x y z : Nat) (w : World), x < 18446744073709551616 -> y < 18446744073709551616 -> z <= 1 -> (callFunc f #[.int .u64 x, .int .u64 y, .int .u64 z]).run P w =
      .ok (.value (.tuple #[.int .u64 (((x + 18446744073709551616 - y - z) % 18446744073709551616 : Nat) : Int), .int .u64 ((if x < y + z then 1 else 0 : Nat) : Int)])) w) : ExtOK P X f extSub := by
  intro args S v S' h w0 c w hM hargs
  unfold extSub at h
  split at h
  · rename_i _ x y z
    split at h
    · rename_i ra rb rc ha hb hc
      split at h
      · rename_i hw
        simp only [Bool.and_eq_true, word, carry, decide_eq_true_eq] at hw
        have ia := rng_sound hM.bd ha
        have ib := rng_sound hM.bd hb
        have ic := rng_sound hM.bd hc
        obtain ⟨a, ea⟩ := toNat_of (n := x.eval c.ρ) (by omega)
        obtain ⟨b, eb⟩ := toNat_of (n := y.eval c.ρ) (by omega)
        obtain ⟨d, ed⟩ := toNat_of (n := z.eval c.ρ) (by omega)
        have hr := hrun a b d w (by omega) (by omega) (by omega)
        have hargs' : (denL c [.int .u64 x, .int .u64 y, .int .u64 z]).toArray = #[.int .u64 a, .int .u64 b, .int .u64 d] := by
          simp only [denL, SV.den, ea, eb, ed]
        rw [hargs', hr]
        split at h
        · rename_i a' b' d' _ _ _
          simp only [Option.some.injEq, Prod.mk.injEq] at h
          obtain ⟨rfl, rfl⟩ := h
          simp only [IE.eval] at ea eb ed ia ib ic
          refine ⟨c, w, (Named.refl hM).led ⟨trivial, trivial, trivial⟩, ?_⟩
          have e1 : (((a + 18446744073709551616 - b - d) % 18446744073709551616 : Nat) : Int) = ((a : Int) - b - d) % 18446744073709551616 := by omega
          have e2 : ((if a < b + d then 1 else 0 : Nat) : Int) = if (a : Int) < b + d then 1 else 0 := by
            by_cases hlt : a < b + d
            · rw [if_pos hlt, if_pos (by omega)]; rfl
            · rw [if_neg hlt, if_neg (by omega)]; rfl
          simp only [SV.den, denL, IE.eval, ea, eb, ed, e1, e2]
        · split at h
          · rename_i hlt
            obtain ⟨h1, h2, h3⟩ := hargs
            obtain ⟨c', hN, he, hok⟩ := nameNew_sound hM (e := .sub (.sub x y) z) ⟨⟨h1, h2⟩, h3.1⟩
            simp only [Option.some.injEq, Prod.mk.injEq] at h
            obtain ⟨rfl, rfl⟩ := h
            refine ⟨c', w, hN.led ⟨hok, trivial, trivial⟩, ?_⟩
            simp only [SV.den, denL, he]
            simp only [IE.eval, ea, eb, ed]
            rw [if_neg (by omega)]
            have e1 : (((a + 18446744073709551616 - b - d) % 18446744073709551616 : Nat) : Int) = ((a : Int) - b - d) := by omega
            rw [e1]; rfl
          · simp only [Option.some.injEq, Prod.mk.injEq] at h
            obtain ⟨rfl, rfl⟩ := h
            obtain ⟨h1, h2, h3⟩ := hargs
            obtain ⟨c', hN, e1, e2⟩ := nameTwo_sound hM (r1 := (0, 18446744073709551615)) (r2 := (0, 1)) (k := .sub64 S.nv (S.nv + 1) x y z)
              (((a + 18446744073709551616 - b - d) % 18446744073709551616 : Nat) : Int) ((if a < b + d then 1 else 0 : Nat) : Int) (by simp only []; omega) (by simp only []; split <;> omega)
              ⟨by omega, by omega, IE.ok_mono (by omega) h1, IE.ok_mono (by omega) h2, IE.ok_mono (by omega) h3.1⟩
              (fun ρ hρ g1 g2 => by
                simp only [Con.holds, IE.eval_ext hρ h1, IE.eval_ext hρ h2, IE.eval_ext hρ h3.1, g1, g2, ea, eb, ed]
                split <;> omega)
            refine ⟨c', w, hN.led ⟨by simp [nameTwo, SV.ok, IE.ok], by simp [nameTwo, SV.ok, IE.ok], trivial⟩, ?_⟩
            simp only [SV.den, denL, IE.eval, e1, e2]
      · cases h
    · cases h
  · cases h
end
def specMul : Fs
  | [.int .u64 x, .int .u64 y], S =>
    match rng S.bd x, rng S.bd y with
    | some a, some b =>
      if word a && word b then
        match x, y with
        | .const a, .const b => some [(.tup [.int .u64 (.const (a * b / 18446744073709551616)), .int .u64 (.const (a * b % 18446744073709551616))], S)]
        | _, _ =>
          if a.2 * b.2 < 18446744073709551616 then
            let (e, S) := nameNew S (.mul x y)
            some [(.tup [.int .u64 (.const 0), .int .u64 e], S)]
          else some [(.tup [.int .u64 (.var S.nv), .int .u64 (.var (S.nv + 1))],
            nameTwo S (0, a.2 * b.2 / 18446744073709551616) (0, 18446744073709551615) (.mul64 S.nv (S.nv + 1) x y))]
      else none
    | _, _ => none
  | _, _ => none
section
variable {P : Program} {X : Tk} {w : World} {w0 : Base} {c : Ctx} {S : St}
theorem specMul_ok {f : FuncId}
    (hrun : ∀ (x y : Nat) (w : World), x < 18446744073709551616 -> y < 18446744073709551616 -> Calls P f #[.int .u64 x, .int .u64 y] w fun e w' =>
      e = .returned (.tuple #[.int .u64 ((x * y / 18446744073709551616 : Nat) : Int), .int .u64 ((x * y % 18446744073709551616 : Nat) : Int)]) /\ w' = w) : SpecOK P X f specMul := by
  intro args S ls h w0 c w hM hargs R hR
  unfold specMul at h
  split at h
  · rename_i _ x y
    split at h
    · rename_i ra rb ha hb
      split at h
      · rename_i hw
        simp only [Bool.and_eq_true, word, decide_eq_true_eq] at hw
        have ia := rng_sound hM.bd ha
        have ib := rng_sound hM.bd hb
        obtain ⟨a, ea⟩ := toNat_of (n := x.eval c.ρ) (by omega)
        obtain ⟨b, eb⟩ := toNat_of (n := y.eval c.ρ) (by omega)
        have hr := hrun a b w (by omega) (by omega)
        have hargs' : (denL c [.int .u64 x, .int .u64 y]).toArray = #[.int .u64 a, .int .u64 b] := by
          simp only [denL, SV.den, ea, eb]
        rw [hargs']
        have hmul : a * b <= ra.2.toNat * rb.2.toNat := Nat.mul_le_mul (by omega) (by omega)
        have hmul' : ((ra.2.toNat * rb.2.toNat : Nat) : Int) = ra.2 * rb.2 := by
          rw [Int.natCast_mul, Int.toNat_of_nonneg (by omega), Int.toNat_of_nonneg (by omega)]
        split at h
        · rename_i a' b' _ _
          simp only [Option.some.injEq] at h
          subst h
          simp only [IE.eval] at ea eb
          refine hr.mono ?_
          rintro e w' ⟨rfl, rfl⟩
          have := hR _ _ (List.mem_singleton.2 rfl) c w' ((Named.refl hM).led ⟨trivial, trivial, trivial⟩)
          have e1 : ((a * b / 18446744073709551616 : Nat) : Int) = (a : Int) * b / 18446744073709551616 := by rw [<- Int.natCast_mul]; omega
          have e2 : ((a * b % 18446744073709551616 : Nat) : Int) = (a : Int) * b % 18446744073709551616 := by rw [<- Int.natCast_mul]; omega
          simp only [SV.den, denL, IE.eval, ea, eb] at this
          rw [e1, e2]; exact this
        · obtain ⟨h1, h2⟩ := hargs
          split at h
          · rename_i hlt
            obtain ⟨c', hN, he, hok⟩ := nameNew_sound hM (e := .mul x y) ⟨h1, h2.1⟩
            simp only [Option.some.injEq] at h
            subst h
            refine hr.mono ?_
            rintro e w' ⟨rfl, rfl⟩
            have := hR _ _ (List.mem_singleton.2 rfl) c' w' (hN.led ⟨trivial, hok, trivial⟩)
            simp only [SV.den, denL, he] at this
            simp only [IE.eval, ea, eb] at this
            have hlt' : a * b < 18446744073709551616 := by omega
            rw [Nat.mod_eq_of_lt hlt', Nat.div_eq_of_lt hlt', Int.natCast_mul]
            exact this
          · simp only [Option.some.injEq] at h
            subst h
            obtain ⟨c', hN, e1, e2⟩ := nameTwo_sound hM (r1 := (0, ra.2 * rb.2 / 18446744073709551616)) (r2 := (0, 18446744073709551615)) (k := .mul64 S.nv (S.nv + 1) x y)
              ((a * b / 18446744073709551616 : Nat) : Int) ((a * b % 18446744073709551616 : Nat) : Int) (by
                simp only []
                rw [<- hmul']
                generalize ra.2.toNat * rb.2.toNat = m at *
                omega) (by simp only []; omega)
              ⟨by omega, by omega, IE.ok_mono (by omega) h1, IE.ok_mono (by omega) h2.1⟩
              (fun ρ hρ g1 g2 => by
                simp only [Con.holds, IE.eval_ext hρ h1, IE.eval_ext hρ h2.1, g1, g2, ea, eb]
                rw [<- Int.natCast_mul]
                generalize a * b = m
                omega)
            refine hr.mono ?_
            rintro e w' ⟨rfl, rfl⟩
            have := hR _ _ (List.mem_singleton.2 rfl) c' w' (hN.led ⟨by simp [nameTwo, SV.ok, IE.ok], by simp [nameTwo, SV.ok, IE.ok], trivial⟩)
            simp only [SV.den, denL, IE.eval, e1, e2] at this
            exact this
      · cases h
    · cases h
  · cases h
end
def IE.subst (f : Nat -> IE) : IE -> IE
  | .const n => .const n
  | .var i => f i
  | .add a b => .add (a.subst f) (b.subst f)
  | .sub a b => .sub (a.subst f) (b.subst f)
  | .mul a b => .mul (a.subst f) (b.subst f)
  | .bin op k a b => .bin op k (a.subst f) (b.subst f)
  | .wrap k a => .wrap k (a.subst f)
  | .pick i n a b => .pick (i.subst f) n (a.subst f) (b.subst f)
def BE.subst (f : Nat -> IE) : BE -> BE
  | .cmp op a b => .cmp op (a.subst f) (b.subst f)
  | .not b => .not (b.subst f)
abbrev Plc := Nat × Nat × Option Nat
mutual
def SV.subst (f : Nat -> IE) (g : Nat -> Plc) : SV -> SV
  | .int k e => .int k (e.subst f)
  | .bexp e => .bexp (e.subst f)
  | .ptr b o => .ptr (g b).1 o
  | .slice b o l c => .slice (g b).1 o l c
  | .view b o l => match (g b).2.2 with | none => .view (g b).1 ((g b).2.1 + o) l | some k => .slice (g b).1 ((g b).2.1 + o) l (k - o)
  | .vptr b o => match (g b).2.2 with | none => .vptr (g b).1 ((g b).2.1 + o) | some _ => .ptr (g b).1 ((g b).2.1 + o)
  | .sptr vw b o s e => if vw then .sptr (g b).2.2.isNone (g b).1 ((g b).2.1 + o) s (e.subst f) else .sptr false (g b).1 o s (e.subst f)
  | .lslice vw b o e c => if vw then (match (g b).2.2 with | none => .lslice true (g b).1 ((g b).2.1 + o) (e.subst f) c | some k => .lslice false (g b).1 ((g b).2.1 + o) (e.subst f) (k - o)) else .lslice false (g b).1 o (e.subst f) c
  | .agg l => .agg (substL f g l)
  | .tup l => .tup (substL f g l)
  | .iface t v => .iface t (v.subst f g)
  | v => v
def substL (f : Nat -> IE) (g : Nat -> Plc) : List SV -> List SV
  | [] => []
  | v :: l => v.subst f g :: substL f g l
end
def IE.okb (n : Nat) : IE -> Bool
  | .const _ => true
  | .var i => decide (i < n)
  | .add a b | .sub a b | .mul a b | .bin _ _ a b => a.okb n && b.okb n
  | .wrap _ a => a.okb n
  | .pick i _ a b => i.okb n && a.okb n && b.okb n
def BE.okb (n : Nat) : BE -> Bool
  | .cmp _ a b => a.okb n && b.okb n
  | .not b => b.okb n
mutual
def SV.okb (n m : Nat) : SV -> Bool
  | .int _ e => e.okb n
  | .bexp e => e.okb n
  | .ptr b _ | .slice b _ _ _ | .view b _ _ | .vptr b _ => decide (b < m)
  | .sptr _ b _ _ e => decide (b < m) && e.okb n
  | .lslice _ b _ e _ => decide (b < m) && e.okb n
  | .agg l | .tup l => okbL n m l
  | .iface _ v => v.okb n m
  | _ => true
def okbL (n m : Nat) : List SV -> Bool
  | [] => true
  | v :: l => v.okb n m && okbL n m l
end
def substCell (f : Nat -> IE) (g : Nat -> Plc) : SV -> SV
  | .int k (.var i) => .int k (f i)
  | .int k (.const n) => .int k (.const n)
  | .ptr b o => .ptr (g b).1 o
  | .nilp => .nilp
  | v => v.subst f g
theorem substCell_eq (f : Nat -> IE) (g : Nat -> Plc) (v : SV) : substCell f g v = v.subst f g := by
  unfold substCell
  split <;> simp only [SV.subst, IE.subst]
def substLF (f : Nat -> IE) (g : Nat -> Plc) (l : List SV) : List SV := List.rec (motive := fun _ => List SV) [] (fun v _ ih => substCell f g v :: ih) l
theorem substLF_eq (f : Nat -> IE) (g : Nat -> Plc) : ∀ l : List SV, substLF f g l = substL f g l
  | [] => by simp only [substL]; rfl
  | v :: l => by
    simp only [substL]
    rw [<- substLF_eq f g l, <- substCell_eq f g v]; rfl
def okCell (n m : Nat) : SV -> Bool
  | .int _ (.var i) => Nat.blt i n
  | .int _ (.const _) => true
  | .ptr b _ => Nat.blt b m
  | .nilp => true
  | v => v.okb n m
theorem okCell_eq (n m : Nat) (v : SV) : okCell n m v = v.okb n m := by
  unfold okCell
  split
  · simp only [SV.okb, IE.okb]; rw [Bool.eq_iff_iff]; simp [Nat.blt_eq]
  · simp only [SV.okb, IE.okb]
  · simp only [SV.okb]; rw [Bool.eq_iff_iff]; simp [Nat.blt_eq]
  · simp only [SV.okb]
  · rfl
def okbLF (n m : Nat) (l : List SV) : Bool := List.rec (motive := fun _ => Bool) true (fun v _ ih => okCell n m v && ih) l
theorem okbLF_eq (n m : Nat) : ∀ l : List SV, okbLF n m l = okbL n m l
  | [] => by simp only [okbL]; rfl
  | v :: l => by
    simp only [okbL]
    rw [<- okbLF_eq n m l, <- okCell_eq n m v]; rfl
structure Mt where
  σ : Tr IE
  θ : Tr Plc
def Mt.f (m : Mt) (i : Nat) : IE := (m.σ.get (path i)).getD (.const 0)
def Mt.g (m : Mt) (b : Nat) : Plc := (m.θ.get (path b)).getD (0, 0, none)
def matchI (m : Mt) (i : Nat) (e : IE) : Option Mt :=
  match m.σ.get (path i) with
  | none => some { m with σ := Tr.set e (path i) m.σ }
  | some e' => if ieSame e' e then some m else none
def matchB (m : Mt) (b : Nat) (x : Plc) : Option Mt :=
  match m.θ.get (path b) with
  | none => some { m with θ := Tr.set x (path b) m.θ }
  | some y => if y == x then some m else none
mutual
def matchSV (m : Mt) : SV -> SV -> Option Mt
  | .int k (.var i), .int k' e => if k == k' then matchI m i e else none
  | .int k (.const n), .int k' (.const n') => if k == k' && n == n' then some m else none
  | .bool a, .bool b => if a == b then some m else none
  | .bexp (.cmp .eql (.var i) (.const 1)), .bool b => matchI m i (.const (if b then 1 else 0))
  | .ptr b o, .ptr b' o' => if o == o' then matchB m b (b', 0, none) else none
  | .nilp, .nilp => some m
  | .slice b o l c, .slice b' o' l' c' => if o == o' && l == l' && c == c' then matchB m b (b', 0, none) else none
  | .nils, .nils => some m
  | .vptr b o, .ptr b' o' => if decide (o <= o') then matchB m b (b', o' - o, some 4611686018427387904) else none
  | .view b o l, .view b' o' l' => if decide (o <= o') && l == l' then matchB m b (b', o' - o, none) else none
  | .view b o l, .slice b' o' l' c' => if decide (o <= o') && l == l' then matchB m b (b', o' - o, some (c' + o)) else none
  | .lslice true b o (.var i) _, .lslice true b' o' e _ => if decide (o <= o') then (match matchI m i e with | some m => matchB m b (b', o' - o, none) | none => none) else none
  | .agg l, .agg l' => matchL m l l'
  | .tup l, .tup l' => matchL m l l'
  | .iface t v, .iface t' v' => if t == t' then matchSV m v v' else none
  | .val a, .val b => if SV.same (.val a) (.val b) then some m else none
  | _, _ => none
def matchL (m : Mt) : List SV -> List SV -> Option Mt
  | [], [] => some m
  | v :: l, v' :: l' => match matchSV m v v' with | some m => matchL m l l' | none => none
  | _, _ => none
end
def matchCell (m : Mt) : SV -> SV -> Option Mt
  | .int k (.var i), .int k' e => if k == k' then matchI m i e else none
  | .int k (.const n), .int k' (.const n') => if k == k' && n == n' then some m else none
  | .ptr b o, .ptr b' o' => if o == o' then matchB m b (b', 0, none) else none
  | .nilp, .nilp => some m
  | v, v' => matchSV m v v'
theorem matchCell_eq (m : Mt) (v v' : SV) : matchCell m v v' = matchSV m v v' := by
  unfold matchCell
  split <;> simp only [matchSV]
def matchLF (m : Mt) (l l' : List SV) : Option Mt := List.rec (motive := fun _ => Mt -> List SV -> Option Mt) (fun m l' => List.rec (motive := fun _ => Option Mt) (some m) (fun _ _ _ => none) l')
  (fun v _ ih m l' => List.rec (motive := fun _ => Option Mt) none (fun v' l' _ => match matchCell m v v' with | some m => ih m l' | none => none) l') l m l'
theorem matchLF_eq : ∀ (l l' : List SV) (m : Mt), matchLF m l l' = matchL m l l'
  | [], [], m => by simp only [matchL]; rfl
  | [], _ :: _, m => by simp only [matchL]; rfl
  | _ :: _, [], m => by simp only [matchL]; rfl
  | v :: l, v' :: l', m => by
    simp only [matchL]
    rw [<- matchCell_eq m v v']
    show (match matchCell m v v' with | some m => matchLF m l l' | none => none) = _
    cases matchCell m v v' with
    | none => rfl
    | some m' => exact matchLF_eq l l' m'
def matchBlk (m : Mt) (k : Blk) (x : Plc) (k' : Blk) : Option Mt :=
  if k'.ty == k.ty then
    if k.full then
      if k'.full && x.2.1 == 0 && x.2.2.isNone then matchLF m k.cells k'.cells else none
    else
      if decide (x.2.1 + k.cells.length <= k'.cells.length) then
        match x.2.2 with
        | none => if k'.full then (if k.cells.isEmpty then some m else none) else matchLF m k.cells ((k'.cells.drop x.2.1).take k.cells.length)
        | some cap => if k'.full && decide (k.cells.length <= cap) then matchLF m k.cells ((k'.cells.drop x.2.1).take k.cells.length) else none
      else none
  else none
def matchMem (mem : Tr Blk) (m : Mt) : Nat -> List Blk -> Option Mt
  | _, [] => some m
  | b, k :: ks =>
    match m.θ.get (path b) with
    | some x =>
      match mem.get (path x.1) with
      | some k' =>
        match matchBlk m k x k' with
        | some m => matchMem mem m (b + 1) ks
        | none => none
      | none => none
    | none => none
structure SmO where
  nbd : List (Int × Int)
  val : SV
  writes : List (Nat × List SV)
  news : List Blk
  post : List (Nat × List IE)
structure Sm where
  bd : List (Int × Int)
  args : List SV
  mem : List Blk
  al : List Nat
  outs : List SmO
  lens : List (Nat × Nat) := []
def Sm.nv (s : Sm) : Nat := s.bd.length
def SmO.nr (o : SmO) : Nat := o.nbd.length
def listTr {α : Type} : Nat -> List α -> Tr α -> Tr α
  | _, [], t => t
  | i, x :: xs, t => listTr (i + 1) xs (Tr.set x (path i) t)
def Sm.start (s : Sm) : St :=
  { tmps := .nil, nt := 0, mem := listTr 0 s.mem .nil, nb := s.mem.length, nv := s.nv, bd := listTr 0 s.bd .nil, al := s.al, wr := [], cons := [], lens := s.lens }
def inBd (r : Int × Int) : Option (Int × Int) -> Bool
  | some (l, h) => decide (r.1 <= l) && decide (h <= r.2)
  | none => false
def allNat (p : Nat -> Bool) : Nat -> Bool
  | 0 => true
  | n + 1 => p n && allNat p n
def distT (f : Nat -> Nat) : Nat -> Tr Unit -> Bool
  | 0, _ => true
  | n + 1, t => match t.get (path (f n)) with | some _ => false | none => distT f n (Tr.set () (path (f n)) t)
def Sm.lensIn (s : Sm) (m : Mt) (S : St) : Bool :=
  s.lens.all fun x => decide (x.1 < s.mem.length) && decide (x.2 < s.nv) && (match s.mem[x.1]? with | some k => !k.full | none => false) &&
    (m.g x.1).2.1 == 0 && (m.g x.1).2.2.isNone && S.lens.any fun y => y.1 == (m.g x.1).1 && ieSame (m.f x.2) (.var y.2)
def Sm.matchIn (s : Sm) (args : List SV) (S : St) : Option Mt :=
  match matchL ⟨.nil, .nil⟩ s.args args with
  | none => none
  | some m =>
    match matchMem S.mem m 0 s.mem with
    | none => none
    | some m =>
      if allIdx (fun i r => (m.σ.get (path i)).isSome && inBd r (rng S.bd (m.f i))) 0 s.bd &&
        ((S.al.isEmpty && distT (fun b => (m.g b).1) s.mem.length .nil) || allNat (fun b => allNat (fun b' => b == b' || (!((m.g b).1 == (m.g b').1) && !(S.al.contains (m.g b).1 && S.al.contains (m.g b').1)) || (s.al.contains b && s.al.contains b')) s.mem.length) s.mem.length) && s.lensIn m S
      then some m else none
def Sm.out (s : Sm) (m : Mt) (S : St) (i : Nat) : IE := if i < s.nv then m.f i else .var (S.nv + (i - s.nv))
def Sm.blk (s : Sm) (m : Mt) (S : St) (b : Nat) : Plc := if b < s.mem.length then m.g b else (S.nb + (b - s.mem.length), 0, none)
def setAll : List (Nat × Blk) -> Tr Blk -> Tr Blk
  | [], m => m
  | (b, k) :: l, m => setAll l (Tr.set k (path b) m)
def Sm.ws (s : Sm) (o : SmO) (m : Mt) (S : St) : List (Nat × Blk) :=
  o.writes.map fun x => ((m.g x.1).1, (⟨match s.mem[x.1]? with | some k => k.ty | none => 0, substLF (s.out m S) (s.blk m S) x.2, true⟩ : Blk))
def Sm.nws (s : Sm) (o : SmO) (m : Mt) (S : St) : List Blk :=
  o.news.map fun k => { k with cells := substLF (s.out m S) (s.blk m S) k.cells }
def Sm.after (s : Sm) (o : SmO) (m : Mt) (S : St) (mem : Tr Blk) (al : List Nat) (ln : List (Nat × Nat)) : SV × St :=
  (o.val.subst (s.out m S) (s.blk m S),
    { S with nv := S.nv + o.nr, nb := S.nb + o.news.length, bd := listTr S.nv o.nbd S.bd, mem := listTr S.nb (s.nws o m S) mem, al := al, wr := (s.ws o m S).map (·.1) ++ S.wr, its := .nil, lens := ln,
             cons := (o.post.map fun x => Con.ext x.1 (x.2.map (·.subst (s.out m S)))) ++ S.cons })
def Sm.one (s : Sm) (m : Mt) (S : St) (o : SmO) : Option (SV × St) :=
  match (s.ws o m S).filter fun x => S.al.contains x.1 with
  | [] => some (s.after o m S (setAll (s.ws o m S) S.mem) S.al S.lens)
  | x :: rest =>
    if rest.all fun y => y.1 == x.1 then some (s.after o m S (drops x.1 (setAll (s.ws o m S) S.mem) S.al) [] []) else none
def Sm.spec (s : Sm) (args : List SV) (S : St) : Option (List (SV × St)) :=
  match s.matchIn args S with
  | none => none
  | some m => optMap (s.one m S) s.outs
def Sm.idm (s : Sm) : Mt := ⟨listTr 0 ((List.range s.nv).map IE.var) .nil, listTr 0 ((List.range s.mem.length).map fun b => (b, 0, none)) .nil⟩
def matchWr (mem : Tr Blk) (s : Sm) (m : Mt) : List (Nat × List SV) -> Option Mt
  | [] => some m
  | (b, vs) :: l =>
    match mem.get (path b), s.mem[b]? with
    | some k', some k =>
      if k'.ty == k.ty && k'.full && k.full then
        match matchLF m vs k'.cells with
        | some m => matchWr mem s m l
        | none => none
      else none
    | _, _ => none
def Sm.matchOut (s : Sm) (o : SmO) (v : SV) (S : St) : Option Mt :=
  match matchSV s.idm o.val v with
  | none => none
  | some m =>
    match matchWr S.mem s m o.writes with
    | none => none
    | some m =>
      match matchMem S.mem m s.mem.length o.news with
      | none => none
      | some m =>
        if allIdx (fun i r => inBd r (rng S.bd (m.f (s.nv + i)))) 0 o.nbd &&
          S.wr.all (fun b => decide (s.mem.length <= b) || o.writes.any fun x => x.1 == b) &&
          (allIdx (fun j _ => decide (s.mem.length <= (m.g (s.mem.length + j)).1) && !S.al.contains (m.g (s.mem.length + j)).1) 0 o.news && distT (fun j => (m.g (s.mem.length + j)).1) o.news.length .nil)
        then some m else none
def splitB : List (SV × St) -> List (SV × St)
  | [] => []
  | (.bexp e, S) :: l => (.bool true, { S with cons := .test e true :: S.cons }) :: (.bool false, { S with cons := .test e false :: S.cons }) :: splitB l
  | x :: l => x :: splitB l
def SmO.wf (o : SmO) (s : Sm) : Bool :=
  o.val.okb (s.nv + o.nr) (s.mem.length + o.news.length) &&
    o.writes.all (fun x => decide (x.1 < s.mem.length) && okbLF (s.nv + o.nr) (s.mem.length + o.news.length) x.2) && o.post.all (fun x => x.2.all (·.okb (s.nv + o.nr))) &&
    o.news.all fun k => okbLF (s.nv + o.nr) (s.mem.length + o.news.length) k.cells
def Sm.wf (s : Sm) : Bool :=
  okbLF s.nv s.mem.length s.args && s.mem.all (fun k => okbLF s.nv s.mem.length k.cells) && s.outs.all (·.wf s)
structure CSm where
  core : Sm
  nt : Nat
  tin : List Tmp
  kinds : List (Out × List Tmp)
def tmpsTr : List Tmp -> List SV -> Tr SV -> Tr SV
  | t :: ts, v :: vs, r => tmpsTr ts vs (Tr.set v (path t) r)
  | _, _, r => r
def CSm.start (s : CSm) : St := { s.core.start with tmps := tmpsTr s.tin s.core.args .nil, nt := s.nt }
def CSm.back (S : St) (x : Out × List Tmp) (r : SV × St) : Option (Out × St) :=
  match r.1 with
  | .tup vs => if vs.length == x.2.length then some (x.1, { r.2 with tmps := tmpsTr x.2 vs .nil, nt := S.nt }) else none
  | _ => none
def backs (S : St) : List (Out × List Tmp) -> List (SV × St) -> Option (List (Out × St))
  | [], [] => some []
  | x :: xs, r :: rs => match CSm.back S x r, backs S xs rs with | some a, some b => some (a :: b) | _, _ => none
  | _, _ => none
def CSm.spec (s : CSm) (S : St) : Option (List (Out × St)) :=
  if S.nt == s.nt then
    match optMap (fun t => S.tmps.get (path t)) s.tin with
    | some args =>
      match s.core.spec args { S with tmps := .nil, nt := 0 } with
      | some rs => backs S s.kinds rs
      | none => none
    | none => none
  else none
def CSm.outVal (x : Out × List Tmp) (S : St) : Option SV := (optMap (fun t => S.tmps.get (path t)) x.2).map .tup
def roundRun (E : Env) (n : Nat) (B : BSp) (body : Code) (s : CSm) : Option (List (Out × St)) :=
  match exec E n B body s.start with
  | none => none
  | some ls => bindL ls fun x => match x.1 with | .normal => s.spec x.2 | o => some [(o, x.2)]
def leave (id : Nat) : Out -> Out
  | .exit i => if i = id then .normal else .exit i
  | o => o
def CSm.asBlock (s : CSm) (id : Nat) : CSm := { s with kinds := s.kinds.map fun x => (leave id x.1, x.2) }
def outEq : Out -> Out -> Bool
  | .normal, .normal => true
  | .exit a, .exit b => a == b
  | .ret, .ret => true
  | _, _ => false
theorem IE.eval_subst (f : Nat -> IE) (ρ : Nat -> Int) : ∀ e : IE, (e.subst f).eval ρ = e.eval (fun i => (f i).eval ρ)
  | .const _ => rfl
  | .var _ => rfl
  | .add a b => by simp [IE.subst, IE.eval, IE.eval_subst f ρ a, IE.eval_subst f ρ b]
  | .sub a b => by simp [IE.subst, IE.eval, IE.eval_subst f ρ a, IE.eval_subst f ρ b]
  | .mul a b => by simp [IE.subst, IE.eval, IE.eval_subst f ρ a, IE.eval_subst f ρ b]
  | .bin op k a b => by simp [IE.subst, IE.eval, IE.eval_subst f ρ a, IE.eval_subst f ρ b]
  | .wrap k a => by simp [IE.subst, IE.eval, IE.eval_subst f ρ a]
  | .pick i n a b => by simp only [IE.subst, IE.eval, IE.eval_subst f ρ i, IE.eval_subst f ρ a, IE.eval_subst f ρ b]
theorem BE.eval_subst (f : Nat -> IE) (ρ : Nat -> Int) : ∀ e : BE, (e.subst f).eval ρ = e.eval (fun i => (f i).eval ρ)
  | .cmp op a b => by simp [BE.subst, BE.eval, IE.eval_subst]
  | .not b => by simp [BE.subst, BE.eval, BE.eval_subst f ρ b]
def Ctx.sub (c : Ctx) (f : Nat -> IE) (g : Nat -> Plc) : Ctx :=
  ⟨fun i => (f i).eval c.ρ, fun b => c.β (g b).1, fun b => match (g b).2.2 with | none => c.o (g b).1 + (g b).2.1 | some _ => (g b).2.1,
   fun b => match (g b).2.2 with | none => c.κ (g b).1 - (g b).2.1 | some k => k⟩
mutual
theorem SV.den_subst (c : Ctx) (f : Nat -> IE) (g : Nat -> Plc) : ∀ v : SV, (v.subst f g).den c = v.den (c.sub f g)
  | .int _ _ => by simp [SV.subst, SV.den, IE.eval_subst, Ctx.sub]
  | .bool _ => rfl
  | .bexp _ => by simp [SV.subst, SV.den, BE.eval_subst, Ctx.sub]
  | .ptr _ _ => rfl
  | .nilp => rfl
  | .slice _ _ _ _ => rfl
  | .nils => rfl
  | .view b o l => by
    simp only [SV.subst]
    cases h : (g b).2.2 with
    | none => simp only [SV.den, Ctx.sub, h]; rw [Nat.add_assoc, Nat.sub_sub]
    | some k => simp only [SV.den, Ctx.sub, h]
  | .vptr b o => by
    simp only [SV.subst]
    cases h : (g b).2.2 with
    | none => simp only [SV.den, Ctx.sub, h]; rw [Nat.add_assoc]
    | some k => simp only [SV.den, Ctx.sub, h]
  | .sptr vw b o s e => by
    cases vw with
    | true =>
      cases h : (g b).2.2 with
      | none => simp [SV.subst, SV.den, Ctx.sub, h, IE.eval_subst, Nat.add_assoc]
      | some k => simp [SV.subst, SV.den, Ctx.sub, h, IE.eval_subst]
    | false => simp [SV.subst, SV.den, Ctx.sub, IE.eval_subst]
  | .lslice vw b o e k0 => by
    cases vw with
    | true =>
      cases h : (g b).2.2 with
      | none => simp [SV.subst, SV.den, Ctx.sub, h, IE.eval_subst, Nat.add_assoc, Nat.sub_sub]
      | some k => simp [SV.subst, SV.den, Ctx.sub, h, IE.eval_subst]
    | false => simp [SV.subst, SV.den, Ctx.sub, IE.eval_subst]
  | .agg l => by simp only [SV.subst, SV.den]; rw [denL_subst c f g l]
  | .tup l => by simp only [SV.subst, SV.den]; rw [denL_subst c f g l]
  | .iface _ v => by simp only [SV.subst, SV.den]; rw [SV.den_subst c f g v]
  | .val _ => rfl
theorem denL_subst (c : Ctx) (f : Nat -> IE) (g : Nat -> Plc) : ∀ l : List SV, denL c (substL f g l) = denL (c.sub f g) l
  | [] => rfl
  | v :: l => by simp only [substL, denL]; rw [SV.den_subst c f g v, denL_subst c f g l]
end
theorem IE.ok_of {n : Nat} : ∀ {e : IE}, e.okb n = true -> e.ok n
  | .const _, _ => trivial
  | .var i, h => by simpa [IE.okb, IE.ok] using h
  | .add a b, h => by simp only [IE.okb, Bool.and_eq_true] at h; exact ⟨IE.ok_of h.1, IE.ok_of h.2⟩
  | .sub a b, h => by simp only [IE.okb, Bool.and_eq_true] at h; exact ⟨IE.ok_of h.1, IE.ok_of h.2⟩
  | .mul a b, h => by simp only [IE.okb, Bool.and_eq_true] at h; exact ⟨IE.ok_of h.1, IE.ok_of h.2⟩
  | .bin _ _ a b, h => by simp only [IE.okb, Bool.and_eq_true] at h; exact ⟨IE.ok_of h.1, IE.ok_of h.2⟩
  | .wrap _ a, h => IE.ok_of (e := a) h
  | .pick i _ a b, h => by simp only [IE.okb, Bool.and_eq_true] at h; exact ⟨IE.ok_of h.1.1, IE.ok_of h.1.2, IE.ok_of h.2⟩
theorem BE.ok_of {n : Nat} : ∀ {e : BE}, e.okb n = true -> e.ok n
  | .cmp _ a b, h => by simp only [BE.okb, Bool.and_eq_true] at h; exact ⟨IE.ok_of h.1, IE.ok_of h.2⟩
  | .not b, h => BE.ok_of (e := b) h
mutual
theorem SV.ok_of {n m : Nat} : ∀ {v : SV}, v.okb n m = true -> v.ok n m
  | .int _ _, h => IE.ok_of h
  | .bool _, _ => trivial
  | .bexp _, h => BE.ok_of h
  | .ptr b _, h => by simpa [SV.okb, SV.ok] using h
  | .nilp, _ => trivial
  | .slice b _ _ _, h => by simpa [SV.okb, SV.ok] using h
  | .nils, _ => trivial
  | .view b _ _, h => by simpa [SV.okb, SV.ok] using h
  | .vptr b _, h => by simpa [SV.okb, SV.ok] using h
  | .sptr _ b _ _ e, h => by simp only [SV.okb, Bool.and_eq_true, decide_eq_true_eq] at h; exact ⟨h.1, IE.ok_of h.2⟩
  | .lslice _ b _ e _, h => by simp only [SV.okb, Bool.and_eq_true, decide_eq_true_eq] at h; exact ⟨h.1, IE.ok_of h.2⟩
  | .agg l, h => okL_of (l := l) h
  | .tup l, h => okL_of (l := l) h
  | .iface _ v, h => SV.ok_of (v := v) h
  | .val _, _ => trivial
theorem okL_of {n m : Nat} : ∀ {l : List SV}, okbL n m l = true -> okL n m l
  | [], _ => trivial
  | v :: l, h => by simp only [okbL, Bool.and_eq_true] at h; exact ⟨SV.ok_of h.1, okL_of h.2⟩
end
theorem IE.ok_subst {n N : Nat} {f : Nat -> IE} (hf : ∀ i, i < n -> (f i).ok N) : ∀ {e : IE}, e.ok n -> (e.subst f).ok N
  | .const _, _ => trivial
  | .var i, h => hf i h
  | .add _ _, h => ⟨IE.ok_subst hf h.1, IE.ok_subst hf h.2⟩
  | .sub _ _, h => ⟨IE.ok_subst hf h.1, IE.ok_subst hf h.2⟩
  | .mul _ _, h => ⟨IE.ok_subst hf h.1, IE.ok_subst hf h.2⟩
  | .bin _ _ _ _, h => ⟨IE.ok_subst hf h.1, IE.ok_subst hf h.2⟩
  | .wrap _ a, h => IE.ok_subst (e := a) hf h
  | .pick _ _ _ _, h => ⟨IE.ok_subst hf h.1, IE.ok_subst hf h.2.1, IE.ok_subst hf h.2.2⟩
theorem BE.ok_subst {n N : Nat} {f : Nat -> IE} (hf : ∀ i, i < n -> (f i).ok N) : ∀ {e : BE}, e.ok n -> (e.subst f).ok N
  | .cmp _ _ _, h => ⟨IE.ok_subst hf h.1, IE.ok_subst hf h.2⟩
  | .not b, h => BE.ok_subst (e := b) hf h
mutual
theorem SV.ok_subst {n m N M : Nat} {f : Nat -> IE} {g : Nat -> Plc} (hf : ∀ i, i < n -> (f i).ok N) (hg : ∀ b, b < m -> (g b).1 < M) : ∀ {v : SV}, v.ok n m -> (v.subst f g).ok N M
  | .int _ _, h => IE.ok_subst hf h
  | .bool _, _ => trivial
  | .bexp _, h => BE.ok_subst hf h
  | .ptr b _, h => hg b h
  | .nilp, _ => trivial
  | .slice b _ _ _, h => hg b h
  | .nils, _ => trivial
  | .view b _ _, h => by
    simp only [SV.subst]
    split <;> exact hg b h
  | .vptr b _, h => by
    simp only [SV.subst]
    split <;> exact hg b h
  | .sptr vw b _ _ e, h => by
    simp only [SV.subst]
    split <;> exact ⟨hg b h.1, IE.ok_subst hf h.2⟩
  | .lslice vw b _ e _, h => by
    simp only [SV.subst]
    split
    · split <;> exact ⟨hg b h.1, IE.ok_subst hf h.2⟩
    · exact ⟨hg b h.1, IE.ok_subst hf h.2⟩
  | .agg l, h => okL_subst (l := l) hf hg h
  | .tup l, h => okL_subst (l := l) hf hg h
  | .iface _ v, h => SV.ok_subst (v := v) hf hg h
  | .val _, _ => trivial
theorem okL_subst {n m N M : Nat} {f : Nat -> IE} {g : Nat -> Plc} (hf : ∀ i, i < n -> (f i).ok N) (hg : ∀ b, b < m -> (g b).1 < M) : ∀ {l : List SV}, okL n m l -> okL N M (substL f g l)
  | [], _ => trivial
  | _ :: _, h => ⟨SV.ok_subst hf hg h.1, okL_subst hf hg h.2⟩
end
structure Mt.Le (m m' : Mt) : Prop where
  σ : ∀ i e, m.σ.get (path i) = some e -> m'.σ.get (path i) = some e
  θ : ∀ i e, m.θ.get (path i) = some e -> m'.θ.get (path i) = some e
theorem Mt.Le.refl (m : Mt) : m.Le m := ⟨fun _ _ h => h, fun _ _ h => h⟩
theorem Mt.Le.trans {m m' m'' : Mt} (h : m.Le m') (h' : m'.Le m'') : m.Le m'' := ⟨fun i e x => h'.σ i e (h.σ i e x), fun i e x => h'.θ i e (h.θ i e x)⟩
structure Mt.Ok (m : Mt) (n k : Nat) : Prop where
  σ : ∀ i e, m.σ.get (path i) = some e -> e.ok n
  θ : ∀ i (b : Plc), m.θ.get (path i) = some b -> b.1 < k
theorem matchI_spec {m m' : Mt} {i : Nat} {e : IE} (h : matchI m i e = some m') :
    m.Le m' /\ (∀ n k, m.Ok n k -> e.ok n -> m'.Ok n k) /\ ∀ M : Mt, m'.Le M -> M.f i = e := by
  unfold matchI at h
  split at h
  · rename_i hn
    simp only [Option.some.injEq] at h
    subst h
    refine ⟨⟨fun j e' hj => ?_, fun _ _ h => h⟩, fun n k ho he => ⟨fun j e' hj => ?_, ho.θ⟩, fun M hM => ?_⟩
    · simp only [Tr.get_set]
      split
      · rename_i hij; subst hij; rw [hn] at hj; cases hj
      · exact hj
    · simp only [Tr.get_set] at hj
      split at hj
      · simp only [Option.some.injEq] at hj; subst hj; exact he
      · exact ho.σ j e' hj
    · have := hM.σ i e (by simp [Tr.get_set])
      simp [Mt.f, this]
  · rename_i e' hn
    split at h
    · rename_i hs
      simp only [Option.some.injEq] at h
      subst h
      have := same_ie hs
      subst this
      exact ⟨Mt.Le.refl _, fun _ _ ho _ => ho, fun M hM => by simp [Mt.f, hM.σ i _ hn]⟩
    · cases h
theorem matchB_spec {m m' : Mt} {b : Nat} {b' : Plc} (h : matchB m b b' = some m') :
    m.Le m' /\ (∀ n k, m.Ok n k -> b'.1 < k -> m'.Ok n k) /\ ∀ M : Mt, m'.Le M -> M.g b = b' := by
  unfold matchB at h
  split at h
  · rename_i hn
    simp only [Option.some.injEq] at h
    subst h
    refine ⟨⟨fun _ _ h => h, fun j e' hj => ?_⟩, fun n k ho he => ⟨ho.σ, fun j e' hj => ?_⟩, fun M hM => ?_⟩
    · simp only [Tr.get_set]
      split
      · rename_i hij; subst hij; rw [hn] at hj; cases hj
      · exact hj
    · simp only [Tr.get_set] at hj
      split at hj
      · simp only [Option.some.injEq] at hj; subst hj; exact he
      · exact ho.θ j e' hj
    · have := hM.θ b b' (by simp [Tr.get_set])
      simp [Mt.g, this]
  · rename_i e' hn
    split at h
    · rename_i hs
      simp only [Option.some.injEq] at h
      subst h
      have hs' : e' = b' := by simpa using hs
      subst hs'
      exact ⟨Mt.Le.refl _, fun _ _ ho _ => ho, fun M hM => by simp [Mt.g, hM.θ b _ hn]⟩
    · cases h
def Mtd (m m' : Mt) (p v : SV) : Prop :=
  m.Le m' /\ (∀ n k, m.Ok n k -> v.ok n k -> m'.Ok n k) /\ ∀ (c : Ctx) (M : Mt), m'.Le M -> p.den (c.sub M.f M.g) = v.den c
def MtdL (m m' : Mt) (p v : List SV) : Prop :=
  m.Le m' /\ (∀ n k, m.Ok n k -> okL n k v -> m'.Ok n k) /\ ∀ (c : Ctx) (M : Mt), m'.Le M -> denL (c.sub M.f M.g) p = denL c v
mutual
theorem matchSV_spec : ∀ {p v : SV} {m m' : Mt}, matchSV m p v = some m' -> Mtd m m' p v
  | p, v, m, m', h => by
    unfold matchSV at h
    split at h
    · split at h
      · rename_i k i k' e hk
        have hk' : k = k' := by simpa using hk
        subst hk'
        obtain ⟨h1, h2, h3⟩ := matchI_spec h
        exact ⟨h1, h2, fun c M hM => by simp only [SV.den, IE.eval, Ctx.sub]; rw [h3 M hM]⟩
      · cases h
    · split at h
      · rename_i hk
        simp only [Option.some.injEq] at h
        subst h
        simp only [Bool.and_eq_true, beq_iff_eq] at hk
        exact ⟨Mt.Le.refl _, fun _ _ ho _ => ho, fun c M hM => by simp only [SV.den, IE.eval, hk.1, hk.2]⟩
      · cases h
    · split at h
      · rename_i hk
        simp only [Option.some.injEq] at h
        subst h
        simp only [beq_iff_eq] at hk
        exact ⟨Mt.Le.refl _, fun _ _ ho _ => ho, fun c M hM => by simp only [SV.den, hk]⟩
      · cases h
    · rename_i i b
      obtain ⟨h1, h2, h3⟩ := matchI_spec h
      refine ⟨h1, fun n k ho _ => h2 n k ho trivial, fun c M hM => ?_⟩
      simp only [SV.den, BE.eval, IE.eval, Ctx.sub, h3 M hM, intCmp]
      cases b <;> rfl
    · split at h
      · rename_i ho
        have ho' := beq_iff_eq.1 ho
        obtain ⟨h1, h2, h3⟩ := matchB_spec h
        exact ⟨h1, h2, fun c M hM => by simp only [SV.den, Ctx.sub]; rw [h3 M hM, ho']⟩
      · cases h
    · simp only [Option.some.injEq] at h
      subst h
      exact ⟨Mt.Le.refl _, fun _ _ ho _ => ho, fun c M hM => rfl⟩
    · split at h
      · rename_i ho
        simp only [Bool.and_eq_true, beq_iff_eq] at ho
        obtain ⟨h1, h2, h3⟩ := matchB_spec h
        exact ⟨h1, h2, fun c M hM => by simp only [SV.den, Ctx.sub]; rw [h3 M hM, ho.1.1, ho.1.2, ho.2]⟩
      · cases h
    · simp only [Option.some.injEq] at h
      subst h
      exact ⟨Mt.Le.refl _, fun _ _ ho _ => ho, fun c M hM => rfl⟩
    · split at h
      · rename_i b o b' o' ho
        simp only [decide_eq_true_eq] at ho
        obtain ⟨h1, h2, h3⟩ := matchB_spec h
        refine ⟨h1, h2, fun c M hM => ?_⟩
        simp only [SV.den, Ctx.sub]
        rw [h3 M hM]
        simp only []
        rw [show o' - o + o = o' by omega]
      · cases h
    · split at h
      · rename_i b o l b' o' l' ho
        simp only [Bool.and_eq_true, beq_iff_eq, decide_eq_true_eq] at ho
        obtain ⟨h1, h2, h3⟩ := matchB_spec h
        refine ⟨h1, h2, fun c M hM => ?_⟩
        simp only [SV.den, Ctx.sub]
        rw [h3 M hM, ho.2]
        simp only []
        rw [show c.o b' + (o' - o) + o = c.o b' + o' by omega, show c.κ b' - (o' - o) - o = c.κ b' - o' by omega]
      · cases h
    · split at h
      · rename_i b o l b' o' l' c' ho
        simp only [Bool.and_eq_true, beq_iff_eq, decide_eq_true_eq] at ho
        obtain ⟨h1, h2, h3⟩ := matchB_spec h
        refine ⟨h1, h2, fun c M hM => ?_⟩
        simp only [SV.den, Ctx.sub]
        rw [h3 M hM, ho.2]
        simp only []
        rw [show o' - o + o = o' by omega, show c' + o - o = c' by omega]
      · cases h
    · split at h
      case isFalse => cases h
      rename_i b o i c1 b' o' e c2 ho
      simp only [decide_eq_true_eq] at ho
      split at h
      case h_2 => cases h
      rename_i m1 hm1
      obtain ⟨h1, h2, h3⟩ := matchI_spec hm1
      obtain ⟨g1, g2, g3⟩ := matchB_spec h
      refine ⟨h1.trans g1, fun n k hok hv => g2 n k (h2 n k hok hv.2) hv.1, fun c M hM => ?_⟩
      simp only [SV.den, Ctx.sub, IE.eval]
      rw [g3 M hM, h3 M (g1.trans hM)]
      simp only [if_true]
      rw [show c.o b' + (o' - o) + o = c.o b' + o' by omega, show c.κ b' - (o' - o) - o = c.κ b' - o' by omega]
    · rename_i l l'
      obtain ⟨h1, h2, h3⟩ := matchL_spec (p := l) (v := l') h
      exact ⟨h1, h2, fun c M hM => by simp only [SV.den]; rw [h3 c M hM]⟩
    · rename_i l l'
      obtain ⟨h1, h2, h3⟩ := matchL_spec (p := l) (v := l') h
      exact ⟨h1, h2, fun c M hM => by simp only [SV.den]; rw [h3 c M hM]⟩
    · split at h
      · rename_i t p t' v ht
        have ht' := beq_iff_eq.1 ht
        obtain ⟨h1, h2, h3⟩ := matchSV_spec (p := p) (v := v) h
        exact ⟨h1, h2, fun c M hM => by simp only [SV.den]; rw [h3 c M hM, ht']⟩
      · cases h
    · split at h
      · rename_i hs
        simp only [Option.some.injEq] at h
        subst h
        have := same_spec hs
        simp only [SV.val.injEq] at this
        subst this
        exact ⟨Mt.Le.refl _, fun _ _ ho _ => ho, fun c M hM => rfl⟩
      · cases h
    · cases h
theorem matchL_spec : ∀ {p v : List SV} {m m' : Mt}, matchL m p v = some m' -> MtdL m m' p v
  | p, v, m, m', h => by
    unfold matchL at h
    split at h
    · simp only [Option.some.injEq] at h
      subst h
      exact ⟨Mt.Le.refl _, fun _ _ ho _ => ho, fun c M hM => rfl⟩
    · rename_i p l v l'
      split at h
      · rename_i m1 hm1
        obtain ⟨h1, h2, h3⟩ := matchSV_spec (p := p) (v := v) hm1
        obtain ⟨g1, g2, g3⟩ := matchL_spec (p := l) (v := l') h
        exact ⟨h1.trans g1, fun n k ho hv => g2 n k (h2 n k ho hv.1) hv.2, fun c M hM => by
          simp only [denL]; rw [h3 c M (g1.trans hM), g3 c M hM]⟩
      · cases h
    · cases h
end
theorem matchL_len : ∀ {p v : List SV} {m m' : Mt}, matchL m p v = some m' -> p.length = v.length
  | p, v, m, m', h => by
    unfold matchL at h
    split at h
    · rfl
    · rename_i p l v l'
      split at h
      · simp only [List.length_cons]; rw [matchL_len (p := l) (v := l') h]
      · cases h
    · cases h
theorem blkRep_full {c : Ctx} {b : Nat} {k : Blk} {w : World} (h : k.full = true) : blkRep c b k w ↔ w.heap[c.β b]? = some (.cells (denL c k.cells).toArray k.ty (0, 0)) := by
  unfold blkRep; rw [if_pos h]
theorem blkRep_part {c : Ctx} {b : Nat} {k : Blk} {w : World} (h : k.full = false) : blkRep c b k w ↔ k.cells.length <= c.κ b /\ ∃ arr ty fr, w.heap[c.β b]? = some (.cells arr ty fr) /\ ∀ (i : Nat) (v : SV), k.cells[i]? = some v -> arr[c.o b + i]? = some (v.den c) := by
  unfold blkRep; rw [if_neg (by rw [h]; simp)]
theorem matchBlk_spec {m m' : Mt} {k k' : Blk} {x : Plc} (h : matchBlk m k x k' = some m') :
    m.Le m' /\ (∀ n j, m.Ok n j -> okL n j k'.cells -> m'.Ok n j) /\ k'.ty = k.ty /\ (k.full = true -> k'.full = true /\ x.2.1 = 0 /\ x.2.2 = none) /\
      ∀ (c : Ctx) (M : Mt) (w : World) (i : Nat), m'.Le M -> M.g i = x -> blkRep c x.1 k' w -> blkRep (c.sub M.f M.g) i k w := by
  unfold matchBlk at h
  simp only [matchLF_eq] at h
  split at h
  case isFalse => cases h
  rename_i hty
  have hty' := beq_iff_eq.1 hty
  have part : ∀ {n j : Nat} {d e : Nat}, okL n j k'.cells -> okL n j ((k'.cells.drop d).take e) := fun h => okL_drop_take h _ _
  split at h
  · rename_i hf
    split at h
    case isFalse => cases h
    rename_i hc
    simp only [Bool.and_eq_true, beq_iff_eq, Option.isNone_iff_eq_none] at hc
    obtain ⟨h1, h2, h3⟩ := matchL_spec h
    refine ⟨h1, h2, hty', fun _ => ⟨hc.1.1, hc.1.2, hc.2⟩, fun c M w i hM hg hb => ?_⟩
    rw [blkRep_full hf]
    rw [blkRep_full hc.1.1] at hb
    rw [h3 c M hM, show (c.sub M.f M.g).β i = c.β x.1 by simp only [Ctx.sub, hg], <- hty']
    exact hb
  · rename_i hf
    have hf' : k.full = false := by simpa using hf
    split at h
    case isFalse => cases h
    rename_i hle
    simp only [decide_eq_true_eq] at hle
    have look : ∀ {c : Ctx} {M : Mt}, denL (c.sub M.f M.g) k.cells = denL c ((k'.cells.drop x.2.1).take k.cells.length) -> ∀ (j : Nat) v, k.cells[j]? = some v ->
        ∃ u, k'.cells[x.2.1 + j]? = some u /\ u.den c = v.den (c.sub M.f M.g) := fun {c M} he j v hv => by
      have hj : j < k.cells.length := (List.getElem?_eq_some_iff.1 hv).1
      have h1 : (denL (c.sub M.f M.g) k.cells)[j]? = some (v.den (c.sub M.f M.g)) := by rw [denL_map]; simp [hv]
      rw [he, denL_map, List.getElem?_map, List.getElem?_take, if_pos hj, List.getElem?_drop, Option.map_eq_some_iff] at h1
      exact h1
    split at h
    · rename_i hn
      split at h
      · rename_i hkf
        split at h
        case isFalse => cases h
        rename_i he
        simp only [Option.some.injEq] at h
        subst h
        have he' : k.cells = [] := List.isEmpty_iff.1 he
        refine ⟨Mt.Le.refl _, fun _ _ ho _ => ho, hty', fun e => (by rw [hf'] at e; cases e), fun c M w i hM hg hb => ?_⟩
        rw [blkRep_part hf', he']
        rw [blkRep_full hkf] at hb
        exact ⟨Nat.zero_le _, _, _, _, by rw [show (c.sub M.f M.g).β i = c.β x.1 by simp only [Ctx.sub, hg]]; exact hb, fun j v hv => by simp at hv⟩
      rename_i hkf
      have hkf' : k'.full = false := by simpa using hkf
      obtain ⟨h1, h2, h3⟩ := matchL_spec h
      refine ⟨h1, fun n j ho hk => h2 n j ho (part hk), hty', fun e => (by rw [hf'] at e; cases e), fun c M w i hM hg hb => ?_⟩
      rw [blkRep_part hf']
      obtain ⟨b1, arr, ty, fr, b2, b3⟩ := (blkRep_part hkf').1 hb
      have eo : (c.sub M.f M.g).o i = c.o x.1 + x.2.1 := by simp only [Ctx.sub, hg, hn]
      have eκ : (c.sub M.f M.g).κ i = c.κ x.1 - x.2.1 := by simp only [Ctx.sub, hg, hn]
      have eβ : (c.sub M.f M.g).β i = c.β x.1 := by simp only [Ctx.sub, hg]
      rw [eo, eκ, eβ]
      refine ⟨by omega, arr, ty, fr, b2, fun j v hv => ?_⟩
      obtain ⟨u, u1, u2⟩ := look (h3 c M hM) j v hv
      rw [Nat.add_assoc, b3 _ u u1, u2]
    · rename_i cap hn
      split at h
      case isFalse => cases h
      rename_i hc
      simp only [Bool.and_eq_true, decide_eq_true_eq] at hc
      obtain ⟨h1, h2, h3⟩ := matchL_spec h
      refine ⟨h1, fun n j ho hk => h2 n j ho (part hk), hty', fun e => (by rw [hf'] at e; cases e), fun c M w i hM hg hb => ?_⟩
      rw [blkRep_part hf']
      rw [blkRep_full hc.1] at hb
      have eo : (c.sub M.f M.g).o i = x.2.1 := by simp only [Ctx.sub, hg, hn]
      have eκ : (c.sub M.f M.g).κ i = cap := by simp only [Ctx.sub, hg, hn]
      have eβ : (c.sub M.f M.g).β i = c.β x.1 := by simp only [Ctx.sub, hg]
      rw [eo, eκ, eβ]
      refine ⟨hc.2, _, _, _, hb, fun j v hv => ?_⟩
      obtain ⟨u, u1, u2⟩ := look (h3 c M hM) j v hv
      rw [denL_map]
      simp [u1, u2]
theorem matchMem_spec {mem : Tr Blk} : ∀ {ks : List Blk} {b : Nat} {m m' : Mt}, matchMem mem m b ks = some m' ->
    m.Le m' /\ (∀ n k, m.Ok n k -> (∀ x y, mem.get (path x) = some y -> okL n k y.cells) -> m'.Ok n k) /\
    ∀ (i : Nat) k, ks[i]? = some k -> ∃ x k', m'.θ.get (path (b + i)) = some x /\ mem.get (path x.1) = some k' /\ k'.ty = k.ty /\ (k.full = true -> k'.full = true /\ x.2.1 = 0 /\ x.2.2 = none) /\
      ∀ (c : Ctx) (M : Mt) (w : World), m'.Le M -> blkRep c x.1 k' w -> blkRep (c.sub M.f M.g) (b + i) k w
  | [], b, m, m', h => by
    simp only [matchMem, Option.some.injEq] at h
    subst h
    exact ⟨Mt.Le.refl _, fun _ _ ho _ => ho, fun i k hk => by simp at hk⟩
  | k :: ks, b, m, m', h => by
    simp only [matchMem] at h
    split at h
    · rename_i x hb
      split at h
      · rename_i k' hk'
        split at h
        · rename_i m1 hm1
          obtain ⟨h1, h2, h3, h4, h5⟩ := matchBlk_spec hm1
          obtain ⟨g1, g2, g3⟩ := matchMem_spec h
          refine ⟨h1.trans g1, fun n j ho hm => g2 n j (h2 n j ho (hm x.1 k' hk')) hm, fun i kk hi => ?_⟩
          cases i with
          | zero =>
            simp only [List.getElem?_cons_zero, Option.some.injEq] at hi
            subst hi
            refine ⟨x, k', (h1.trans g1).θ _ _ hb, hk', h3, h4, fun c M w hM hr => h5 c M w b (g1.trans hM) ?_ hr⟩
            have := ((h1.trans g1).trans hM).θ _ _ hb
            simp [Mt.g, this]
          | succ i =>
            obtain ⟨x, y, q⟩ := g3 i kk (by simpa using hi)
            rw [show b + (i + 1) = b + 1 + i by omega]
            exact ⟨x, y, q⟩
        · cases h
      · cases h
    · cases h
theorem allNat_get {p : Nat -> Bool} : ∀ {n : Nat}, allNat p n = true -> ∀ i, i < n -> p i = true
  | 0, _, i, hi => by omega
  | n + 1, h, i, hi => by
    simp only [allNat, Bool.and_eq_true] at h
    by_cases e : i = n
    · rw [e]; exact h.1
    · exact allNat_get h.2 i (by omega)
theorem distT_spec {f : Nat -> Nat} : ∀ {n : Nat} {t : Tr Unit}, distT f n t = true -> (∀ i, i < n -> t.get (path (f i)) = none) /\ ∀ i j, i < n -> j < n -> f i = f j -> i = j
  | 0, _, _ => ⟨fun _ h => by omega, fun _ _ h => by omega⟩
  | n + 1, t, h => by
    simp only [distT] at h
    split at h
    · cases h
    · rename_i hn
      obtain ⟨h1, h2⟩ := distT_spec h
      have h3 : ∀ i, i < n -> f i ≠ f n /\ t.get (path (f i)) = none := fun i hi => by
        have := h1 i hi
        rw [Tr.get_set] at this
        split at this
        · cases this
        · rename_i hne; exact ⟨hne, this⟩
      refine ⟨fun i hi => ?_, fun i j hi hj e => ?_⟩
      · by_cases hin : i = n
        · rw [hin]; exact hn
        · exact (h3 i (by omega)).2
      · by_cases hin : i = n <;> by_cases hjn : j = n
        · rw [hin, hjn]
        · subst hin; exact absurd e.symm (h3 j (by omega)).1
        · subst hjn; exact absurd e (h3 i (by omega)).1
        · exact h2 i j (by omega) (by omega) e
theorem inBd_spec {ρ : Nat -> Int} {bd' : Tr (Int × Int)} {n : Nat} {e : IE} {r : Int × Int} (hB : BdOK ρ bd' n) (h : inBd r (rng bd' e) = true) :
    r.1 <= e.eval ρ /\ e.eval ρ <= r.2 := by
  unfold inBd at h
  split at h
  · rename_i l u hrng
    simp only [Bool.and_eq_true, decide_eq_true_eq] at h
    have := rng_sound hB hrng
    simp only at this
    omega
  · cases h
theorem listTr_get {α : Type} : ∀ {l : List α} {i : Nat} {t : Tr α} (j : Nat), (listTr i l t).get (path j) = if i <= j /\ j < i + l.length then l[j - i]? else t.get (path j)
  | [], i, t, j => by
    simp only [listTr, List.length_nil, Nat.add_zero]
    rw [if_neg (by omega)]
  | x :: xs, i, t, j => by
    simp only [listTr, List.length_cons]
    rw [listTr_get j, Tr.get_set]
    by_cases h : j = i
    · subst h
      rw [if_neg (by omega), if_pos rfl, if_pos (by omega)]; simp
    · rw [if_neg h]
      by_cases h' : i + 1 <= j /\ j < i + 1 + xs.length
      · rw [if_pos h', if_pos (by omega)]
        rw [show j - i = (j - (i + 1)) + 1 by omega, List.getElem?_cons_succ]
      · rw [if_neg h', if_neg (by omega)]
end Go.Vm
end
