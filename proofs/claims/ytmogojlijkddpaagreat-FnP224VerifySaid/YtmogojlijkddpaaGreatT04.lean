/- The proof of laws.FnP224Verify, text 5 of 36. Conditions: none. -/
import Derived.Test.YtmogojlijkddpaaGreatT03
noncomputable section

set_option maxRecDepth 100000
namespace Go.Vm
section
variable {P : Program} {X : Tk} {E : Env}
def PostOK (X : Tk) (o : SmO) (M : Mt) (S' : St) : Prop :=
  ∀ ρ, BdOK ρ S'.bd S'.nv -> (∀ k ∈ S'.cons, k.holds X ρ) -> ∀ x ∈ o.post, X x.1 (x.2.map (·.eval (fun i => (M.f i).eval ρ)))
theorem setAll_get : ∀ {l : List (Nat × Blk)} {m : Tr Blk} {x : Nat} {k : Blk}, (setAll l m).get (path x) = some k -> (x, k) ∈ l \/ (m.get (path x) = some k /\ ∀ k', (x, k') ∉ l)
  | [], m, x, k, h => .inr ⟨h, fun _ h => by simp at h⟩
  | (b, k0) :: l, m, x, k, h => by
    simp only [setAll] at h
    rcases setAll_get h with g | ⟨g, hn⟩
    · exact .inl (List.mem_cons_of_mem _ g)
    · rw [Tr.get_set] at g
      split at g
      · rename_i hx
        simp only [Option.some.injEq] at g
        subst hx; subst g
        exact .inl List.mem_cons_self
      · rename_i hx
        refine .inr ⟨g, fun k' hk' => ?_⟩
        rcases List.mem_cons.1 hk' with e | e
        · simp only [Prod.mk.injEq] at e; exact hx e.1
        · exact hn k' e
theorem setAll_get_not : ∀ {l : List (Nat × Blk)} {m : Tr Blk} {x : Nat}, (∀ k, (x, k) ∉ l) -> (setAll l m).get (path x) = m.get (path x)
  | [], m, x, _ => rfl
  | (b, k0) :: l, m, x, h => by
    simp only [setAll]
    rw [setAll_get_not fun k hk => h k (List.mem_cons_of_mem _ hk), Tr.get_set, if_neg]
    intro e
    exact h k0 (by rw [e]; exact List.mem_cons_self)
theorem matchWr_spec {mem : Tr Blk} {s : Sm} : ∀ {l : List (Nat × List SV)} {m m' : Mt}, matchWr mem s m l = some m' ->
    m.Le m' /\ ∀ x ∈ l, ∃ k' k, mem.get (path x.1) = some k' /\ s.mem[x.1]? = some k /\ k'.ty = k.ty /\ k'.full = true /\ k.full = true /\
      ∀ (c : Ctx) (M : Mt), m'.Le M -> denL (c.sub M.f M.g) x.2 = denL c k'.cells
  | [], m, m', h => by
    simp only [matchWr, Option.some.injEq] at h
    subst h
    exact ⟨Mt.Le.refl _, fun x hx => by simp at hx⟩
  | (b, vs) :: l, m, m', h => by
    simp only [matchWr, matchLF_eq] at h
    split at h
    · rename_i k' k hk' hk
      split at h
      · rename_i hty
        simp only [Bool.and_eq_true, beq_iff_eq] at hty
        split at h
        · rename_i m1 hm1
          obtain ⟨h1, _, h3⟩ := matchL_spec hm1
          obtain ⟨g1, g2⟩ := matchWr_spec h
          refine ⟨h1.trans g1, fun x hx => ?_⟩
          rcases List.mem_cons.1 hx with e | e
          · subst e
            exact ⟨k', k, hk', hk, hty.1.1, hty.1.2, hty.2, fun c M hM => h3 c M (g1.trans hM)⟩
          · exact g2 x e
        · cases h
      · cases h
    · cases h
structure In (X : Tk) (s : Sm) (args : List SV) (S : St) (m : Mt) (c : Ctx) (w : World) : Prop where
  σ : ∀ i, i < s.nv -> (m.f i).ok S.nv
  θ : ∀ b, b < s.mem.length -> (m.g b).1 < S.nb
  blk : ∀ (b : Nat) k, s.mem[b]? = some k -> ∃ k', S.mem.get (path (m.g b).1) = some k' /\ k'.ty = k.ty /\ (k.full = true -> k'.full = true /\ (m.g b).2.1 = 0 /\ (m.g b).2.2 = none)
  start : MRep X ⟨w, s.mem.length⟩ (c.sub m.f m.g) s.start w
  args : denL (c.sub m.f m.g) s.args = denL c args
theorem sm_in {s : Sm} {args : List SV} {S : St} {m : Mt} {w0 : Base} {c : Ctx} {w : World} (h : s.matchIn args S = some m) (wmem : ∀ k ∈ s.mem, okbL s.nv s.mem.length k.cells = true)
    (hM : MRep X w0 c S w) (hargs : okL S.nv S.nb args) : In X s args S m c w := by
  unfold Sm.matchIn at h
  split at h
  · cases h
  rename_i m0 hm0
  split at h
  · cases h
  rename_i m1 hm1
  split at h
  case isFalse => cases h
  rename_i hchk
  simp only [Option.some.injEq] at h
  subst h
  simp only [Bool.and_eq_true] at hchk
  obtain ⟨⟨hbds, hal⟩, hlens⟩ := hchk
  obtain ⟨a1, a2, a3⟩ := matchL_spec hm0
  obtain ⟨b1, b2, b3⟩ := matchMem_spec hm1
  have hOk : m1.Ok S.nv S.nb := b2 _ _ (a2 _ _ ⟨fun i e h => by simp [Tr.get_nil] at h, fun i e h => by simp [Tr.get_nil] at h⟩ hargs) (fun x y hx => (hM.mem x y hx).2.1)
  have hσ : ∀ i, i < s.nv -> (m1.f i).ok S.nv := fun i hi => by
    have := allIdx_get hbds i _ (List.getElem?_eq_getElem (show i < s.bd.length from hi))
    simp only [Nat.zero_add, Bool.and_eq_true, Option.isSome_iff_exists] at this
    obtain ⟨⟨e, he⟩, _⟩ := this
    have := hOk.σ i e he
    simpa [Mt.f, he] using this
  have hblk : ∀ (b : Nat) k, s.mem[b]? = some k -> ∃ k', S.mem.get (path (m1.g b).1) = some k' /\ k'.ty = k.ty /\ (k.full = true -> k'.full = true /\ (m1.g b).2.1 = 0 /\ (m1.g b).2.2 = none) /\
      (m1.g b).1 < S.nb /\ ∀ w, blkRep c (m1.g b).1 k' w -> blkRep (c.sub m1.f m1.g) b k w := fun b k hk => by
    obtain ⟨x, k', h1, h2, h3, h4, h5⟩ := b3 b k hk
    rw [Nat.zero_add] at h1
    have hg : m1.g b = x := by simp [Mt.g, h1]
    rw [hg]
    exact ⟨k', h2, h3, h4, hOk.θ _ _ h1, fun w hw => by have := h5 c m1 w (Mt.Le.refl _) hw; rwa [Nat.zero_add] at this⟩
  have hget : ∀ b k, s.start.mem.get (path b) = some k -> s.mem[b]? = some k := fun b k hb => by
    simp only [Sm.start, listTr_get, Nat.zero_le, Nat.zero_add, true_and, Nat.sub_zero, Tr.get_nil] at hb
    split at hb
    · exact hb
    · cases hb
  refine ⟨hσ, fun b hb => ?_, fun b k hk => ?_, ?_, a3 c m1 b1⟩
  · obtain ⟨_, _, _, _, h, _⟩ := hblk b s.mem[b] (by simp [hb]); exact h
  · obtain ⟨k', g1, g2, g3, _⟩ := hblk b k hk; exact ⟨k', g1, g2, g3⟩
  · refine ⟨fun b k hb => ?_, fun b b' k k' hb hb' e => ?_, fun b hb => by simp [Sm.start] at hb, fun b h1 h2 => ?_, fun _ _ _ => rfl, Nat.le_refl _, fun k hk => by simp [Sm.start] at hk, fun i r hr => ?_, rfl, rfl, rfl, fun b s' p hb => by simp [Sm.start, Tr.get_nil] at hb, fun x hx => ?_⟩
    · have hk := hget b k hb
      have hmem : k ∈ s.mem := List.mem_of_getElem? hk
      refine ⟨(List.getElem?_eq_some_iff.1 hk).1, okL_of (wmem k hmem), ?_⟩
      obtain ⟨k', g1, _, _, _, g5⟩ := hblk b k hk
      exact g5 w (hM.mem _ _ g1).2.2
    · have hk := hget b k hb
      have hk' := hget b' k' hb'
      obtain ⟨j, g1, _⟩ := hblk b k hk
      obtain ⟨j', g1', _⟩ := hblk b' k' hk'
      have hbl : b < s.mem.length := (List.getElem?_eq_some_iff.1 hk).1
      have hbl' : b' < s.mem.length := (List.getElem?_eq_some_iff.1 hk').1
      rw [Bool.or_eq_true, Bool.and_eq_true] at hal
      rcases hal with hal | hal
      · by_cases hbb : b = b'
        · exact .inl hbb
        · exfalso
          have hal0 : S.al = [] := List.isEmpty_iff.1 hal.1
          rcases hM.inj _ _ _ _ g1 g1' e with h | ⟨h, _⟩
          · exact hbb ((distT_spec hal.2).2 b b' hbl hbl' h)
          · rw [hal0] at h; simp at h
      have := allNat_get (allNat_get hal b hbl) b' hbl'
      simp only [Bool.or_eq_true, beq_iff_eq, Bool.and_eq_true, Bool.not_eq_true', List.contains_iff_mem] at this
      rcases this with (h | ⟨h1, h2⟩) | h
      · exact .inl h
      · exfalso
        rcases hM.inj _ _ _ _ g1 g1' e with h | ⟨h, h'⟩
        · simp [h] at h1
        · simp [h, h'] at h2
      · exact .inr h
    · simp only [Sm.start] at h1 h2; omega
    · simp only [Sm.start, listTr_get, Nat.zero_le, Nat.zero_add, true_and, Nat.sub_zero, Tr.get_nil] at hr
      split at hr
      · rename_i hi
        refine ⟨hi, ?_⟩
        have := allIdx_get hbds i r hr
        simp only [Nat.zero_add, Bool.and_eq_true] at this
        exact inBd_spec hM.bd this.2
      · cases hr
    · have hx' : x ∈ s.lens := hx
      have := List.all_eq_true.1 hlens x hx'
      simp only [Bool.and_eq_true, decide_eq_true_eq, beq_iff_eq, Option.isNone_iff_eq_none, List.any_eq_true] at this
      obtain ⟨⟨⟨⟨⟨l1, l2⟩, l3⟩, l4⟩, l5⟩, y, y1, y2, y3⟩ := this
      have y3 := same_ie y3
      obtain ⟨z1, z2, z3, z4⟩ := hM.lens y y1
      refine ⟨l1, l2, ⟨s.mem[x.1], ?_, ?_⟩, ?_⟩
      · simp only [Sm.start, listTr_get]
        rw [if_pos ⟨Nat.zero_le _, by omega⟩]; simp
      · rw [List.getElem?_eq_getElem l1] at l3
        simpa using l3
      · obtain ⟨l, q1, q2, q3, arr, ty, fr, q4, q5⟩ := z4
        refine ⟨l, q1, ?_, ?_, arr, ty, fr, ?_, ?_⟩
        · simp only [Ctx.sub, y3, IE.eval]; exact q2
        · simp only [Ctx.sub, l5, l4, <- y2, Nat.sub_zero]; exact q3
        · simp only [Ctx.sub, <- y2]; exact q4
        · simp only [Ctx.sub, l5, l4, <- y2, Nat.add_zero]; exact q5
set_option maxHeartbeats 1000000 in
theorem sm_core {s : Sm} {args : List SV} {S : St} {m : Mt} {w0 : Base} {c : Ctx} {w : World} (hI : In X s args S m c w) (hM : MRep X w0 c S w)
    {o : SmO} (hwf : o.wf s = true) {v : SV} {S' : St} {c' : Ctx} {w' : World} (hrep : MRep X ⟨w, s.mem.length⟩ c' S' w') {mf : Nat -> IE} {mg : Nat -> Plc}
    (hβ : ∀ b, b < s.mem.length -> c'.β b = c.β (m.g b).1) (ho' : ∀ b, b < s.mem.length -> c'.o b = (c.sub m.f m.g).o b) (hκ' : ∀ b, b < s.mem.length -> c'.κ b = (c.sub m.f m.g).κ b)
    (hρ : ∀ i, i < s.nv -> (mf i).eval c'.ρ = (m.f i).eval c.ρ) (hgid : ∀ b, b < s.mem.length -> mg b = (b, 0, none))
    (p3 : o.val.den (c'.sub mf mg) = v.den c')
    (q2 : ∀ x ∈ o.writes, ∃ k' k, S'.mem.get (path x.1) = some k' /\ s.mem[x.1]? = some k /\ k'.ty = k.ty /\ k'.full = true /\ k.full = true /\ denL (c'.sub mf mg) x.2 = denL c' k'.cells)
    (n3 : ∀ (j : Nat) k, o.news[j]? = some k -> ∃ k', S'.mem.get (path (mg (s.mem.length + j)).1) = some k' /\ blkRep (c'.sub mf mg) (s.mem.length + j) k w')
    (hbds' : ∀ (i : Nat) r, o.nbd[i]? = some r -> r.1 <= (mf (s.nv + i)).eval c'.ρ /\ (mf (s.nv + i)).eval c'.ρ <= r.2)
    (hwrs : ∀ b ∈ S'.wr, s.mem.length <= b \/ ∃ x ∈ o.writes, x.1 = b)
    (hnewchk : ∀ (j : Nat) k, o.news[j]? = some k -> s.mem.length <= (mg (s.mem.length + j)).1 /\ ¬ (mg (s.mem.length + j)).1 ∈ S'.al /\
      (∀ (i : Nat) k', o.news[i]? = some k' -> i ≠ j -> (mg (s.mem.length + j)).1 ≠ (mg (s.mem.length + i)).1))
    (hpost : ∀ x ∈ o.post, X x.1 (x.2.map (·.eval (fun i => (mf i).eval c'.ρ)))) {r : SV × St} (hone : s.one m S o = some r) :
    ∃ c1, Led X w0 c c1 S r.2 w' r.1 /\ r.1.den c1 = v.den c' := by
  simp only [SmO.wf, okbLF_eq, Bool.and_eq_true, List.all_eq_true, decide_eq_true_eq] at hwf
  obtain ⟨⟨⟨wval, wwr⟩, wpost⟩, wnews⟩ := hwf
  have wval := SV.ok_of wval
  have hnb : ∀ (j : Nat) k, o.news[j]? = some k -> s.mem.length <= (mg (s.mem.length + j)).1 /\ ¬ (mg (s.mem.length + j)).1 ∈ S'.al /\
      (∀ (i : Nat) k', o.news[i]? = some k' -> i ≠ j -> (mg (s.mem.length + j)).1 ≠ (mg (s.mem.length + i)).1) /\
      ∃ k', S'.mem.get (path (mg (s.mem.length + j)).1) = some k' /\ blkRep (c'.sub mf mg) (s.mem.length + j) k w' := fun j k hk => by
    obtain ⟨h1, h2, h3⟩ := hnewchk j k hk
    exact ⟨h1, h2, h3, n3 j k hk⟩
  have hnew : ∀ (j : Nat) k, o.news[j]? = some k -> w.heap.size <= c'.β (mg (s.mem.length + j)).1 := fun j k hk => by
    obtain ⟨h1, _, _, k', h4, _⟩ := hnb j k hk
    exact hrep.new _ h1 (hrep.mem _ _ h4).1
  let cs := c'.sub mf mg
  let c1 : Ctx := ⟨fun i => if i < S.nv then c.ρ i else (mf (s.nv + (i - S.nv))).eval c'.ρ, fun b => if b < S.nb then c.β b else cs.β (s.mem.length + (b - S.nb)),
    fun b => if b < S.nb then c.o b else cs.o (s.mem.length + (b - S.nb)), fun b => if b < S.nb then c.κ b else cs.κ (s.mem.length + (b - S.nb))⟩
  have hx' : Ext S.nv S.nb c c1 := ⟨fun i hi => if_pos hi, fun b hb => if_pos hb, fun b hb => if_pos hb, fun b hb => if_pos hb⟩
  have hfo : ∀ i, i < s.nv + o.nr -> (s.out m S i).ok (S.nv + o.nr) := fun i hi => by
    unfold Sm.out
    split
    · rename_i h; exact IE.ok_mono (by omega) (hI.σ i h)
    · simp only [IE.ok]; omega
  have hgo : ∀ b, b < s.mem.length + o.news.length -> (s.blk m S b).1 < S.nb + o.news.length := fun b hb => by
    unfold Sm.blk
    split
    · rename_i h; have := hI.θ b h; omega
    · simp only []; omega
  have hfe : ∀ i, i < s.nv + o.nr -> (s.out m S i).eval c1.ρ = (mf i).eval c'.ρ := fun i hi => by
    unfold Sm.out
    split
    · rename_i h
      rw [IE.eval_ext hx'.ρ (hI.σ i h)]
      exact (hρ i h).symm
    · rename_i h
      simp only [IE.eval, c1]
      rw [if_neg (by omega)]
      congr 2; omega
  have hxs : Ext (s.nv + o.nr) (s.mem.length + o.news.length) cs (c1.sub (s.out m S) (s.blk m S)) := by
    refine ⟨fun i hi => hfe i hi, fun b hb => ?_, fun b hb => ?_, fun b hb => ?_⟩
    all_goals
      by_cases h : b < s.mem.length
      · have hlt := hI.θ b h
        have hg := hgid b h
        simp only [Ctx.sub, cs, Sm.blk, if_pos h, hg, c1, if_pos hlt]
        first
          | exact (hβ b h).symm
          | (have := ho' b h
             simp only [Ctx.sub] at this
             rw [Nat.add_zero]
             exact this.symm)
          | (have := hκ' b h
             simp only [Ctx.sub] at this
             rw [Nat.sub_zero]
             exact this.symm)
      · have e : s.mem.length + (S.nb + (b - s.mem.length) - S.nb) = b := by omega
        have hn : ¬ (S.nb + (b - s.mem.length) < S.nb) := by omega
        simp only [Ctx.sub, cs, Sm.blk, if_neg h, c1, if_neg hn, e, Nat.add_zero, Nat.sub_zero]
  have hden : ∀ u : SV, u.ok (s.nv + o.nr) (s.mem.length + o.news.length) -> (u.subst (s.out m S) (s.blk m S)).den c1 = u.den cs := fun u hu => by
    rw [SV.den_subst, SV.den_ext hxs hu]
  have hdenL : ∀ u : List SV, okL (s.nv + o.nr) (s.mem.length + o.news.length) u -> denL c1 (substL (s.out m S) (s.blk m S) u) = denL cs u := fun u hu => by
    rw [denL_subst, denL_ext hxs hu]
  have hsame : ∀ r, r < w.heap.size -> (∀ x ∈ s.ws o m S, c.β x.1 ≠ r) -> w'.heap[r]? = w.heap[r]? := fun r hr hw => by
    refine hrep.frame r hr fun b hb => ?_
    rcases hwrs b hb with h | ⟨x, hxm, hxb⟩
    · have : w.heap.size <= c'.β b := hrep.new b h (hrep.wr b hb)
      omega
    · subst hxb
      rw [hβ _ (wwr x hxm).1]
      exact hw _ (List.mem_map.2 ⟨x, hxm, rfl⟩)
  have hwrt : ∀ x k, (x, k) ∈ s.ws o m S -> x < S.nb /\ (∃ k', S.mem.get (path x) = some k' /\ k'.full = true) /\ okL (S.nv + o.nr) (S.nb + o.news.length) k.cells /\ blkRep c1 x k w' := fun x k hxk => by
    obtain ⟨⟨b, vs⟩, hbm, hbe⟩ := List.mem_map.1 hxk
    simp only [Prod.mk.injEq, substLF_eq] at hbe
    obtain ⟨rfl, rfl⟩ := hbe
    obtain ⟨k', k, e1, e2, e3, e4, e4', e5⟩ := q2 _ hbm
    obtain ⟨w1, w2⟩ := wwr _ hbm
    simp only at w1 w2 e1 e2
    obtain ⟨k2, i1, _, i2⟩ := hI.blk b k e2
    have hlt := hI.θ b w1
    refine ⟨hlt, ⟨k2, i1, (i2 e4').1⟩, okL_subst hfo hgo (okL_of w2), ?_⟩
    rw [blkRep_full rfl]
    simp only [e2]
    rw [hdenL vs (okL_of w2)]
    have := (blkRep_full e4).1 (hrep.mem b k' e1).2.2
    rw [hβ b w1, e3] at this
    rw [hx'.β _ hlt]
    rw [e5]
    exact this
  have hnews : ∀ (j : Nat) k, (s.nws o m S)[j]? = some k -> okL (S.nv + o.nr) (S.nb + o.news.length) k.cells /\ blkRep c1 (S.nb + j) k w' /\ w.heap.size <= c1.β (S.nb + j) /\ j < o.news.length := fun j k hk => by
    simp only [Sm.nws, substLF_eq, List.getElem?_map, Option.map_eq_some_iff] at hk
    obtain ⟨k0, hk0, rfl⟩ := hk
    obtain ⟨_, _, _, k', _, h5⟩ := hnb j k0 hk0
    have wk := okL_of (wnews k0 (List.mem_of_getElem? hk0))
    have hn : ¬ (S.nb + j < S.nb) := by omega
    have ej : s.mem.length + (S.nb + j - S.nb) = s.mem.length + j := by omega
    have eβ : c1.β (S.nb + j) = cs.β (s.mem.length + j) := by simp only [c1, if_neg hn, ej]
    have eo : c1.o (S.nb + j) = cs.o (s.mem.length + j) := by simp only [c1, if_neg hn, ej]
    have eκ : c1.κ (S.nb + j) = cs.κ (s.mem.length + j) := by simp only [c1, if_neg hn, ej]
    refine ⟨okL_subst hfo hgo wk, ?_, by rw [eβ]; exact hnew j k0 hk0, (List.getElem?_eq_some_iff.1 hk0).1⟩
    have hd := hdenL k0.cells wk
    cases hf : k0.full with
    | true =>
      rw [blkRep_full rfl, eβ]
      rw [blkRep_full hf] at h5
      simp only []
      rw [hd]; exact h5
    | false =>
      rw [blkRep_part rfl, eβ, eo, eκ]
      rw [blkRep_part hf] at h5
      obtain ⟨a1, arr, ty, fr, a2, a3⟩ := h5
      have hlen : (substL (s.out m S) (s.blk m S) k0.cells).length = k0.cells.length := by
        have := congrArg List.length hd
        simpa [denL_length] using this
      refine ⟨by simp only []; rw [hlen]; exact a1, arr, ty, fr, a2, fun i u hu => ?_⟩
      have hi : i < k0.cells.length := by rw [<- hlen]; exact (List.getElem?_eq_some_iff.1 hu).1
      have e := congrArg (·[i]?) hd
      simp only [denL_map, List.getElem?_map] at e
      simp only [] at hu
      rw [hu, List.getElem?_eq_getElem hi] at e
      simp only [Option.map_some, Option.some.injEq] at e
      rw [e]
      exact a3 i _ (List.getElem?_eq_getElem hi)
  have hcons : ∀ k ∈ (o.post.map fun x => Con.ext x.1 (x.2.map (·.subst (s.out m S)))) ++ S.cons, k.ok (S.nv + o.nr) /\ k.holds X c1.ρ := fun k hk => by
    rcases List.mem_append.1 hk with hk | hk
    · obtain ⟨x, hxm, rfl⟩ := List.mem_map.1 hk
      have hxo := wpost x hxm
      refine ⟨?_, ?_⟩
      · intro e he
        obtain ⟨e', he', rfl⟩ := List.mem_map.1 he
        exact IE.ok_subst hfo (IE.ok_of (hxo e' he'))
      · simp only [Con.holds, List.map_map]
        have := hpost x hxm
        rw [List.map_congr_left (g := (·.eval (fun i => (mf i).eval c'.ρ))) fun e he => by
          simp only [Function.comp]
          rw [IE.eval_subst]
          exact IE.eval_ext (n := s.nv + o.nr) (fun i hi => hfe i hi) (IE.ok_of (hxo e he))]
        exact this
    · obtain ⟨h1, h2⟩ := hM.cons k hk
      exact ⟨Con.ok_mono (by omega) h1, Con.holds_ext hx'.ρ h1 h2⟩
  have hbd : BdOK c1.ρ (listTr S.nv o.nbd S.bd) (S.nv + o.nr) := fun i r hr => by
    rw [listTr_get] at hr
    split at hr
    · rename_i hi
      refine ⟨by show i < S.nv + o.nbd.length; omega, ?_⟩
      have := hbds' (i - S.nv) r hr
      simp only [c1]
      rw [if_neg (by omega)]
      exact this
    · have := hM.bd i r hr
      exact ⟨by omega, by rw [hx'.ρ i this.1]; exact this.2⟩
  have hold : ∀ x k, S.mem.get (path x) = some k -> (∀ y ∈ s.ws o m S, c.β y.1 ≠ c.β x) -> x < S.nb /\ okL (S.nv + o.nr) (S.nb + o.news.length) k.cells /\ blkRep c1 x k w' := fun x k hxk hne => by
    obtain ⟨h1, h2, h3⟩ := hM.mem x k hxk
    refine ⟨h1, okL_mono (by omega) (by omega) h2, ?_⟩
    have h4 := blkRep_ext hx' h1 h2 h3
    refine blkRep_heap (w := w) ?_ h4
    rw [hx'.β x h1]
    exact hsame _ (blkRep_lt h3) hne
  have hframe : ∀ r, r < w0.heap.size -> (∀ b ∈ (s.ws o m S).map (·.1) ++ S.wr, c1.β b ≠ r) -> w'.heap[r]? = w0.heap[r]? := fun r hr hw => by
    rw [hsame r (Nat.lt_of_lt_of_le hr hM.size) fun x hxm => by
      have := hw x.1 (List.mem_append_left _ (List.mem_map.2 ⟨x, hxm, rfl⟩))
      rwa [hx'.β _ (hwrt x.1 x.2 hxm).1] at this]
    exact hM.frame r hr fun b hb => by
      have := hw b (List.mem_append_right _ hb)
      rwa [hx'.β _ (hM.wr b hb)] at this
  have hwr : ∀ b ∈ (s.ws o m S).map (·.1) ++ S.wr, b < S.nb + o.news.length := fun b hb => by
    rcases List.mem_append.1 hb with hb | hb
    · obtain ⟨⟨x, k⟩, hxm, rfl⟩ := List.mem_map.1 hb
      have := (hwrt x k hxm).1
      simp only; omega
    · have := hM.wr b hb; omega
  have hval : (o.val.subst (s.out m S) (s.blk m S)).den c1 = v.den c' := by
    rw [hden _ wval]; exact p3
  have hvok : (o.val.subst (s.out m S) (s.blk m S)).ok (S.nv + o.nr) (S.nb + o.news.length) := SV.ok_subst hfo hgo wval
  have hnwl : (s.nws o m S).length = o.news.length := by simp [Sm.nws]
  have finish : ∀ mem al ln, (∀ b k, mem.get (path b) = some k -> b < S.nb /\ okL (S.nv + o.nr) (S.nb + o.news.length) k.cells /\ blkRep c1 b k w' /\ ∃ k', S.mem.get (path b) = some k') ->
      (∀ b b' k k', mem.get (path b) = some k -> mem.get (path b') = some k' -> c.β b = c.β b' -> b = b' \/ (b ∈ al /\ b' ∈ al)) ->
      (∀ x ∈ ln, x ∈ S.lens /\ (∀ y ∈ s.ws o m S, c.β y.1 ≠ c.β x.1) /\ partAt mem x.1) ->
      r = s.after o m S mem al ln -> ∃ c1, Led X w0 c c1 S r.2 w' r.1 /\ r.1.den c1 = v.den c' := fun mem al ln g1 g2 gl g3 => by
    subst g3
    have oldlt : ∀ b k, mem.get (path b) = some k -> c1.β b = c.β b /\ c.β b < w.heap.size := fun b k hb => by
      obtain ⟨h1, _, _, k', h4⟩ := g1 b k hb
      exact ⟨hx'.β b h1, blkRep_lt (hM.mem b k' h4).2.2⟩
    have hgetm : ∀ b k, (listTr S.nb (s.nws o m S) mem).get (path b) = some k -> (∃ j, b = S.nb + j /\ (s.nws o m S)[j]? = some k) \/ (mem.get (path b) = some k /\ b < S.nb) := fun b k hb => by
      rw [listTr_get] at hb
      split at hb
      · rename_i hi
        exact .inl ⟨b - S.nb, by omega, hb⟩
      · exact .inr ⟨hb, (g1 b k hb).1⟩
    refine ⟨c1, ⟨hx', by simp only [Sm.after]; omega, by simp only [Sm.after]; omega,
      ⟨fun b k hb => ?_, fun b b' k k' hb hb' e => ?_, hwr, fun b h1 h2 => ?_, hframe, Nat.le_trans hM.size hrep.size, hcons, hbd, hrep.os.trans hM.os, hrep.out.trans hM.out, hrep.tape.trans hM.tape, fun b s' p hb => by simp [Sm.after, Tr.get_nil] at hb, fun x hx => ?_⟩, hvok⟩, hval⟩
    · rcases hgetm b k hb with ⟨j, rfl, hj⟩ | ⟨hb, _⟩
      · obtain ⟨i1, i2, _, i4⟩ := hnews j k hj
        exact ⟨by simp only [Sm.after]; omega, i1, i2⟩
      · obtain ⟨i1, i2, i3, _⟩ := g1 b k hb
        exact ⟨by simp only [Sm.after]; omega, i2, i3⟩
    · rcases hgetm b k hb with ⟨j, rfl, hj⟩ | ⟨hb, hlt⟩ <;> rcases hgetm b' k' hb' with ⟨j', rfl, hj'⟩ | ⟨hb', hlt'⟩
      · by_cases hjj : j = j'
        · exact .inl (by rw [hjj])
        · exfalso
          simp only [Sm.nws, substLF_eq, List.getElem?_map, Option.map_eq_some_iff] at hj hj'
          obtain ⟨k0, hk0, _⟩ := hj
          obtain ⟨k0', hk0', _⟩ := hj'
          obtain ⟨a1, a2, a3, ka, a4, _⟩ := hnb j k0 hk0
          obtain ⟨b1, b2, b3, kb, b4, _⟩ := hnb j' k0' hk0'
          have ee : c'.β (mg (s.mem.length + j)).1 = c'.β (mg (s.mem.length + j')).1 := by
            have h1 : ¬ (S.nb + j < S.nb) := by omega
            have h2 : ¬ (S.nb + j' < S.nb) := by omega
            have e1 : s.mem.length + (S.nb + j - S.nb) = s.mem.length + j := by omega
            have e2 : s.mem.length + (S.nb + j' - S.nb) = s.mem.length + j' := by omega
            simp only [c1, if_neg h1, if_neg h2, e1, e2, cs, Ctx.sub] at e
            exact e
          rcases hrep.inj _ _ _ _ a4 b4 ee with h | h
          · exact a3 j' k0' hk0' (fun h => hjj h.symm) h
          · exact a2 h.1
      · exfalso
        have h1 := (hnews j k hj).2.2.1
        obtain ⟨h2, h3⟩ := oldlt b' k' hb'
        rw [h2] at e; omega
      · exfalso
        have h1 := (hnews j' k' hj').2.2.1
        obtain ⟨h2, h3⟩ := oldlt b k hb
        rw [h2] at e; omega
      · have h1 := (oldlt b k hb).1
        have h2 := (oldlt b' k' hb').1
        rw [h1, h2] at e
        exact g2 b b' k k' hb hb' e
    · simp only [Sm.after] at h2
      by_cases hlt : b < S.nb
      · rw [hx'.β b hlt]; exact hM.new b h1 hlt
      · have hj : b - S.nb < o.news.length := by omega
        have := (hnews (b - S.nb) ((s.nws o m S)[b - S.nb]'(by rw [hnwl]; exact hj)) (by simp)).2.2.1
        rw [show S.nb + (b - S.nb) = b by omega] at this
        exact Nat.le_trans hM.size this
    · obtain ⟨q1, q2, k, q3, q4⟩ := gl x hx
      obtain ⟨z1, z2, _, z4⟩ := hM.lens x q1
      refine ⟨by simp only [Sm.after]; omega, by simp only [Sm.after]; omega, ⟨k, ?_, q4⟩, (z4.ext hx' z1 z2).heap ?_⟩
      · simp only [Sm.after]
        rw [listTr_get, if_neg (by omega)]; exact q3
      · rw [hx'.β _ z1]
        exact hsame _ z4.lt q2
  unfold Sm.one at hone
  split at hone
  · rename_i hfil
    simp only [Option.some.injEq] at hone
    have hno : ∀ y ∈ s.ws o m S, ¬ y.1 ∈ S.al := fun y hy hya => by
      have : y ∈ (s.ws o m S).filter fun x => S.al.contains x.1 := List.mem_filter.2 ⟨hy, by simpa using hya⟩
      rw [hfil] at this; simp at this
    have hget : ∀ b k, (setAll (s.ws o m S) S.mem).get (path b) = some k -> (b, k) ∈ s.ws o m S \/ (S.mem.get (path b) = some k /\ ∀ k', (b, k') ∉ s.ws o m S) := fun b k hb => setAll_get hb
    have hin : ∀ b k, (setAll (s.ws o m S) S.mem).get (path b) = some k -> ∃ k', S.mem.get (path b) = some k' := fun b k hb => by
      rcases hget b k hb with h | h
      · obtain ⟨k', hk', _⟩ := (hwrt b k h).2.1; exact ⟨k', hk'⟩
      · exact ⟨k, h.1⟩
    refine finish _ _ _ (fun b k hb => ?_) (fun b b' k k' hb hb' e => ?_) (fun x hx => ?_) hone.symm
    · rcases hget b k hb with h | ⟨h, hn⟩
      · obtain ⟨i1, ⟨i0, i0', _⟩, i2, i3⟩ := hwrt b k h; exact ⟨i1, i2, i3, i0, i0'⟩
      · obtain ⟨j1, j2, j3⟩ := hold b k h fun y hy e => by
          obtain ⟨_, ⟨k', hk', _⟩, _⟩ := hwrt y.1 y.2 hy
          rcases hM.inj _ _ _ _ hk' h e with h | h
          · exact hn y.2 (h ▸ hy)
          · exact hno y hy h.1
        exact ⟨j1, j2, j3, k, h⟩
    · obtain ⟨j, hj⟩ := hin b k hb
      obtain ⟨j', hj'⟩ := hin b' k' hb'
      exact hM.inj _ _ _ _ hj hj' e
    · obtain ⟨z1, z2, ⟨kz, z3, z3'⟩, z4⟩ := hM.lens x hx
      have hne : ∀ y ∈ s.ws o m S, y.1 ≠ x.1 := fun y hy e => by
        obtain ⟨_, ⟨k', hk', hf⟩, _⟩ := hwrt y.1 y.2 hy
        rw [e, z3] at hk'
        cases hk'
        rw [hf] at z3'; cases z3'
      refine ⟨hx, fun y hy e => ?_, kz, ?_, z3'⟩
      · obtain ⟨_, ⟨k', hk', _⟩, _⟩ := hwrt y.1 y.2 hy
        rcases hM.inj _ _ _ _ hk' z3 e with h | h
        · exact hne y hy h
        · exact hno y hy h.1
      · rw [setAll_get_not fun k hk => hne _ hk rfl]; exact z3
  · rename_i x rest hfil
    split at hone
    case isFalse => cases hone
    rename_i hrest
    simp only [List.all_eq_true, beq_iff_eq] at hrest
    simp only [Option.some.injEq] at hone
    have hal1 : ∀ y ∈ s.ws o m S, y.1 ∈ S.al -> y.1 = x.1 := fun y hy hya => by
      have : y ∈ (s.ws o m S).filter fun x => S.al.contains x.1 := List.mem_filter.2 ⟨hy, by simpa using hya⟩
      rw [hfil] at this
      rcases List.mem_cons.1 this with e | e
      · rw [e]
      · exact hrest y e
    have hget : ∀ b k, (drops x.1 (setAll (s.ws o m S) S.mem) S.al).get (path b) = some k -> ((b, k) ∈ s.ws o m S \/ (S.mem.get (path b) = some k /\ ∀ k', (b, k') ∉ s.ws o m S)) /\ (b ∈ S.al -> b = x.1) := fun b k hb => by
      obtain ⟨h1, h2⟩ := drops_get hb
      exact ⟨setAll_get h1, h2⟩
    have hin : ∀ b k, (drops x.1 (setAll (s.ws o m S) S.mem) S.al).get (path b) = some k -> ∃ k', S.mem.get (path b) = some k' := fun b k hb => by
      rcases (hget b k hb).1 with h | h
      · obtain ⟨k', hk', _⟩ := (hwrt b k h).2.1; exact ⟨k', hk'⟩
      · exact ⟨k, h.1⟩
    refine finish _ _ _ (fun b k hb => ?_) (fun b b' k k' hb hb' e => ?_) (fun x hx => ?_) hone.symm
    · obtain ⟨h, ha⟩ := hget b k hb
      rcases h with h | ⟨h, hn⟩
      · obtain ⟨i1, ⟨i0, i0', _⟩, i2, i3⟩ := hwrt b k h; exact ⟨i1, i2, i3, i0, i0'⟩
      · obtain ⟨j1, j2, j3⟩ := hold b k h fun y hy e => by
          obtain ⟨_, ⟨k', hk', _⟩, _⟩ := hwrt y.1 y.2 hy
          rcases hM.inj _ _ _ _ hk' h e with h | h
          · exact hn y.2 (h ▸ hy)
          · have e1 := hal1 y hy h.1
            have e2 := ha h.2
            exact hn y.2 ((e1.trans e2.symm) ▸ hy)
        exact ⟨j1, j2, j3, k, h⟩
    · obtain ⟨j, hj⟩ := hin b k hb
      obtain ⟨j', hj'⟩ := hin b' k' hb'
      rcases hM.inj _ _ _ _ hj hj' e with h | h
      · exact .inl h
      · exact .inl (((hget b k hb).2 h.1).trans ((hget b' k' hb').2 h.2).symm)
    · cases hx
set_option maxHeartbeats 1000000 in
theorem sm_out {s : Sm} {args : List SV} {S : St} {m : Mt} {w0 : Base} {c : Ctx} {w : World} (hI : In X s args S m c w) (hM : MRep X w0 c S w)
    {o : SmO} (hwf : o.wf s = true) {v : SV} {S' : St} {c' : Ctx} {w' : World} (hled : Led X ⟨w, s.mem.length⟩ (c.sub m.f m.g) c' s.start S' w' v)
    {M : Mt} (hMo : s.matchOut o v S' = some M) (hpost : PostOK X o M S') {r : SV × St} (hone : s.one m S o = some r) :
    ∃ c1, Led X w0 c c1 S r.2 w' r.1 /\ r.1.den c1 = v.den c' := by
  unfold Sm.matchOut at hMo
  split at hMo
  · cases hMo
  rename_i m2 hm2
  split at hMo
  · cases hMo
  rename_i m3 hm3
  split at hMo
  · cases hMo
  rename_i m4 hm4
  split at hMo
  case isFalse => cases hMo
  rename_i hchk'
  simp only [Option.some.injEq] at hMo
  subst hMo
  simp only [Bool.and_eq_true, List.all_eq_true, Bool.or_eq_true, decide_eq_true_eq, List.any_eq_true, beq_iff_eq] at hchk'
  obtain ⟨⟨hbds', hwrs⟩, hnewchk⟩ := hchk'
  obtain ⟨p1, _, p3⟩ := matchSV_spec hm2
  obtain ⟨q1, q2⟩ := matchWr_spec hm3
  obtain ⟨n1, _, n3⟩ := matchMem_spec hm4
  have hid : s.idm.Le m4 := (p1.trans q1).trans n1
  have hfid : ∀ i, i < s.nv -> m4.f i = .var i := fun i hi => by
    have : s.idm.σ.get (path i) = some (.var i) := by
      simp only [Sm.idm, listTr_get, Nat.zero_le, List.length_map, List.length_range, Nat.zero_add, true_and, Nat.sub_zero]
      rw [if_pos hi]; simp [hi]
    simp [Mt.f, hid.σ i _ this]
  have hgid : ∀ b, b < s.mem.length -> m4.g b = (b, 0, none) := fun b hb => by
    have : s.idm.θ.get (path b) = some (b, 0, none) := by
      simp only [Sm.idm, listTr_get, Nat.zero_le, List.length_map, List.length_range, Nat.zero_add, true_and, Nat.sub_zero]
      rw [if_pos hb]; simp [hb]
    simp [Mt.g, hid.θ b _ this]
  refine sm_core (mf := m4.f) (mg := m4.g) hI hM hwf hled.rep (fun b hb => hled.ext.β b hb) (fun b hb => hled.ext.o b hb) (fun b hb => hled.ext.κ b hb) (fun i hi => ?_) hgid (p3 c' m4 (q1.trans n1)) (fun x hx => ?_) (fun j k hk => ?_) (fun i r hr => ?_)
    hwrs (fun j k hk => ?_) (hpost c'.ρ hled.rep.bd (fun k hk => (hled.rep.cons k hk).2)) hone
  · rw [hfid i hi]; exact hled.ext.ρ i hi
  · obtain ⟨k', k, e1, e2, e3, e4, e4', e5⟩ := q2 x hx
    exact ⟨k', k, e1, e2, e3, e4, e4', e5 c' m4 n1⟩
  · obtain ⟨x, k', g1, g2, g3, g4, g5⟩ := n3 j k hk
    have hg : m4.g (s.mem.length + j) = x := by simp [Mt.g, g1]
    exact ⟨k', by rw [hg]; exact g2, g5 c' m4 w' (Mt.Le.refl _) (hled.rep.mem _ _ g2).2.2⟩
  · have := allIdx_get hbds' i r hr
    simp only [Nat.zero_add] at this
    exact inBd_spec hled.rep.bd this
  · have h0 := allIdx_get hnewchk.1 j k hk
    simp only [Nat.zero_add, Bool.and_eq_true, decide_eq_true_eq, Bool.not_eq_true'] at h0
    obtain ⟨h1, h2⟩ := h0
    refine ⟨h1, by simpa using h2, fun i k' hi hij e => ?_⟩
    exact hij ((distT_spec hnewchk.2).2 i j (List.getElem?_eq_some_iff.1 hi).1 (List.getElem?_eq_some_iff.1 hk).1 e.symm)
theorem splitB_mem {w0 : Base} {c c' : Ctx} {S S' : St} {w' : World} {v : SV} : ∀ {ls : List (SV × St)}, (v, S') ∈ ls -> Led X w0 c c' S S' w' v ->
    ∃ v1 S1, (v1, S1) ∈ splitB ls /\ Led X w0 c c' S S1 w' v1 /\ v1.den c' = v.den c'
  | [], h, _ => by simp at h
  | (u, Z) :: l, h, hl => by
    have here : ∀ {v1 S1}, (v1, S1) ∈ splitB l -> (v1, S1) ∈ splitB ((u, Z) :: l) := fun {v1 S1} h => by
      unfold splitB
      split <;> rename_i he <;> simp only [List.cons.injEq, reduceCtorEq] at he
      · obtain ⟨_, rfl⟩ := he
        exact List.mem_cons_of_mem _ (List.mem_cons_of_mem _ h)
      · obtain ⟨_, rfl⟩ := he
        exact List.mem_cons_of_mem _ h
    rcases List.mem_cons.1 h with e | e
    · simp only [Prod.mk.injEq] at e
      obtain ⟨rfl, rfl⟩ := e
      by_cases hb : ∃ e, v = .bexp e
      · obtain ⟨e, rfl⟩ := hb
        have hM' : ∀ b, e.eval c'.ρ = b -> Led X w0 c c' S { S' with cons := .test e b :: S'.cons } w' (.bool b) := fun b hb =>
          ⟨hl.ext, hl.nv, hl.nb, hl.rep.more (ks := [.test e b]) (Nat.le_refl _) (Ext.refl _ _ _) (by
            intro k hk
            simp only [List.mem_singleton] at hk
            subst hk
            exact ⟨hl.ok, hb⟩) hl.rep.bd, trivial⟩
        cases hval : e.eval c'.ρ with
        | true => exact ⟨.bool true, _, by simp [splitB], hM' true hval, by simp only [SV.den, hval]⟩
        | false => exact ⟨.bool false, _, by simp [splitB], hM' false hval, by simp only [SV.den, hval]⟩
      · refine ⟨v, S', ?_, hl, rfl⟩
        unfold splitB
        split <;> rename_i he <;> simp only [List.cons.injEq, reduceCtorEq, Prod.mk.injEq] at he
        · exact absurd ⟨_, he.1.1⟩ hb
        · obtain ⟨rfl, rfl⟩ := he
          exact List.mem_cons_self
    · obtain ⟨v1, S1, g1, g2, g3⟩ := splitB_mem e hl
      exact ⟨v1, S1, here g1, g2, g3⟩
theorem optMap_mem {α β : Type} {f : α -> Option β} : ∀ {l : List α} {r : List β}, optMap f l = some r -> ∀ x ∈ l, ∃ y ∈ r, f x = some y
  | [], r, h, x, hx => by simp at hx
  | a :: l, r, h, x, hx => by
    simp only [optMap] at h
    split at h
    · rename_i y ys hy hys
      simp only [Option.some.injEq] at h
      subst h
      rcases List.mem_cons.1 hx with rfl | hx
      · exact ⟨y, by simp, hy⟩
      · obtain ⟨z, h1, h2⟩ := optMap_mem hys x hx
        exact ⟨z, by simp [h1], h2⟩
    · cases h
theorem Sm.wf_spec {s : Sm} (h : s.wf = true) : okL s.nv s.mem.length s.args /\ (∀ k ∈ s.mem, okbL s.nv s.mem.length k.cells = true) /\ ∀ o ∈ s.outs, o.wf s = true := by
  simp only [Sm.wf, okbLF_eq, Bool.and_eq_true, List.all_eq_true] at h
  exact ⟨okL_of h.1.1, h.1.2, h.2⟩
theorem sum_sound (hE : EnvOK P X E) {f : FuncId} {n : Nat} {s : Sm} {ls : List (SV × St)} (hwf : s.wf = true) (hrun : execCall E n f s.args s.start = some ls)
    (hout : ∀ v S', (v, S') ∈ splitB ls -> ∃ o ∈ s.outs, ∃ M, s.matchOut o v S' = some M /\ PostOK X o M S') : SpecOK P X f s.spec := by
  intro args S ls' h w0 c w hM hargs R hR
  obtain ⟨wargs, wmem, wouts⟩ := Sm.wf_spec hwf
  unfold Sm.spec at h
  split at h
  · cases h
  rename_i m hm
  have hI := sm_in hm wmem hM hargs
  obtain ⟨hFn, hcalls⟩ := call_sound hE n f s.args s.start ls hrun ⟨w, s.mem.length⟩ _ w hI.start wargs
  rw [hI.args] at hcalls
  refine hcalls R fun v0 S0 hmem0 c' w' hled0 => ?_
  obtain ⟨v, S', hmem, hled, hv0⟩ := splitB_mem hmem0 hled0
  rw [<- hv0]
  obtain ⟨o, ho, M, hMo, hpost⟩ := hout v S' hmem
  obtain ⟨r, hr, hone⟩ := optMap_mem h o ho
  obtain ⟨c1, h1, h2⟩ := sm_out hI hM (wouts o ho) hled hMo hpost hone
  have := hR r.1 r.2 hr c1 w' h1
  rw [h2] at this
  exact this
end
section
variable {P : Program} {X : Tk} {E : Env}
def LoopSp (P : Program) (X : Tk) (b : Code) (sp : Bs) : Prop :=
  ∀ S ls, sp S = some ls -> ∀ w0 c a w, TRep c S.tmps S.nt S.nv S.nb a -> MRep X w0 c S w ->
    ∀ Q, (∀ o S', (o, S') ∈ ls -> ∀ c' a' w', Ext S.nv S.nb c c' -> S.nv <= S'.nv -> S.nb <= S'.nb -> TRep c' S'.tmps S'.nt S'.nv S'.nb a' -> MRep X w0 c' S' w' -> Q o.toExit a' w') -> LoopWp P b Q a w
theorem optMap_get {α β : Type} {f : α -> Option β} : ∀ {l : List α} {r : List β}, optMap f l = some r -> r.length = l.length /\ ∀ (i : Nat) x, l[i]? = some x -> ∃ y, r[i]? = some y /\ f x = some y
  | [], r, h => by simp only [optMap, Option.some.injEq] at h; subst h; exact ⟨rfl, fun i x hx => by simp at hx⟩
  | a :: l, r, h => by
    simp only [optMap] at h
    split at h
    · rename_i y ys hy hys
      simp only [Option.some.injEq] at h
      subst h
      obtain ⟨h1, h2⟩ := optMap_get hys
      refine ⟨by simp [h1], fun i x hx => ?_⟩
      cases i with
      | zero =>
        simp only [List.getElem?_cons_zero, Option.some.injEq] at hx
        subst hx
        exact ⟨y, by simp, hy⟩
      | succ i =>
        obtain ⟨z, g1, g2⟩ := h2 i x (by simpa using hx)
        exact ⟨z, by simpa using g1, g2⟩
    · cases h
theorem tmpsTr_get : ∀ {ts : List Tmp} {vs : List SV} {r : Tr SV} {x : Nat} {v : SV}, (tmpsTr ts vs r).get (path x) = some v ->
    (∃ i : Nat, ts[i]? = some x /\ vs[i]? = some v) \/ r.get (path x) = some v
  | [], _, _, _, _, h => .inr h
  | _ :: _, [], _, _, _, h => .inr h
  | t :: ts, u :: vs, r, x, v, h => by
    simp only [tmpsTr] at h
    rcases tmpsTr_get h with ⟨i, h1, h2⟩ | h
    · exact .inl ⟨i + 1, by simpa using h1, by simpa using h2⟩
    · rw [Tr.get_set] at h
      split at h
      · rename_i hx
        simp only [Option.some.injEq] at h
        exact .inl ⟨0, by simp [hx], by simp [h]⟩
      · exact .inr h
theorem backs_get {S : St} : ∀ {ks : List (Out × List Tmp)} {rs : List (SV × St)} {ls : List (Out × St)}, backs S ks rs = some ls ->
    rs.length = ks.length /\ ∀ (i : Nat) k r, ks[i]? = some k -> rs[i]? = some r -> ∃ z ∈ ls, CSm.back S k r = some z
  | [], [], ls, h => ⟨rfl, fun i k r hk => by simp at hk⟩
  | x :: xs, r :: rs, ls, h => by
    simp only [backs] at h
    split at h
    · rename_i a b ha hb
      simp only [Option.some.injEq] at h
      subst h
      obtain ⟨h1, h2⟩ := backs_get hb
      refine ⟨by simp [h1], fun i k r' hk hr => ?_⟩
      cases i with
      | zero =>
        simp only [List.getElem?_cons_zero, Option.some.injEq] at hk hr
        subst hk; subst hr
        exact ⟨a, by simp, ha⟩
      | succ i =>
        obtain ⟨z, g1, g2⟩ := h2 i k r' (by simpa using hk) (by simpa using hr)
        exact ⟨z, by simp [g1], g2⟩
    · cases h
  | [], _ :: _, ls, h => by simp [backs] at h
  | _ :: _, [], ls, h => by simp [backs] at h
theorem csm_fit_m {s : CSm} {S : St} {ls : List (Out × St)} (h : s.spec S = some ls) (hwf : s.core.wf = true) {w0 : Base} {c : Ctx} {a : Act} {w : World} (hT : TRep c S.tmps S.nt S.nv S.nb a) (hM : MRep X w0 c S w) :
    ∃ args m, optMap (fun t => S.tmps.get (path t)) s.tin = some args /\ s.core.matchIn args { S with tmps := .nil, nt := 0 } = some m /\ (∀ i, i < s.core.nv -> (m.f i).ok S.nv) /\ TRep (c.sub m.f m.g) s.start.tmps s.start.nt s.start.nv s.start.nb a /\ MRep X ⟨w, s.core.mem.length⟩ (c.sub m.f m.g) s.start w /\
      ∀ (i : Nat) kd o, s.kinds[i]? = some kd -> s.core.outs[i]? = some o -> ∀ (S' : St) v c' a' w', CSm.outVal kd S' = some v -> Ext s.core.nv s.core.mem.length (c.sub m.f m.g) c' -> s.core.nv <= S'.nv -> s.core.mem.length <= S'.nb ->
        TRep c' S'.tmps S'.nt S'.nv S'.nb a' -> S'.nt = s.nt -> MRep X ⟨w, s.core.mem.length⟩ c' S' w' -> ∀ M, s.core.matchOut o v S' = some M -> PostOK X o M S' ->
        ∃ S'', (kd.1, S'') ∈ ls /\ ∃ c'', Ext S.nv S.nb c c'' /\ S.nv <= S''.nv /\ S.nb <= S''.nb /\ TRep c'' S''.tmps S''.nt S''.nv S''.nb a' /\ MRep X w0 c'' S'' w' := by
  obtain ⟨wargs, wmem, wouts⟩ := Sm.wf_spec hwf
  unfold CSm.spec at h
  split at h
  case isFalse => cases h
  rename_i hnt
  have hnt' := beq_iff_eq.1 hnt
  split at h
  · rename_i args hargs
    split at h
    · rename_i rs hrs
      unfold Sm.spec at hrs
      split at hrs
      · cases hrs
      rename_i m hm
      obtain ⟨al, ag⟩ := optMap_get hargs
      have hM0 : MRep X w0 c { S with tmps := .nil, nt := 0 } w := hM.tmps_irrel _ _
      have hok : okL S.nv S.nb args := (okL_iff _ _ _).2 fun v hv => by
        obtain ⟨i, hi⟩ := List.mem_iff_getElem?.1 hv
        have hlt : i < s.tin.length := by rw [<- al]; exact (List.getElem?_eq_some_iff.1 hi).1
        obtain ⟨y, g1, g2⟩ := ag i s.tin[i] (by simp)
        rw [hi] at g1
        simp only [Option.some.injEq] at g1
        subst g1
        exact (hT.tmps _ _ g2).2
      have hI := sm_in hm wmem hM0 hok
      refine ⟨args, m, hargs, hm, hI.σ, ⟨hT.defers, by rw [hT.size, hnt']; rfl, fun t v hv => ?_⟩, hI.start.tmps_irrel _ _, fun i kd o hk ho S' v c' a' w' hv hx hnv hnb hT' hnt2 hM' M hMo hpost => ?_⟩
      · rcases tmpsTr_get hv with ⟨i, h1, h2⟩ | h
        · obtain ⟨y, g1, g2⟩ := ag i t h1
          obtain ⟨k1, k2⟩ := hT.tmps t y g2
          have e := congrArg (·[i]?) hI.args
          simp only [denL_map, List.getElem?_map, h2, g1, Option.map_some, Option.some.injEq] at e
          exact ⟨by rw [k1, e], okL_get wargs h2⟩
        · simp [Tr.get_nil] at h
      · have hvm : ∃ us, optMap (fun t => S'.tmps.get (path t)) kd.2 = some us /\ v = .tup us := by
          unfold CSm.outVal at hv
          simp only [Option.map_eq_some_iff] at hv
          obtain ⟨us, h1, rfl⟩ := hv
          exact ⟨us, h1, rfl⟩
        obtain ⟨us, hus, rfl⟩ := hvm
        obtain ⟨ul, ug⟩ := optMap_get hus
        have huok : okL S'.nv S'.nb us := (okL_iff _ _ _).2 fun u hu => by
          obtain ⟨j, hj⟩ := List.mem_iff_getElem?.1 hu
          have hlt : j < kd.2.length := by rw [<- ul]; exact (List.getElem?_eq_some_iff.1 hj).1
          obtain ⟨y, g1, g2⟩ := ug j kd.2[j] (by simp)
          rw [hj] at g1
          simp only [Option.some.injEq] at g1
          subst g1
          exact (hT'.tmps _ _ g2).2
        obtain ⟨rl, rg⟩ := optMap_get hrs
        obtain ⟨r, hr1, hr2⟩ := rg i o ho
        obtain ⟨c1, hl, hd⟩ := sm_out hI hM0 (wouts o (List.mem_of_getElem? ho)) (v := .tup us) (S' := S') (c' := c') (w' := w') ⟨hx, hnv, hnb, hM', huok⟩ hMo hpost hr2
        obtain ⟨bl, bg⟩ := backs_get h
        obtain ⟨z, hz1, hz2⟩ := bg i kd r hk hr1
        unfold CSm.back at hz2
        split at hz2
        · rename_i vs hvs
          split at hz2
          · rename_i hlen
            have hlen' := beq_iff_eq.1 hlen
            simp only [Option.some.injEq] at hz2
            subst hz2
            rw [hvs] at hd
            simp only [SV.den, Value.tuple.injEq] at hd
            have hd' : denL c1 vs = denL c' us := by simpa using hd
            refine ⟨_, hz1, c1, hl.ext, hl.nv, hl.nb, ⟨hT'.defers, by rw [hT'.size, hnt2, <- hnt'], fun t u hu => ?_⟩, hl.rep.tmps_irrel _ _⟩
            rcases tmpsTr_get hu with ⟨j, h1, h2⟩ | h
            · obtain ⟨y, g1, g2⟩ := ug j t h1
              have e := congrArg (·[j]?) hd'
              simp only [denL_map, List.getElem?_map, h2, g1, Option.map_some, Option.some.injEq] at e
              obtain ⟨k1, k2⟩ := hT'.tmps t y g2
              refine ⟨by rw [k1, e], ?_⟩
              have := hl.ok
              rw [hvs] at this
              exact okL_get (show okL _ _ vs from this) h2
            · simp [Tr.get_nil] at h
          · cases hz2
        · cases hz2
    · cases h
  · cases h
def EndOK (X : Tk) (s : CSm) (o : Out) (S' : St) : Prop :=
  ∃ (i : Nat) (kd : Out × List Tmp) (out : SmO) (v : SV) (M : Mt), s.kinds[i]? = some kd /\ s.core.outs[i]? = some out /\ kd.1 = o /\ CSm.outVal kd S' = some v /\ S'.nt = s.nt /\ s.core.matchOut out v S' = some M /\ PostOK X out M S'
theorem code_sum (hE : EnvOK P X E) {n : Nat} {B : BSp} {k : Code} {s : CSm} {ls : List (Out × St)} (hB : BOK P X B k) (hwf : s.core.wf = true) (hrun : exec E n B k s.start = some ls)
    (hout : ∀ o S', (o, S') ∈ ls -> EndOK X s o S') : CodeSp P X k s.spec := by
  intro S ls' h w0 c a w hT hM Q hQ
  obtain ⟨_, m, _, _, _, hT0, hM0, hfit⟩ := csm_fit_m h hwf hT hM
  refine CodeWp.wp (code_sound hE n B k s.start ls hrun hB _ _ a w hT0 hM0 Q fun o S' hm c' a' w' hx hnv hnb hT' hM' => ?_)
  obtain ⟨i, kd, out, v, M, k1, k2, rfl, k4, k5, k6, k7⟩ := hout o S' hm
  obtain ⟨S'', h1, c'', h2, h3, h4, h5, h6⟩ := hfit i kd out k1 k2 S' v c' a' w' k4 hx hnv hnb hT' k5 hM' M k6 k7
  exact hQ kd.1 S'' h1 c'' a' w' h2 h3 h4 h5 h6
theorem loop_sum (hE : EnvOK P X E) {n : Nat} {B : BSp} {b : Code} {s : CSm} {ls : List (Out × St)} (hB : BOK P X B b) (hwf : s.core.wf = true) (hrun : exec E n B b s.start = some ls)
    (μ : (Nat -> Int) -> Nat) (hμ : ∀ (ρ ρ' : Nat -> Int), (∀ i, i < s.core.nv -> ρ i = ρ' i) -> μ ρ = μ ρ')
    (hout : ∀ o S', (o, S') ∈ ls -> match o with
      | .normal => ∃ ls', s.spec S' = some ls' /\ (∀ o' S'', (o', S'') ∈ ls' -> EndOK X s o' S'') /\
          ∀ args m, optMap (fun t => S'.tmps.get (path t)) s.tin = some args -> s.core.matchIn args { S' with tmps := .nil, nt := 0 } = some m ->
            ∀ ρ, BdOK ρ S'.bd S'.nv -> (∀ k ∈ S'.cons, k.holds X ρ) -> μ (fun i => (m.f i).eval ρ) < μ ρ
      | o => EndOK X s o S') : LoopSp P X b s.spec := by
  have key : ∀ (N : Nat), ∀ S ls', s.spec S = some ls' -> ∀ w0 c a w, TRep c S.tmps S.nt S.nv S.nb a -> MRep X w0 c S w ->
      (∀ args m, optMap (fun t => S.tmps.get (path t)) s.tin = some args -> s.core.matchIn args { S with tmps := .nil, nt := 0 } = some m -> μ (fun i => (m.f i).eval c.ρ) < N) ->
      ∀ Q, (∀ o S', (o, S') ∈ ls' -> ∀ c' a' w', Ext S.nv S.nb c c' -> S.nv <= S'.nv -> S.nb <= S'.nb -> TRep c' S'.tmps S'.nt S'.nv S'.nb a' -> MRep X w0 c' S' w' -> Q o.toExit a' w') -> LoopWp P b Q a w := by
    intro N
    induction N with
    | zero =>
      intro S ls' h w0 c a w hT hM hN Q hQ
      exfalso
      unfold CSm.spec at h
      split at h
      · split at h
        · rename_i args hargs
          split at h
          · rename_i rs hrs
            unfold Sm.spec at hrs
            split at hrs
            · cases hrs
            · rename_i m hm
              have := hN args m hargs hm
              omega
          · cases h
        · cases h
      · cases h
    | succ N ih =>
      intro S ls' h w0 c a w hT hM hN Q hQ
      have hfit0 := csm_fit_m h hwf hT hM
      obtain ⟨args, m, hargs, hm, hσ, hT0, hM0, hfit⟩ := hfit0
      have hmu := hN args m hargs hm
      refine LoopWp.round (CodeWp.wp (code_sound hE n B b s.start ls hrun hB _ _ a w hT0 hM0 _ fun o S' hmem c' a' w' hx hnv hnb hT' hM' => ?_))
      have fin : ∀ (o : Out) (S'' : St) c'' a'' w'', EndOK X s o S'' -> Ext s.core.nv s.core.mem.length (c.sub m.f m.g) c'' -> s.core.nv <= S''.nv -> s.core.mem.length <= S''.nb ->
          TRep c'' S''.tmps S''.nt S''.nv S''.nb a'' -> MRep X ⟨w, s.core.mem.length⟩ c'' S'' w'' -> Q o.toExit a'' w'' := by
        intro o S'' c'' a'' w'' he hx hnv hnb hT' hM'
        obtain ⟨i, kd, out, v, M, k1, k2, rfl, k4, k5, k6, k7⟩ := he
        obtain ⟨S3, h1, c3, h2, h3, h4, h5, h6⟩ := hfit i kd out k1 k2 S'' v c'' a'' w'' k4 hx hnv hnb hT' k5 hM' M k6 k7
        exact hQ kd.1 S3 h1 c3 a'' w'' h2 h3 h4 h5 h6
      have ho := hout o S' hmem
      cases o with
      | normal =>
        obtain ⟨ls2, hls2, hends, hdec⟩ := ho
        refine ih S' ls2 hls2 _ c' a' w' hT' hM' (fun args' m' ha' hm' => ?_) Q fun o'' S'' hm'' c'' a'' w'' hx' hnv' hnb' hT'' hM'' => ?_
        · have := hdec args' m' ha' hm' c'.ρ hM'.bd (fun k hk => (hM'.cons k hk).2)
          have e : μ c'.ρ = μ (fun i => (m.f i).eval c.ρ) := hμ _ _ fun i hi => hx.ρ i hi
          omega
        · exact fin o'' S'' c'' a'' w'' (hends o'' S'' hm'') (hx.trans hx' hnv hnb) (Nat.le_trans hnv hnv') (Nat.le_trans hnb hnb') hT'' hM''
      | ret => exact fin .ret S' c' a' w' ho hx hnv hnb hT' hM'
      | exit id => exact fin (.exit id) S' c' a' w' ho hx hnv hnb hT' hM'
  intro S ls' h w0 c a w hT hM Q hQ
  obtain ⟨args, m, hargs, hm, _⟩ := csm_fit_m h hwf hT hM
  refine key (μ (fun i => (m.f i).eval c.ρ) + 1) S ls' h w0 c a w hT hM (fun args' m' ha' hm' => ?_) Q hQ
  rw [hargs] at ha'
  simp only [Option.some.injEq] at ha'
  subst ha'
  rw [hm] at hm'
  simp only [Option.some.injEq] at hm'
  subst hm'
  omega
theorem block_sum {id : Nat} {b : Code} {s : CSm} (h : LoopSp P X b s.spec) : CodeSp P X (.block id (.loop b)) (s.asBlock id).spec := by
  intro S ls hs w0 c a w hT hM Q hQ
  refine wp_block (LoopWp.wp ?_)
  have conv : ∀ {ks : List (Out × List Tmp)} {rs : List (SV × St)} {ls : List (Out × St)},
      backs S (ks.map fun x => (leave id x.1, x.2)) rs = some ls ->
      ∃ ls0, backs S ks rs = some ls0 /\ ∀ o S', (o, S') ∈ ls0 -> (leave id o, S') ∈ ls := by
    intro ks
    induction ks with
    | nil =>
      intro rs ls h
      cases rs with
      | nil => exact ⟨[], rfl, fun o S' h => by simp at h⟩
      | cons r rs => simp [backs] at h
    | cons k ks ih =>
      intro rs ls h
      cases rs with
      | nil => simp [backs] at h
      | cons r rs =>
        simp only [List.map_cons, backs] at h ⊢
        split at h
        · rename_i x y hx hy
          simp only [Option.some.injEq] at h
          subst h
          obtain ⟨ls0, g1, g2⟩ := ih hy
          unfold CSm.back at hx ⊢
          split at hx
          · rename_i vs hvs
            split at hx
            · rename_i hlen
              simp only [Option.some.injEq] at hx
              subst hx
              simp only [hlen, if_true, g1]
              refine ⟨_, rfl, fun o S' hm => ?_⟩
              rcases List.mem_cons.1 hm with e | e
              · simp only [Prod.mk.injEq] at e
                obtain ⟨rfl, rfl⟩ := e
                exact List.mem_cons_self
              · exact List.mem_cons_of_mem _ (g2 o S' e)
            · cases hx
          · cases hx
        · cases h
  have hs' : ∃ ls0, s.spec S = some ls0 /\ ∀ o S', (o, S') ∈ ls0 -> (leave id o, S') ∈ ls := by
    unfold CSm.spec CSm.asBlock at *
    split at hs
    · rename_i hnt
      rw [if_pos hnt]
      split at hs
      · rename_i args hargs
        simp only [hargs]
        split at hs
        · rename_i rs hrs
          simp only [hrs]
          exact conv hs
        · cases hs
      · cases hs
    · cases hs
  obtain ⟨ls0, h1, h2⟩ := hs'
  refine h S ls0 h1 w0 c a w hT hM _ fun o S' hm c' a' w' hx hnv hnb hT' hM' => ?_
  have := hQ _ S' (h2 o S' hm) c' a' w' hx hnv hnb hT' hM'
  have e : o.toExit.inBlock id Q a' w' ↔ Q (leave id o).toExit a' w' := by
    cases o with
    | normal => exact Iff.rfl
    | ret => exact Iff.rfl
    | exit i =>
      simp only [Out.toExit, Exit.inBlock, leave]
      by_cases hi : i = id
      · subst hi; simp
      · simp [hi]
  exact e.2 this
end
abbrev Mon := List Nat
abbrev Poly := List (Mon × Int)
def Mon.eval (ρ : Nat -> Int) : Mon -> Int
  | [] => 1
  | i :: m => ρ i * Mon.eval ρ m
def Poly.eval (ρ : Nat -> Int) : Poly -> Int
  | [] => 0
  | (m, a) :: p => a * Mon.eval ρ m + Poly.eval ρ p
def monEq : Mon -> Mon -> Bool
  | [], [] => true
  | i :: m, j :: n => i == j && monEq m n
  | _, _ => false
def monLt : Mon -> Mon -> Bool
  | [], [] => false
  | [], _ :: _ => true
  | _ :: _, [] => false
  | i :: m, j :: n => Nat.blt i j || (i == j && monLt m n)
def padd : Nat -> Poly -> Poly -> Poly
  | 0, p, q => p ++ q
  | _ + 1, [], q => q
  | _ + 1, p, [] => p
  | f + 1, (m, a) :: p, (n, b) :: q =>
    match monEq m n with
    | true => match a + b == 0 with | true => padd f p q | false => (m, a + b) :: padd f p q
    | false => match monLt m n with
      | true => (m, a) :: padd f p ((n, b) :: q)
      | false => (n, b) :: padd f ((m, a) :: p) q
def pscale (k : Int) : Poly -> Poly
  | [] => []
  | (m, a) :: p => (m, k * a) :: pscale k p
def Poly.add (p q : Poly) : Poly := padd (p.length + q.length) p q
def monMul : Nat -> Mon -> Mon -> Mon
  | 0, m, n => m ++ n
  | _ + 1, [], n => n
  | _ + 1, m, [] => m
  | f + 1, i :: m, j :: n => match Nat.blt j i with | true => j :: monMul f (i :: m) n | false => i :: monMul f m (j :: n)
def ptimes (m : Mon) (a : Int) : Poly -> Poly
  | [] => []
  | (n, b) :: p => Poly.add [(monMul (m.length + n.length) m n, a * b)] (ptimes m a p)
def Poly.mul : Poly -> Poly -> Poly
  | [], _ => []
  | (m, a) :: p, q => Poly.add (ptimes m a q) (Poly.mul p q)
def coef (m : Mon) : Poly -> Int
  | [] => 0
  | (n, a) :: p => match monEq m n with | true => a | false => coef m p
def pconst (n : Int) : Poly := match n == 0 with | true => [] | false => [([], n)]
def pvar (i : Nat) : Poly := [([i], 1)]
def pneg (p : Poly) : Poly := pscale (-1) p
def Poly.sub (p q : Poly) : Poly := p.add (pneg q)
def ieP : IE -> Option Poly
  | .const n => some (pconst n)
  | .var i => some (pvar i)
  | .add a b => match ieP a, ieP b with | some p, some q => some (p.add q) | _, _ => none
  | .sub a b => match ieP a, ieP b with | some p, some q => some (p.sub q) | _, _ => none
  | .mul a b => match ieP a, ieP b with | some p, some q => some (p.mul q) | _, _ => none
  | .bin _ _ _ _ | .wrap _ _ | .pick _ _ _ _ => none
def conP : Con -> Option (Nat × Poly)
  | .eq d e => match ieP e with | some p => some (d, (pvar d).sub p) | none => none
  | .add64 s c x y z => match ieP x, ieP y, ieP z with
    | some p, some q, some r => some (s, ((pvar s).add (pscale 18446744073709551616 (pvar c))).sub (p.add (q.add r)))
    | _, _, _ => none
  | .sub64 s c x y z => match ieP x, ieP y, ieP z with
    | some p, some q, some r => some (s, ((pvar s).sub (pscale 18446744073709551616 (pvar c))).sub (p.sub (q.add r)))
    | _, _, _ => none
  | .mul64 h l x y => match ieP x, ieP y with
    | some p, some q => some (l, ((pvar l).add (pscale 18446744073709551616 (pvar h))).sub (p.mul q))
    | _, _ => none
  | _ => none
def reduce : List Con -> Poly -> Poly
  | [], p => p
  | k :: ks, p =>
    match conP k with
    | some (d, q) =>
      let a := coef [d] p
      match a == 0 with
      | true => reduce ks p
      | false => reduce ks (p.add (pscale (-a) q))
    | none => reduce ks p
def allDiv (n : Int) : Poly -> Bool
  | [] => true
  | (_, a) :: p => a % n == 0 && allDiv n p
section
variable {X : Tk} {ρ : Nat -> Int}
theorem monEq_spec : ∀ {m n : Mon}, monEq m n = true -> m = n
  | [], [], _ => rfl
  | [], _ :: _, h => by simp [monEq] at h
  | _ :: _, [], h => by simp [monEq] at h
  | i :: m, j :: n, h => by
    simp only [monEq, Bool.and_eq_true, beq_iff_eq] at h
    rw [h.1, monEq_spec h.2]
theorem Poly.eval_append : ∀ p q : Poly, Poly.eval ρ (p ++ q) = Poly.eval ρ p + Poly.eval ρ q
  | [], q => by simp [Poly.eval]
  | (m, a) :: p, q => by simp only [List.cons_append, Poly.eval, Poly.eval_append p q]; omega
theorem eval_padd : ∀ (f : Nat) (p q : Poly), Poly.eval ρ (padd f p q) = Poly.eval ρ p + Poly.eval ρ q
  | 0, p, q => Poly.eval_append p q
  | _ + 1, [], q => by simp [padd, Poly.eval]
  | _ + 1, (m, a) :: p, [] => by simp [padd, Poly.eval]
  | f + 1, (m, a) :: p, (n, b) :: q => by
    simp only [padd]
    split
    · rename_i h
      have := monEq_spec h
      subst this
      split
      · rename_i h0
        simp only [beq_iff_eq] at h0
        simp only [Poly.eval, eval_padd f p q]
        have : a * Mon.eval ρ m + b * Mon.eval ρ m = 0 := by rw [<- Int.add_mul, h0]; simp
        omega
      · simp only [Poly.eval, eval_padd f p q, Int.add_mul]; omega
    · split
      · simp only [Poly.eval, eval_padd f p]; omega
      · simp only [Poly.eval, eval_padd f _ q]; omega
theorem eval_add (p q : Poly) : Poly.eval ρ (p.add q) = Poly.eval ρ p + Poly.eval ρ q := eval_padd _ p q
theorem eval_scale (k : Int) : ∀ p : Poly, Poly.eval ρ (pscale k p) = k * Poly.eval ρ p
  | [] => by simp [pscale, Poly.eval]
  | (m, a) :: p => by simp only [pscale, Poly.eval, eval_scale k p, Int.mul_add, Int.mul_assoc]
theorem Mon.eval_append : ∀ m n : Mon, Mon.eval ρ (m ++ n) = Mon.eval ρ m * Mon.eval ρ n
  | [], n => by simp [Mon.eval]
  | i :: m, n => by simp only [List.cons_append, Mon.eval, Mon.eval_append m n, Int.mul_assoc]
theorem eval_monMul : ∀ (f : Nat) (m n : Mon), Mon.eval ρ (monMul f m n) = Mon.eval ρ m * Mon.eval ρ n
  | 0, m, n => Mon.eval_append m n
  | _ + 1, [], n => by simp [monMul, Mon.eval]
  | _ + 1, i :: m, [] => by simp [monMul, Mon.eval]
  | f + 1, i :: m, j :: n => by
    simp only [monMul]
    split
    · simp only [Mon.eval, eval_monMul f]
      rw [Int.mul_left_comm]
    · simp only [Mon.eval, eval_monMul f]
      rw [Int.mul_assoc]
theorem eval_times (m : Mon) (a : Int) : ∀ p : Poly, Poly.eval ρ (ptimes m a p) = a * Mon.eval ρ m * Poly.eval ρ p
  | [] => by simp [ptimes, Poly.eval]
  | (n, b) :: p => by
    simp only [ptimes, eval_add, eval_times m a p, Poly.eval, eval_monMul, Int.mul_add]
    have : a * b * (Mon.eval ρ m * Mon.eval ρ n) = a * Mon.eval ρ m * (b * Mon.eval ρ n) := by
      rw [Int.mul_assoc, Int.mul_assoc, Int.mul_left_comm b]
    omega
theorem eval_mul : ∀ p q : Poly, Poly.eval ρ (p.mul q) = Poly.eval ρ p * Poly.eval ρ q
  | [], q => by simp [Poly.mul, Poly.eval]
  | (m, a) :: p, q => by simp only [Poly.mul, eval_add, eval_times, eval_mul p q, Poly.eval, Int.add_mul]
theorem eval_const (n : Int) : Poly.eval ρ (pconst n) = n := by
  unfold pconst
  split
  · rename_i h; simp only [beq_iff_eq] at h; simp [Poly.eval, h]
  · simp [Poly.eval, Mon.eval]
theorem eval_var (i : Nat) : Poly.eval ρ (pvar i) = ρ i := by simp [pvar, Poly.eval, Mon.eval]
theorem eval_sub (p q : Poly) : Poly.eval ρ (p.sub q) = Poly.eval ρ p - Poly.eval ρ q := by
  simp only [Poly.sub, pneg, eval_add, eval_scale]; omega
theorem ieP_spec : ∀ {e : IE} {p : Poly}, ieP e = some p -> Poly.eval ρ p = e.eval ρ
  | .const n, p, h => by simp only [ieP, Option.some.injEq] at h; subst h; exact eval_const n
  | .var i, p, h => by simp only [ieP, Option.some.injEq] at h; subst h; exact eval_var i
  | .add a b, p, h => by
    simp only [ieP] at h
    split at h
    · rename_i q r hq hr; simp only [Option.some.injEq] at h; subst h; rw [eval_add, ieP_spec hq, ieP_spec hr]; rfl
    · cases h
  | .sub a b, p, h => by
    simp only [ieP] at h
    split at h
    · rename_i q r hq hr; simp only [Option.some.injEq] at h; subst h; rw [eval_sub, ieP_spec hq, ieP_spec hr]; rfl
    · cases h
  | .mul a b, p, h => by
    simp only [ieP] at h
    split at h
    · rename_i q r hq hr; simp only [Option.some.injEq] at h; subst h; rw [eval_mul, ieP_spec hq, ieP_spec hr]; rfl
    · cases h
  | .bin _ _ _ _, p, h => by simp [ieP] at h
  | .wrap _ _, p, h => by simp [ieP] at h
  | .pick _ _ _ _, p, h => by simp [ieP] at h
theorem conP_spec {k : Con} {d : Nat} {p : Poly} (h : conP k = some (d, p)) (hk : k.holds X ρ) : Poly.eval ρ p = 0 := by
  cases k with
  | eq d e =>
    simp only [conP] at h
    split at h
    · rename_i q hq
      simp only [Option.some.injEq, Prod.mk.injEq] at h
      obtain ⟨rfl, rfl⟩ := h
      simp only [Con.holds] at hk
      rw [eval_sub, eval_var, ieP_spec hq, hk]; omega
    · cases h
  | add64 s c x y z =>
    simp only [conP] at h
    split at h
    · rename_i q r t hq hr ht
      simp only [Option.some.injEq, Prod.mk.injEq] at h
      obtain ⟨rfl, rfl⟩ := h
      simp only [Con.holds] at hk
      simp only [eval_sub, eval_add, eval_scale, eval_var, ieP_spec hq, ieP_spec hr, ieP_spec ht]
      omega
    · cases h
  | sub64 s c x y z =>
    simp only [conP] at h
    split at h
    · rename_i q r t hq hr ht
      simp only [Option.some.injEq, Prod.mk.injEq] at h
      obtain ⟨rfl, rfl⟩ := h
      simp only [Con.holds] at hk
      simp only [eval_sub, eval_add, eval_scale, eval_var, ieP_spec hq, ieP_spec hr, ieP_spec ht]
      omega
    · cases h
  | mul64 hi lo x y =>
    simp only [conP] at h
    split at h
    · rename_i q r hq hr
      simp only [Option.some.injEq, Prod.mk.injEq] at h
      obtain ⟨rfl, rfl⟩ := h
      simp only [Con.holds] at hk
      simp only [eval_sub, eval_add, eval_scale, eval_var, eval_mul, ieP_spec hq, ieP_spec hr]
      omega
    · cases h
  | test e b => simp [conP] at h
  | ext t l => simp [conP] at h
theorem reduce_spec : ∀ {ks : List Con} {p : Poly}, (∀ k ∈ ks, k.holds X ρ) -> Poly.eval ρ (reduce ks p) = Poly.eval ρ p
  | [], p, _ => rfl
  | k :: ks, p, h => by
    have ih := fun q => reduce_spec (ks := ks) (p := q) fun k hk => h k (List.mem_cons_of_mem _ hk)
    simp only [reduce]
    split
    · rename_i d q hq
      split
      · exact ih _
      · rw [ih, eval_add, eval_scale, conP_spec hq (h k List.mem_cons_self)]; omega
    · exact ih _
theorem allDiv_spec {n : Int} : ∀ {p : Poly}, allDiv n p = true -> ∃ q, Poly.eval ρ p = n * q
  | [], _ => ⟨0, by simp [Poly.eval]⟩
  | (m, a) :: p, h => by
    simp only [allDiv, Bool.and_eq_true, beq_iff_eq] at h
    obtain ⟨q, hq⟩ := allDiv_spec h.2
    refine ⟨a / n * Mon.eval ρ m + q, ?_⟩
    simp only [Poly.eval, hq, Int.mul_add]
    have : a = n * (a / n) := by
      have := Int.mul_ediv_add_emod a n
      omega
    rw [<- Int.mul_assoc, <- this]
theorem reduce_zero {ks : List Con} {p : Poly} (h : ∀ k ∈ ks, k.holds X ρ) (hr : (match reduce ks p with | [] => true | _ => false) = true) : Poly.eval ρ p = 0 := by
  rw [<- reduce_spec h]
  split at hr
  · rename_i he; rw [he]; rfl
  · cases hr
theorem reduce_low {ks : List Con} {i : Nat} (h : ∀ k ∈ ks, k.holds X ρ) (hr : allDiv 18446744073709551616 (reduce ks (pvar i)) = true) (h0 : 0 <= ρ i) (h1 : ρ i < 18446744073709551616) : ρ i = 0 := by
  obtain ⟨q, hq⟩ := allDiv_spec (ρ := ρ) hr
  rw [reduce_spec h, eval_var] at hq
  omega
end
theorem wrap64 {x : Int} (h0 : 0 <= x) (h1 : x < 18446744073709551616) : IntKind.u64.wrap x = x :=
  wrap_of_range (by show (0 : Int) <= x; exact h0) (by show x <= 2 ^ 64 - 1; omega)
theorem and_ones (x : Int) (h0 : 0 <= x) (h1 : x < 18446744073709551616) : intBin .and .u64 18446744073709551615 x = x := by
  have e : (BitVec.ofInt 64 18446744073709551615 &&& BitVec.ofInt 64 x) = BitVec.ofInt 64 x := by
    have : BitVec.ofInt 64 18446744073709551615 = BitVec.allOnes 64 := by decide
    rw [this, BitVec.allOnes_and]
  show IntKind.u64.wrap ((BitVec.ofInt 64 18446744073709551615 &&& BitVec.ofInt 64 x).toNat : Int) = x
  rw [e, ofInt_toNat h0 (by simpa using h1), wrap64 h0 h1]
theorem and_zero (x : Int) : intBin .and .u64 0 x = 0 := by
  show IntKind.u64.wrap ((BitVec.ofInt 64 0 &&& BitVec.ofInt 64 x).toNat : Int) = 0
  have : BitVec.ofInt 64 0 = 0#64 := rfl
  rw [this, BitVec.zero_and]; rfl
theorem or_zero (x : Int) (h0 : 0 <= x) (h1 : x < 18446744073709551616) : intBin .or .u64 x 0 = x := by
  show IntKind.u64.wrap ((BitVec.ofInt 64 x ||| BitVec.ofInt 64 0).toNat : Int) = x
  have : BitVec.ofInt 64 0 = 0#64 := rfl
  rw [this, BitVec.or_zero, ofInt_toNat h0 (by simpa using h1), wrap64 h0 h1]
theorem zero_or (x : Int) (h0 : 0 <= x) (h1 : x < 18446744073709551616) : intBin .or .u64 0 x = x := by
  show IntKind.u64.wrap ((BitVec.ofInt 64 0 ||| BitVec.ofInt 64 x).toNat : Int) = x
  have : BitVec.ofInt 64 0 = 0#64 := rfl
  rw [this, BitVec.zero_or, ofInt_toNat h0 (by simpa using h1), wrap64 h0 h1]
theorem cmov (b x y : Int) (hb : b = 0 \/ b = 1) (hx : 0 <= x /\ x < 18446744073709551616) (hy : 0 <= y /\ y < 18446744073709551616) :
    intBin .or .u64 (intBin .and .u64 (b * 18446744073709551615) x) (intBin .and .u64 (intBin .xor .u64 18446744073709551615 (b * 18446744073709551615)) y) = if b = 1 then x else y := by
  rcases hb with rfl | rfl
  · have e : intBin .xor .u64 18446744073709551615 (0 * 18446744073709551615) = 18446744073709551615 := by decide
    rw [e, Int.zero_mul, and_zero, and_ones y hy.1 hy.2, zero_or y hy.1 hy.2]; rfl
  · have e : intBin .xor .u64 18446744073709551615 (1 * 18446744073709551615) = 0 := by decide
    rw [e, Int.one_mul, and_zero, and_ones x hx.1 hx.2, or_zero x hx.1 hx.2]; rfl
def limbs : Nat -> List Nat -> Poly
  | _, [] => []
  | k, i :: l => (pscale (2 ^ (64 * k)) (pvar i)).add (limbs (k + 1) l)
structure Mont where
  p : Int
  a : Poly
  b : Poly
  T : List Nat
  top : Option Nat
  D : List Nat
  m : List Nat
  low : List Nat
  bw : Nat
  msk : List Nat
  out : List Nat
def hasEq (ks : List Con) (d : Nat) (e : IE) : Bool := ks.any fun k => match k with | .eq d' e' => d' == d && ieSame e' e | _ => false
def bdIs (bd : Tr (Int × Int)) (i : Nat) (h : Int) : Bool := match bd.get (path i) with | some (l, u) => decide (0 <= l) && decide (u <= h) | none => false
def isNil {α : Type} : List α -> Bool
  | [] => true
  | _ => false
def chosen (ks : List Con) (bw : Nat) : List Nat -> List Nat -> List Nat -> List Nat -> Bool
  | [], [], [], [] => true
  | o :: os, k :: msk, t :: T, d :: D => hasEq ks k (.mul (.var bw) (.const 18446744073709551615)) &&
      hasEq ks o (.bin .or .u64 (.bin .and .u64 (.var k) (.var t)) (.bin .and .u64 (.bin .xor .u64 (.const 18446744073709551615) (.var k)) (.var d))) && chosen ks bw os msk T D
  | _, _, _, _ => false
def Mont.topP (d : Mont) : Poly := match d.top with | some i => pvar i | none => []
def Mont.whole (d : Mont) : Poly := (limbs 0 d.T).add (pscale 115792089237316195423570985008687907853269984665640564039457584007913129639936 d.topP)
def montOK (d : Mont) (S : St) : Bool :=
  isNil (reduce S.cons ((pscale (2 ^ 256) d.whole).sub ((d.a.mul d.b).add ((pscale d.p (limbs 0 d.m)).sub (limbs 0 d.low))))) &&
  isNil (reduce S.cons ((limbs 0 d.D).sub ((pscale 2135987035920910082395021706169552114602704522356652769947041607822219725780640550022962086936576 (pvar d.bw)).add (d.whole.sub (pconst d.p))))) &&
  (d.low.all fun i => allDiv 18446744073709551616 (reduce S.cons (pvar i)) && bdIs S.bd i 18446744073709551615) &&
  ((d.T ++ d.D ++ d.m).all fun i => bdIs S.bd i 18446744073709551615) && bdIs S.bd d.bw 1 && (match d.top with | some i => bdIs S.bd i 18446744073709551615 | none => true) &&
  d.T.length == 4 && d.D.length == 5 && d.m.length == 4 && d.low.length == 4 && d.out.length == 4 && d.msk.length == 4 &&
  chosen S.cons d.bw d.out d.msk d.T (d.D.take 4)
def val4 (ρ : Nat -> Int) : List Nat -> Int
  | [a, b, c, d] => ρ a + 18446744073709551616 * ρ b + 340282366920938463463374607431768211456 * ρ c + 6277101735386680763835789423207666416102355444464034512896 * ρ d
  | _ => 0
section
variable {X : Tk} {ρ : Nat -> Int}
theorem isNil_spec {α : Type} {l : List α} (h : isNil l = true) : l = [] := by cases l with | nil => rfl | cons _ _ => cases h
theorem bdIs_spec {bd : Tr (Int × Int)} {n i : Nat} {u : Int} (hB : BdOK ρ bd n) (h : bdIs bd i u = true) : 0 <= ρ i /\ ρ i <= u := by
  unfold bdIs at h
  split at h
  · rename_i l v hg
    simp only [Bool.and_eq_true, decide_eq_true_eq] at h
    have := (hB i _ hg).2
    simp only at this
    omega
  · cases h
theorem hasEq_spec {ks : List Con} (hk : ∀ k ∈ ks, k.holds X ρ) {d : Nat} {e : IE} (h : hasEq ks d e = true) : ρ d = e.eval ρ := by
  unfold hasEq at h
  simp only [List.any_eq_true] at h
  obtain ⟨k, hm, h⟩ := h
  split at h
  · simp only [Bool.and_eq_true, beq_iff_eq] at h
    have := hk _ hm
    simp only [Con.holds] at this
    rw [<- h.1, this, same_ie h.2]
  · cases h
theorem chosen_spec {ks : List Con} (hk : ∀ k ∈ ks, k.holds X ρ) {bw : Nat} (hb : ρ bw = 0 \/ ρ bw = 1) : ∀ {o k t d : List Nat}, chosen ks bw o k t d = true ->
    (∀ i ∈ t ++ d, 0 <= ρ i /\ ρ i < 18446744073709551616) -> o.map ρ = if ρ bw = 1 then t.map ρ else d.map ρ
  | [], [], [], [], _, _ => by simp
  | o :: os, k :: msk, t :: T, d :: D, h, hw => by
    simp only [chosen, Bool.and_eq_true] at h
    obtain ⟨⟨h1, h2⟩, h3⟩ := h
    have e1 := hasEq_spec hk h1
    have e2 := hasEq_spec hk h2
    have ih := chosen_spec hk hb h3 fun i hi => hw i (by
      rcases List.mem_append.1 hi with hi | hi
      · exact List.mem_append_left _ (List.mem_cons_of_mem _ hi)
      · exact List.mem_append_right _ (List.mem_cons_of_mem _ hi))
    simp only [IE.eval] at e1 e2
    rw [e1] at e2
    rw [cmov _ _ _ hb (hw t (by simp)) (hw d (by simp))] at e2
    simp only [List.map_cons, ih, e2]
    split <;> rfl
  | [], _ :: _, _, _, h, _ => by simp [chosen] at h
  | [], [], _ :: _, _, h, _ => by simp [chosen] at h
  | [], [], [], _ :: _, h, _ => by simp [chosen] at h
  | _ :: _, [], _, _, h, _ => by simp [chosen] at h
  | _ :: _, _ :: _, [], _, h, _ => by simp [chosen] at h
  | _ :: _, _ :: _, _ :: _, [], h, _ => by simp [chosen] at h
theorem words4 {a b c d : Int} (ha : 0 <= a /\ a <= 18446744073709551615) (hb : 0 <= b /\ b <= 18446744073709551615) (hc : 0 <= c /\ c <= 18446744073709551615) (hd : 0 <= d /\ d <= 18446744073709551615) :
    0 <= a + 18446744073709551616 * b + 340282366920938463463374607431768211456 * c + 6277101735386680763835789423207666416102355444464034512896 * d /\ a + 18446744073709551616 * b + 340282366920938463463374607431768211456 * c + 6277101735386680763835789423207666416102355444464034512896 * d < 115792089237316195423570985008687907853269984665640564039457584007913129639936 := by
  obtain ⟨a0, a1⟩ := ha
  obtain ⟨b0, b1⟩ := hb
  obtain ⟨c0, c1⟩ := hc
  obtain ⟨d0, d1⟩ := hd
  have e1 : a + 18446744073709551616 * b <= 340282366920938463463374607431768211455 := by omega
  have e2 : a + 18446744073709551616 * b + 340282366920938463463374607431768211456 * c <= 6277101735386680763835789423207666416102355444464034512895 := by omega
  constructor <;> omega
theorem mont_plain {p ab L M L' bw t4 d4 r : Int} (hp : 0 < p) (hp' : p < 115792089237316195423570985008687907853269984665640564039457584007913129639936) (hab : 0 <= ab) (hab' : ab < p * 115792089237316195423570985008687907853269984665640564039457584007913129639936)
    (hL : 0 <= L /\ L < 115792089237316195423570985008687907853269984665640564039457584007913129639936) (hL' : 0 <= L' /\ L' < 115792089237316195423570985008687907853269984665640564039457584007913129639936) (bt4 : 0 <= t4 /\ t4 <= 18446744073709551615) (bd4 : 0 <= d4 /\ d4 <= 18446744073709551615)
    (hM : 0 <= M /\ M < 115792089237316195423570985008687907853269984665640564039457584007913129639936) (e1 : 115792089237316195423570985008687907853269984665640564039457584007913129639936 * (L + 115792089237316195423570985008687907853269984665640564039457584007913129639936 * t4) = ab + p * M) (e2 : L' + 115792089237316195423570985008687907853269984665640564039457584007913129639936 * d4 = 2135987035920910082395021706169552114602704522356652769947041607822219725780640550022962086936576 * bw + (L + 115792089237316195423570985008687907853269984665640564039457584007913129639936 * t4 - p)) (hbw : bw = 0 \/ bw = 1)
    (hr : r = if bw = 1 then L else L') :
    0 <= r /\ r < p /\ ∃ k, r * 115792089237316195423570985008687907853269984665640564039457584007913129639936 = ab + p * k := by
  have hpm0 : 0 <= p * M := Int.mul_nonneg (by omega) hM.1
  have hpm : p * M <= p * 115792089237316195423570985008687907853269984665640564039457584007913129639935 := Int.mul_le_mul_of_nonneg_left (by omega) (by omega)
  generalize hq : p * M = q at *
  generalize hT : L + 115792089237316195423570985008687907853269984665640564039457584007913129639936 * t4 = T at *
  have hT2 : T < 2 * p := by omega
  rcases hbw with rfl | rfl
  · have h4 : d4 = 0 := by omega
    have hr' : r = T - p := by rw [hr, if_neg (by decide)]; omega
    refine ⟨by omega, by omega, M - 115792089237316195423570985008687907853269984665640564039457584007913129639936, ?_⟩
    rw [Int.mul_sub, hq]
    omega
  · have h4 : t4 = 0 := by omega
    have hr' : r = T := by rw [hr, if_pos rfl]; omega
    refine ⟨by omega, by omega, M, ?_⟩
    omega
theorem len4 {l : List Nat} (h : l.length = 4) : ∃ a b c d, l = [a, b, c, d] := by
  match l, h with
  | [a, b, c, d], _ => exact ⟨a, b, c, d, rfl⟩
theorem len5 {l : List Nat} (h : l.length = 5) : ∃ a b c d e, l = [a, b, c, d, e] := by
  match l, h with
  | [a, b, c, d, e], _ => exact ⟨a, b, c, d, e, rfl⟩
theorem limbs4 {a b c d : Nat} : Poly.eval ρ (limbs 0 [a, b, c, d]) = ρ a + 18446744073709551616 * ρ b + 340282366920938463463374607431768211456 * ρ c + 6277101735386680763835789423207666416102355444464034512896 * ρ d := by
  simp only [limbs, eval_add, eval_scale, eval_var, Poly.eval]
  simp; omega
theorem limbs5 {a b c d e : Nat} : Poly.eval ρ (limbs 0 [a, b, c, d, e]) = ρ a + 18446744073709551616 * ρ b + 340282366920938463463374607431768211456 * ρ c + 6277101735386680763835789423207666416102355444464034512896 * ρ d + 115792089237316195423570985008687907853269984665640564039457584007913129639936 * ρ e := by
  simp only [limbs, eval_add, eval_scale, eval_var, Poly.eval]
  simp; omega
theorem mont_sound {d : Mont} {S : St} (h : montOK d S = true) (hB : BdOK ρ S.bd S.nv) (hk : ∀ k ∈ S.cons, k.holds X ρ) (hp : 0 < d.p) (hp' : d.p < 115792089237316195423570985008687907853269984665640564039457584007913129639936)
    (hab : 0 <= Poly.eval ρ d.a * Poly.eval ρ d.b) (hab' : Poly.eval ρ d.a * Poly.eval ρ d.b < d.p * 115792089237316195423570985008687907853269984665640564039457584007913129639936) :
    0 <= val4 ρ d.out /\ val4 ρ d.out < d.p /\ ∃ k, val4 ρ d.out * 115792089237316195423570985008687907853269984665640564039457584007913129639936 = Poly.eval ρ d.a * Poly.eval ρ d.b + d.p * k := by
  have hw' : Poly.eval ρ d.whole = Poly.eval ρ (limbs 0 d.T) + 115792089237316195423570985008687907853269984665640564039457584007913129639936 * Poly.eval ρ d.topP := by simp only [Mont.whole, eval_add, eval_scale]
  have htop : (match d.top with | some i => bdIs S.bd i 18446744073709551615 | none => true) = true -> 0 <= Poly.eval ρ d.topP /\ Poly.eval ρ d.topP <= 18446744073709551615 := fun h => by
    unfold Mont.topP
    split
    · rename_i i hi
      rw [hi] at h
      rw [eval_var]; exact bdIs_spec hB h
    · simp [Poly.eval]
  generalize hwp : d.whole = wp at *
  generalize htp : d.topP = tp at *
  obtain ⟨p, a, b, T, top, D, m, low, bw, msk, out⟩ := d
  dsimp only at hp hp' hab hab' hw' htop ⊢
  simp only [montOK, hwp, Bool.and_eq_true, beq_iff_eq] at h
  obtain ⟨⟨⟨⟨⟨⟨⟨⟨⟨⟨⟨⟨h1, h2⟩, h3⟩, h4⟩, h5⟩, h5'⟩, l1⟩, l2⟩, l3⟩, l4⟩, l5⟩, l6⟩, h6⟩ := h
  have ht4 := htop h5'
  have r1 := reduce_spec (ρ := ρ) hk (p := (pscale (2 ^ 256) wp).sub ((a.mul b).add ((pscale p (limbs 0 m)).sub (limbs 0 low))))
  have r2 := reduce_spec (ρ := ρ) hk (p := (limbs 0 D).sub ((pscale 2135987035920910082395021706169552114602704522356652769947041607822219725780640550022962086936576 (pvar bw)).add (wp.sub (pconst p))))
  rw [isNil_spec h1] at r1
  rw [isNil_spec h2] at r2
  obtain ⟨t0, t1, t2, t3, rfl⟩ := len4 l1
  obtain ⟨d0, d1, d2, d3, d4, rfl⟩ := len5 l2
  obtain ⟨m0, m1, m2, m3, rfl⟩ := len4 l3
  obtain ⟨w0, w1, w2, w3, rfl⟩ := len4 l4
  obtain ⟨o0, o1, o2, o3, rfl⟩ := len4 l5
  have hbw := bdIs_spec hB h5
  have hbw' : ρ bw = 0 \/ ρ bw = 1 := by omega
  simp only [List.all_eq_true, Bool.and_eq_true] at h3 h4
  have hw : ∀ i ∈ [t0, t1, t2, t3] ++ [d0, d1, d2, d3, d4] ++ [m0, m1, m2, m3], 0 <= ρ i /\ ρ i <= 18446744073709551615 := fun i hi => bdIs_spec hB (h4 i hi)
  have hlow : ∀ i ∈ [w0, w1, w2, w3], ρ i = 0 := fun i hi => by
    have := bdIs_spec hB (h3 i hi).2
    exact reduce_low hk (h3 i hi).1 this.1 (by omega)
  have hc := chosen_spec hk hbw' h6 fun i hi => by
    have := hw i (by
      rcases List.mem_append.1 hi with hi | hi
      · exact List.mem_append_left _ (List.mem_append_left _ hi)
      · exact List.mem_append_left _ (List.mem_append_right _ (List.mem_of_mem_take hi)))
    omega
  simp only [eval_sub, eval_add, eval_mul, eval_scale, eval_var, eval_const, hw', limbs4, limbs5, hlow w0 (by simp), hlow w1 (by simp), hlow w2 (by simp), hlow w3 (by simp), show Poly.eval ρ [] = 0 from rfl] at r1 r2
  have hM0 := hw m0 (by simp); have hM1 := hw m1 (by simp); have hM2 := hw m2 (by simp); have hM3 := hw m3 (by simp)
  refine mont_plain (L := ρ t0 + 18446744073709551616 * ρ t1 + 340282366920938463463374607431768211456 * ρ t2 + 6277101735386680763835789423207666416102355444464034512896 * ρ t3) (t4 := Poly.eval ρ tp)
    (L' := ρ d0 + 18446744073709551616 * ρ d1 + 340282366920938463463374607431768211456 * ρ d2 + 6277101735386680763835789423207666416102355444464034512896 * ρ d3) (d4 := ρ d4)
    (M := ρ m0 + 18446744073709551616 * ρ m1 + 340282366920938463463374607431768211456 * ρ m2 + 6277101735386680763835789423207666416102355444464034512896 * ρ m3) (bw := ρ bw) hp hp' hab hab' (words4 (hw t0 (by simp)) (hw t1 (by simp)) (hw t2 (by simp)) (hw t3 (by simp)))
    (words4 (hw d0 (by simp)) (hw d1 (by simp)) (hw d2 (by simp)) (hw d3 (by simp))) ht4 (hw d4 (by simp)) (words4 hM0 hM1 hM2 hM3) ?_ ?_ hbw' ?_
  · omega
  · omega
  · rcases hbw' with h | h
    · rw [if_neg (by omega)] at hc
      simp only [List.map_cons, List.map_nil, List.take_succ_cons, List.take_zero, List.cons.injEq, and_true] at hc
      obtain ⟨c1, c2, c3, c4⟩ := hc
      rw [if_neg (by omega)]
      simp only [val4, c1, c2, c3, c4]
    · rw [if_pos h] at hc
      simp only [List.map_cons, List.map_nil, List.cons.injEq, and_true] at hc
      obtain ⟨c1, c2, c3, c4⟩ := hc
      rw [if_pos h]
      simp only [val4, c1, c2, c3, c4]
end
def svOf : Value -> Option SV
  | .int k n => some (.int k (.const n))
  | .bool b => some (.bool b)
  | .pointer none => some .nilp
  | .slice none 0 0 => some .nils
  | .string s => some (.val (.string s))
  | .nilIface => some (.val .nilIface)
  | .nilFunc => some (.val .nilFunc)
  | _ => none
def tdOf (P : Program) (t : TypeId) : Option TD :=
  match P.underlying t with
  | some (.int k) => some (.int k)
  | some .bool => some .bool
  | some .string => some .string
  | some (.pointer e) => some (.ptr e)
  | some (.slice e) => some (.slice e)
  | some (.array n e) => some (.array n e)
  | some (.struct fs) => some (.struct (fs.toList.map fun f => (f.offset, f.type)))
  | some (.interface ms) => some (.iface ms.isEmpty)
  | some (.func _ _ _) => some .other
  | _ => none
def tiOf (P : Program) (t : TypeId) : Option TI :=
  match P.info? t, tdOf P t with
  | some i, some d =>
    match i.zero with
    | some z =>
      match optMap svOf z.cells.toList with
      | some cs => if cs.length == i.size then some ⟨d, i.size, i.bytes, cs⟩ else none
      | none => none
    | none => none
  | _, _ => none
theorem svOf_spec {v : Value} {u : SV} (h : svOf v = some u) (c : Ctx) : u.den c = v /\ u.ok 0 0 := by
  unfold svOf at h
  split at h <;> simp only [Option.some.injEq, reduceCtorEq] at h <;> subst h <;> exact ⟨rfl, trivial⟩
theorem svOf_list : ∀ {l : List Value} {r : List SV}, optMap svOf l = some r -> ∀ c, l = denL c r /\ okL 0 0 r
  | [], r, h, c => by simp only [optMap, Option.some.injEq] at h; subst h; exact ⟨rfl, trivial⟩
  | v :: l, r, h, c => by
    simp only [optMap] at h
    split at h
    · rename_i y ys hy hys
      simp only [Option.some.injEq] at h
      subst h
      obtain ⟨h1, h2⟩ := svOf_spec hy c
      obtain ⟨h3, h4⟩ := svOf_list hys c
      refine ⟨?_, h2, h4⟩
      simp only [denL]; rw [h1, <- h3]
    · cases h
theorem tdOf_spec {P : Program} {t : TypeId} {d : TD} (h : tdOf P t = some d) : descOK P t d := by
  unfold tdOf at h
  split at h <;> simp only [Option.some.injEq, reduceCtorEq] at h <;> subst h
  case h_7 fs hfs => exact ⟨fs, hfs, rfl⟩
  case h_8 ms hms => exact ⟨ms, hms, rfl⟩
  case h_9 ps rs v hf => exact ⟨ps, rs, v, hf⟩
  all_goals assumption
theorem tiOf_ok {P : Program} {t : TypeId} {ti : TI} (h : tiOf P t = some ti) : TyOK P t ti := by
  unfold tiOf at h
  split at h
  · rename_i i d hi hd
    split at h
    · rename_i z hz
      split at h
      · rename_i cs hcs
        split at h
        · rename_i hl
          simp only [beq_iff_eq] at hl
          simp only [Option.some.injEq] at h
          subst h
          exact ⟨tdOf_spec hd, ⟨i, hi, rfl, rfl, z, hz, fun c => (svOf_list hcs c).1⟩, (svOf_list hcs ⟨fun _ => 0, fun _ => 0, fun _ => 0, fun _ => 0⟩).2, hl⟩
        · cases h
      · cases h
    · cases h
  · cases h
def methOf (P : Program) (t : TypeId) (name : String) : Option FuncId :=
  match P.info? t, P.underlying t with
  | some i, some (.pointer _) =>
    match i.methods.find? (·.name == name) with
    | some m => match m.path.toList, m.func with | [], some (f, true) => some f | _, _ => none
    | none => none
  | _, _ => none
theorem methOf_ok {P : Program} {t : TypeId} {name : String} {f : FuncId} (h : methOf P t name = some f) :
    ∃ i m e, P.info? t = some i /\ i.methods.find? (·.name == name) = some m /\ m.path.toList = [] /\ m.func = some (f, true) /\ P.underlying t = some (.pointer e) := by
  unfold methOf at h
  split at h
  · rename_i i e hi he
    split at h
    · rename_i m hm
      split at h
      · rename_i g hp hf
        simp only [Option.some.injEq] at h
        subst h
        exact ⟨i, m, e, hi, hm, hp, hf, he⟩
      · cases h
    · cases h
  · cases h
def chkTr {α : Type} (f : Nat -> α -> Bool) : (Nat -> Nat) -> Tr α -> Bool
  | _, .nil => true
  | g, .node l v r => (match v with | some v => f (g 0) v | none => true) && chkTr f (fun j => g (2 * j + 1)) l && chkTr f (fun j => g (2 * j + 2)) r
theorem pathGo_fuel : ∀ f k, k <= f -> pathGo f k = path k := by
  have key : ∀ n, ∀ f k, k <= f -> k <= n -> pathGo f k = pathGo n k := by
    intro n
    induction n with
    | zero =>
      intro f k _ hk
      obtain rfl : k = 0 := by omega
      cases f <;> rfl
    | succ n ih =>
      intro f k hf hk
      cases f with
      | zero =>
        have : k = 0 := by omega
        subst this
        simp [pathGo]
      | succ f =>
        simp only [pathGo]
        split
        · rfl
        · rw [ih f ((k - 1) / 2) (by omega) (by omega)]
  intro f k h
  rw [path_eq]
  exact key k f k h (Nat.le_refl _)
theorem path_zero : path 0 = [] := rfl
theorem path_step (k : Nat) : path (k + 1) = ((k + 1) % 2 == 1) :: path (k / 2) := by
  rw [path_eq, pathGo, if_neg (by omega), show k + 1 - 1 = k from rfl, pathGo_fuel k (k / 2) (by omega)]
theorem path_odd (j : Nat) : path (2 * j + 1) = true :: path j := by
  rw [path_step, show 2 * j / 2 = j by omega, show (2 * j + 1) % 2 = 1 by omega]; rfl
theorem path_even (j : Nat) : path (2 * j + 2) = false :: path j := by
  rw [show 2 * j + 2 = (2 * j + 1) + 1 from rfl, path_step, show (2 * j + 1) / 2 = j by omega, show (2 * j + 1 + 1) % 2 = 0 by omega]; rfl
theorem chkTr_spec {α : Type} {f : Nat -> α -> Bool} : ∀ {t : Tr α} {g : Nat -> Nat}, chkTr f g t = true -> ∀ k v, t.get (path k) = some v -> f (g k) v = true
  | .nil, _, _, k, v, h => by rw [Tr.get_nil] at h; cases h
  | .node l x r, g, hc, k, v, h => by
    simp only [chkTr, Bool.and_eq_true] at hc
    obtain ⟨⟨h1, h2⟩, h3⟩ := hc
    by_cases h0 : k = 0
    · subst h0
      rw [path_zero] at h
      simp only [Tr.get_e] at h
      subst h
      exact h1
    · by_cases hodd : k % 2 = 1
      · obtain ⟨j, rfl⟩ : ∃ j, k = 2 * j + 1 := ⟨k / 2, by omega⟩
        rw [path_odd] at h
        simp only [Tr.get_t] at h
        exact chkTr_spec h2 j v h
      · obtain ⟨j, rfl⟩ : ∃ j, k = 2 * j + 2 := ⟨k / 2 - 1, by omega⟩
        rw [path_even] at h
        simp only [Tr.get_f] at h
        exact chkTr_spec h3 j v h
def TD.same : TD -> TD -> Bool
  | .int k, .int k' => k == k'
  | .bool, .bool => true
  | .string, .string => true
  | .ptr e, .ptr e' => e == e'
  | .slice e, .slice e' => e == e'
  | .array n e, .array n' e' => n == n' && e == e'
  | .struct fs, .struct fs' => fs == fs'
  | .iface b, .iface b' => b == b'
  | .other, .other => true
  | _, _ => false
theorem TD.same_spec {d d' : TD} (h : d.same d' = true) : d = d' := by
  cases d <;> cases d' <;> simp [TD.same] at h <;> simp_all
def tyChk (P : Program) (t : Nat) (ti : TI) : Bool :=
  match tiOf P t with
  | some ti' => ti'.d.same ti.d && ti'.size == ti.size && ti'.bytes == ti.bytes && sameL ti'.zero ti.zero
  | none => false
theorem tyChk_spec {P : Program} {t : Nat} {ti : TI} (h : tyChk P t ti = true) : TyOK P t ti := by
  unfold tyChk at h
  split at h
  · rename_i ti' ht
    simp only [Bool.and_eq_true, beq_iff_eq] at h
    obtain ⟨⟨⟨h1, h2⟩, h3⟩, h4⟩ := h
    have : ti' = ti := by
      obtain ⟨a, b, c, d⟩ := ti'
      obtain ⟨a', b', c', d'⟩ := ti
      simp only at h1 h2 h3 h4
      rw [TD.same_spec h1, h2, h3, sameL_spec h4]
    rw [<- this]
    exact tiOf_ok ht
  · cases h
def mkEnv (P : Program) (tys : Tr TI) (fns : Tr Func) (ext : FuncId -> Option (List SV -> St -> Option (SV × St))) (spec : FuncId -> Option (Fs)) : Env :=
  { ty := fun t => tys.get (path t), meth := methOf P, fn := fun f => fns.get (path f), ext := ext, spec := spec }
theorem mkEnv_ok {P : Program} {X : Tk} {tys : Tr TI} {fns : Tr Func} {ext : FuncId -> Option (List SV -> St -> Option (SV × St))}
    {spec : FuncId -> Option (Fs)} (hmix : P.follows .mixedOrders = true) (hty : chkTr (tyChk P) id tys = true)
    (hfn : fns = listTr 0 P.funcs.toList .nil) (hname : (P.funcs.toList.all fun fn => !(fn.name == "runtime.NumGoroutine")) = true)
    (hext : ∀ f g, ext f = some g -> ExtOK P X f g) (hspec : ∀ f sp, spec f = some sp -> FnOK P f /\ SpecOK P X f sp) : EnvOK P X (mkEnv P tys fns ext spec) where
  mixed := hmix
  ty t ti h := tyChk_spec (chkTr_spec hty t ti h)
  fn f fn h := by
    simp only [mkEnv] at h
    rw [hfn, listTr_get] at h
    simp only [Nat.zero_le, Nat.zero_add, true_and, Nat.sub_zero, Tr.get_nil] at h
    split at h
    · refine ⟨by simpa using h, ?_⟩
      have := (List.all_eq_true.1 hname) fn (List.mem_of_getElem? h)
      simpa using this
    · cases h
  meth t name f h := methOf_ok h
  ext := hext
  spec := hspec
theorem and_mod (k : IntKind) (h : 32 <= k.bits) (hk : (4294967295 : Int) <= k.max) (x : Int) : intBin .and k x 4294967295 = x % 4294967296 := by
  have e : (BitVec.ofInt k.bits x &&& BitVec.ofInt k.bits 4294967295).toNat = (BitVec.ofInt k.bits x).toNat % 2 ^ 32 := by
    rw [BitVec.toNat_and]
    have h1 : (BitVec.ofInt k.bits 4294967295).toNat = 2 ^ 32 - 1 := by
      have := ofInt_toNat (n := k.bits) (x := 4294967295) (by decide) (by have := max_lt_pow k; omega)
      omega
    rw [h1, Nat.and_two_pow_sub_one_eq_mod]
  have e2 : (((BitVec.ofInt k.bits x).toNat % 2 ^ 32 : Nat) : Int) = x % 4294967296 := by
    rw [BitVec.toNat_ofInt, Int.natCast_emod]
    have hd : ((2 ^ 32 : Nat) : Int) ∣ ((2 ^ k.bits : Nat) : Int) := Int.natCast_dvd_natCast.2 (Nat.pow_dvd_pow 2 h)
    have hpos : (0 : Int) < ((2 ^ k.bits : Nat) : Int) := by have := Nat.two_pow_pos k.bits; omega
    generalize ((2 ^ k.bits : Nat) : Int) = m at hd hpos
    rw [Int.toNat_of_nonneg (Int.emod_nonneg _ (by omega)), Int.emod_emod_of_dvd x hd]
    rfl
  simp only [intBin]
  rw [e, e2]
  have h1 := Int.emod_nonneg x (b := 4294967296) (by decide)
  have h2 := Int.emod_lt_of_pos x (b := 4294967296) (by decide)
  have hmin : k.min <= 0 := by cases k <;> decide
  exact wrap_of_range (by omega) (by omega)
theorem shr_div (k : IntKind) (h : 32 <= k.bits) (x : Int) : intBin .shr k x 32 = x / 4294967296 := by
  simp only [intBin, fdiv_pow]
  have : min (Int.toNat 32) k.bits = 32 := by simp; omega
  rw [this]; rfl
def wide (k : IntKind) : Bool := match k with | .i64 | .u64 => true | _ => false
theorem wide_spec {k : IntKind} (h : wide k = true) : 32 <= k.bits /\ (4294967295 : Int) <= k.max := by
  cases k <;> simp [wide] at h <;> decide
def shrOf (k : IntKind) (v : Nat) : List Con -> Option Nat
  | [] => none
  | .eq e (.bin .shr k' (.var v') (.const (.ofNat 32))) :: ks => if k == k' && v == v' then some e else shrOf k v ks
  | _ :: ks => shrOf k v ks
theorem shrOf_spec {X : Tk} {ρ : Nat -> Int} {k : IntKind} (hk : wide k = true) {v e : Nat} : ∀ {ks : List Con}, shrOf k v ks = some e -> (∀ c ∈ ks, c.holds X ρ) -> ρ e = ρ v / 4294967296
  | [], h, _ => by simp [shrOf] at h
  | c :: ks, h, hh => by
    unfold shrOf at h
    split at h
    · cases h
    · rename_i e' k' v' ks' heq
      simp only [List.cons.injEq] at heq
      obtain ⟨rfl, rfl⟩ := heq
      split at h
      · rename_i hc
        simp only [Bool.and_eq_true, beq_iff_eq] at hc
        simp only [Option.some.injEq] at h
        subst h
        have := hh _ List.mem_cons_self
        simp only [Con.holds, IE.eval] at this
        rw [this, <- hc.1, <- hc.2]
        exact shr_div k (wide_spec hk).1 _
      · exact shrOf_spec hk h fun c hc => hh c (List.mem_cons_of_mem _ hc)
    · rename_i ks' _ heq
      simp only [List.cons.injEq] at heq
      obtain ⟨_, rfl⟩ := heq
      exact shrOf_spec hk h fun c hc => hh c (List.mem_cons_of_mem _ hc)
def conPm (all : List Con) : Con -> Option (Nat × Poly)
  | .eq d (.bin .and k (.var v) (.const (.ofNat 4294967295))) =>
    if wide k then match shrOf k v all with | some e => some (d, ((pvar d).add (pscale 4294967296 (pvar e))).sub (pvar v)) | none => none else none
  | k => conP k
def reduceM (all : List Con) : List Con -> Poly -> Poly
  | [], p => p
  | k :: ks, p =>
    match conPm all k with
    | some (d, q) =>
      let a := coef [d] p
      match a == 0 with
      | true => reduceM all ks p
      | false => reduceM all ks (p.add (pscale (-a) q))
    | none => reduceM all ks p
theorem conPm_spec {X : Tk} {ρ : Nat -> Int} {all : List Con} (hall : ∀ c ∈ all, c.holds X ρ) {k : Con} {d : Nat} {p : Poly} (h : conPm all k = some (d, p)) (hk : k.holds X ρ) : Poly.eval ρ p = 0 := by
  unfold conPm at h
  split at h
  · rename_i d' k' v
    split at h
    · rename_i hw
      split at h
      · rename_i e he
        simp only [Option.some.injEq, Prod.mk.injEq] at h
        obtain ⟨rfl, rfl⟩ := h
        have h1 := shrOf_spec hw he hall
        simp only [Con.holds, IE.eval] at hk
        rw [show (Int.ofNat 4294967295) = 4294967295 from rfl, and_mod k' (wide_spec hw).1 (wide_spec hw).2] at hk
        rw [eval_sub, eval_add, eval_scale, eval_var, eval_var, eval_var, hk, h1]
        omega
      · cases h
    · cases h
  · exact conP_spec h hk
theorem reduceM_spec {X : Tk} {ρ : Nat -> Int} {all : List Con} (hall : ∀ c ∈ all, c.holds X ρ) : ∀ {ks : List Con} {p : Poly}, (∀ k ∈ ks, k.holds X ρ) -> Poly.eval ρ (reduceM all ks p) = Poly.eval ρ p
  | [], p, _ => rfl
  | k :: ks, p, h => by
    have hks : ∀ k' ∈ ks, k'.holds X ρ := fun k' hk' => h k' (List.mem_cons_of_mem _ hk')
    simp only [reduceM]
    split
    · rename_i d q hq
      split
      · exact reduceM_spec hall hks
      · rw [reduceM_spec hall hks, eval_add, eval_scale, conPm_spec hall hq (h k List.mem_cons_self)]; omega
    · exact reduceM_spec hall hks
def ieSameL : List IE -> List IE -> Bool
  | [], [] => true
  | a :: l, b :: l' => ieSame a b && ieSameL l l'
  | _, _ => false
def conSame : Con -> Con -> Bool
  | .eq d e, .eq d' e' => d == d' && ieSame e e'
  | .add64 s c x y z, .add64 s' c' x' y' z' => s == s' && c == c' && ieSame x x' && ieSame y y' && ieSame z z'
  | .sub64 s c x y z, .sub64 s' c' x' y' z' => s == s' && c == c' && ieSame x x' && ieSame y y' && ieSame z z'
  | .mul64 h l x y, .mul64 h' l' x' y' => h == h' && l == l' && ieSame x x' && ieSame y y'
  | .test e b, .test e' b' => beSame e e' && b == b'
  | .ext t l, .ext t' l' => t == t' && ieSameL l l'
  | _, _ => false
theorem ieSameL_spec : ∀ {l l' : List IE}, ieSameL l l' = true -> l = l'
  | [], [], _ => rfl
  | a :: l, b :: l', h => by
    simp only [ieSameL, Bool.and_eq_true] at h
    rw [same_ie h.1, ieSameL_spec h.2]
  | [], _ :: _, h => by simp [ieSameL] at h
  | _ :: _, [], h => by simp [ieSameL] at h
theorem conSame_spec {a b : Con} (h : conSame a b = true) : a = b := by
  cases a <;> cases b <;> simp only [conSame, Bool.and_eq_true, beq_iff_eq, Bool.false_eq_true] at h
  · rw [h.1, same_ie h.2]
  · obtain ⟨⟨⟨⟨h1, h2⟩, h3⟩, h4⟩, h5⟩ := h; rw [h1, h2, same_ie h3, same_ie h4, same_ie h5]
  · obtain ⟨⟨⟨⟨h1, h2⟩, h3⟩, h4⟩, h5⟩ := h; rw [h1, h2, same_ie h3, same_ie h4, same_ie h5]
  · obtain ⟨⟨⟨h1, h2⟩, h3⟩, h4⟩ := h; rw [h1, h2, same_ie h3, same_ie h4]
  · rw [same_be h.1, h.2]
  · rw [h.1, ieSameL_spec h.2]
structure Look where
  nums : List IE
  bds : List (Nat × Int × Int)
  ks : List Con
  ps : List Poly
def Look.ok (L : Look) (S : St) : Bool :=
  L.bds.all (fun b => match S.bd.get (path b.1) with | some (l, h) => decide (b.2.1 <= l) && decide (h <= b.2.2) | none => false) &&
    (L.ks.all (fun k => S.cons.any fun k' => conSame k' k) && L.ps.all fun p => match reduceM S.cons S.cons p with | [] => true | _ => false)
structure Seen (X : Tk) (L : Look) (ρ : Nat -> Int) : Prop where
  bds : ∀ b ∈ L.bds, b.2.1 <= ρ b.1 /\ ρ b.1 <= b.2.2
  ks : ∀ k ∈ L.ks, k.holds X ρ
  ps : ∀ p ∈ L.ps, Poly.eval ρ p = 0
theorem Look.seen {X : Tk} {L : Look} {S : St} (h : L.ok S = true) {ρ : Nat -> Int} (hB : BdOK ρ S.bd S.nv) (hk : ∀ k ∈ S.cons, k.holds X ρ) : Seen X L ρ := by
  simp only [Look.ok, Bool.and_eq_true, List.all_eq_true] at h
  obtain ⟨h1, h2, h3⟩ := h
  refine ⟨fun b hb => ?_, fun k hkm => ?_, fun p hp => ?_⟩
  · have := h1 b hb
    split at this
    · rename_i l u hg
      simp only [Bool.and_eq_true, decide_eq_true_eq] at this
      have := hB b.1 (l, u) hg
      simp only at this
      omega
    · cases this
  · obtain ⟨k', g1, g2⟩ := List.any_eq_true.1 (h2 k hkm)
    rw [<- conSame_spec g2]; exact hk k' g1
  · have := h3 p hp
    split at this
    · rename_i hr
      rw [<- reduceM_spec hk hk (p := p), hr]; rfl
    · cases this
def numsOf (nv : Nat) (L : Look) (ρ : Nat -> Int) (i : Nat) : Int := if i < nv then ρ i else ((L.nums[i - nv]?).getD (.const 0)).eval ρ
def sameNums (M : Mt) : Nat -> List IE -> Bool
  | _, [] => true
  | i, e :: es => ieSame (M.f i) e && sameNums M (i + 1) es
theorem sameNums_spec {M : Mt} : ∀ {l : List IE} {i : Nat}, sameNums M i l = true -> ∀ (j : Nat) e, l[j]? = some e -> M.f (i + j) = e
  | [], _, _, j, e, h => by simp at h
  | x :: l, i, h, j, e, hj => by
    simp only [sameNums, Bool.and_eq_true] at h
    cases j with
    | zero =>
      simp only [List.getElem?_cons_zero, Option.some.injEq] at hj
      subst hj
      exact same_ie h.1
    | succ j =>
      have := sameNums_spec h.2 j e (by simpa using hj)
      rw [show i + (j + 1) = i + 1 + j by omega]; exact this
def chkOut (s : Sm) (k : Nat) (L : Look) (v : SV) (S : St) : Bool :=
  match s.outs[k]? with
  | some o => match s.matchOut o v S with
    | some M => sameNums M s.nv L.nums && L.nums.length == o.nr && (o.post.all fun x => x.2.all (·.okb (s.nv + o.nr))) && L.ok S
    | none => false
  | none => false
theorem matchOut_id {s : Sm} {o : SmO} {v : SV} {S : St} {M : Mt} (h : s.matchOut o v S = some M) {i : Nat} (hi : i < s.nv) : M.f i = .var i := by
  unfold Sm.matchOut at h
  split at h
  · cases h
  rename_i m2 hm2
  split at h
  · cases h
  rename_i m3 hm3
  split at h
  · cases h
  rename_i m4 hm4
  split at h
  case isFalse => cases h
  simp only [Option.some.injEq] at h
  subst h
  have hid : s.idm.Le m4 := ((matchSV_spec hm2).1.trans (matchWr_spec hm3).1).trans (matchMem_spec hm4).1
  have : s.idm.σ.get (path i) = some (.var i) := by
    simp only [Sm.idm, listTr_get, Nat.zero_le, List.length_map, List.length_range, Nat.zero_add, true_and, Nat.sub_zero]
    rw [if_pos hi]; simp [hi]
  simp [Mt.f, hid.σ i _ this]
theorem chkOut_spec {X : Tk} {s : Sm} {k : Nat} {L : Look} {v : SV} {S : St} (h : chkOut s k L v S = true) : ∃ o, s.outs[k]? = some o /\ ∃ M, s.matchOut o v S = some M /\
    ((∀ ρ, Seen X L ρ -> ∀ x ∈ o.post, X x.1 (x.2.map (·.eval (numsOf s.nv L ρ)))) -> PostOK X o M S) := by
  unfold chkOut at h
  split at h
  · rename_i o ho
    split at h
    · rename_i M hM
      simp only [Bool.and_eq_true, beq_iff_eq, List.all_eq_true] at h
      obtain ⟨⟨⟨h1, h2⟩, h3⟩, h4⟩ := h
      refine ⟨o, ho, M, hM, fun hp ρ hB hk x hx => ?_⟩
      have := hp ρ (L.seen h4 hB hk) x hx
      have e : ∀ e ∈ x.2, e.eval (numsOf s.nv L ρ) = e.eval (fun i => (M.f i).eval ρ) := fun e he => by
        refine IE.eval_ext (n := s.nv + o.nr) (fun i hi => ?_) (IE.ok_of (h3 x hx e he))
        unfold numsOf
        split
        · rename_i hlt; rw [matchOut_id hM hlt]; rfl
        · rename_i hlt
          have hj : i - s.nv < L.nums.length := by omega
          have := sameNums_spec h1 (i - s.nv) _ (List.getElem?_eq_getElem hj)
          rw [show s.nv + (i - s.nv) = i by omega] at this
          rw [this, List.getElem?_eq_getElem hj]; rfl
      rw [List.map_congr_left e] at this
      exact this
    · cases h
  · cases h
def chkOuts (s : Sm) : List (SV × St) -> List (Nat × Look) -> Bool
  | [], [] => true
  | x :: xs, d :: ds => chkOut s d.1 d.2 x.1 x.2 && chkOuts s xs ds
  | _, _ => false
theorem chkOuts_spec {s : Sm} : ∀ {ls : List (SV × St)} {ds : List (Nat × Look)}, chkOuts s ls ds = true -> ∀ x ∈ ls, ∃ d ∈ ds, chkOut s d.1 d.2 x.1 x.2 = true
  | [], ds, _, x, hx => by simp at hx
  | y :: ys, [], h, _, _ => by simp [chkOuts] at h
  | y :: ys, d :: ds, h, x, hx => by
    simp only [chkOuts, Bool.and_eq_true] at h
    rcases List.mem_cons.1 hx with rfl | hx
    · exact ⟨d, by simp, h.1⟩
    · obtain ⟨d', h1, h2⟩ := chkOuts_spec h.2 x hx
      exact ⟨d', by simp [h1], h2⟩
def chkFn (r : Option (List (SV × St))) (s : Sm) (ds : List (Nat × Look)) : Bool :=
  s.wf && match r with | some ls => chkOuts s (splitB ls) ds | none => false
theorem fn_sum {P : Program} {X : Tk} {E : Env} (hE : EnvOK P X E) {f : FuncId} {n : Nat} {s : Sm} {ds : List (Nat × Look)} (h : chkFn (execCall E n f s.args s.start) s ds = true)
    (hp : ∀ d ∈ ds, ∀ o, s.outs[d.1]? = some o -> ∀ ρ, Seen X d.2 ρ -> ∀ x ∈ o.post, X x.1 (x.2.map (·.eval (numsOf s.nv d.2 ρ)))) : SpecOK P X f s.spec := by
  simp only [chkFn, Bool.and_eq_true] at h
  obtain ⟨hwf, h⟩ := h
  split at h
  · rename_i ls hls
    refine sum_sound hE hwf hls fun v S' hm => ?_
    obtain ⟨d, hd, hc⟩ := chkOuts_spec h (v, S') hm
    obtain ⟨o, ho, M, hM, hP⟩ := chkOut_spec (X := X) hc
    exact ⟨o, List.mem_of_getElem? ho, M, hM, hP (hp d hd o ho)⟩
  · cases h
end Go.Vm
end
