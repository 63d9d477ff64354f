/- The proof of laws.FnP224Verify, text 3 of 36. Conditions: none. -/
import Derived.Lib.OthersKept
import Derived.Test.YtmogojlijkddpaaGreatT01
noncomputable section

set_option maxRecDepth 100000
namespace Go.Vm
section
variable {P : Program} {X : Tk} {E : Env} {w : World} {w0 : Base} {c : Ctx} {S : St} {a : Act}
theorem new_led (hM : MRep X w0 c S w) {ty : TypeId} {cells : List SV} (hc : okL S.nv S.nb cells) {v : SV} (hv : v.ok S.nv (S.nb + 1)) :
    ∃ c', Led X w0 c c' S (S.new ty cells).2 { w with heap := w.heap.push (.cells (denL c cells).toArray ty) } v /\ c'.β S.nb = w.heap.size := by
  obtain ⟨c', h1, h2, h3⟩ := new_sound hM (ty := ty) hc
  exact ⟨c', ⟨h1, Nat.le_refl _, Nat.le_succ _, h3, hv⟩, h2⟩
theorem okL_cells {n m : Nat} {v : SV} (h : v.ok n m) : okL n m v.cells := by
  cases v <;> simp only [SV.cells, okL, and_true] <;> exact h
theorem range_led (hM : MRep X w0 c S w) (s : ByteArray) :
    ∃ c', Led X w0 c c' S { S with nb := S.nb + 1, its := Tr.set (s, 0) (path S.nb) S.its } (w.iter s 0) (.ptr S.nb 0) /\ c'.β S.nb = w.heap.size := by
  have hx : Ext S.nv S.nb c ⟨c.ρ, fun b => if b = S.nb then w.heap.size else c.β b, c.o, c.κ⟩ :=
    ⟨fun _ _ => rfl, fun b hb => if_neg (by omega), fun _ _ => rfl, fun _ _ => rfl⟩
  have hheap : (w.iter s 0).heap = w.heap.push (.stringIter s 0) := rfl
  have hold : ∀ r, r < w.heap.size -> (w.iter s 0).heap[r]? = w.heap[r]? := fun r hr => by
    rw [hheap, Array.getElem?_push_lt hr, Array.getElem?_eq_getElem hr]
  refine ⟨_, ⟨hx, Nat.le_refl _, Nat.le_succ _, ?_, Nat.lt_succ_self _⟩, if_pos rfl⟩
  refine ⟨fun b k hb => ?_, fun b b' k k' hb hb' e => ?_, fun b hb => Nat.lt_succ_of_lt (hM.wr b hb), fun b h1 h2 => ?_, fun r hr hw => ?_, ?_, hM.cons, hM.bd, hM.os, hM.out, hM.tape, fun b u p hb => ?_, fun x hx' => ?_⟩
  · obtain ⟨h1, h2, h3⟩ := hM.mem b k hb
    refine ⟨Nat.lt_succ_of_lt h1, okL_mono (Nat.le_refl _) (Nat.le_succ _) h2, ?_⟩
    have h4 := blkRep_ext hx h1 h2 h3
    refine blkRep_heap ?_ h4
    simp only [if_neg (show b ≠ S.nb by omega)]
    exact hold _ (blkRep_lt h3)
  · have h1 := (hM.mem b k hb).1
    have h2 := (hM.mem b' k' hb').1
    simp only [if_neg (show b ≠ S.nb by omega), if_neg (show b' ≠ S.nb by omega)] at e
    exact hM.inj b b' k k' hb hb' e
  · simp only [] at h1 h2 ⊢
    split
    · exact hM.size
    · exact hM.new b h1 (by omega)
  · simp only [] at hw
    rw [hold r (Nat.lt_of_lt_of_le hr hM.size)]
    refine hM.frame r hr fun b hb => ?_
    have := hw b hb
    have hbn : b ≠ S.nb := by have := hM.wr b hb; omega
    simpa [hbn] using this
  · have := hM.size
    rw [hheap]; simp; omega
  · simp only [] at hb ⊢
    rw [Tr.get_set] at hb
    by_cases hbn : b = S.nb
    · rw [if_pos hbn] at hb
      simp only [Option.some.injEq, Prod.mk.injEq] at hb
      obtain ⟨rfl, rfl⟩ := hb
      subst hbn
      simp only [if_true]
      exact ⟨Nat.lt_succ_self _, by rw [hheap]; simp, hM.size⟩
    · rw [if_neg hbn] at hb
      obtain ⟨h1, h2, h3⟩ := hM.its b u p hb
      simp only [if_neg hbn]
      exact ⟨Nat.lt_succ_of_lt h1, by rw [hold _ (Array.getElem?_eq_some_iff.1 h2).1]; exact h2, h3⟩
  · obtain ⟨g1, g2, g3, g4⟩ := hM.lens x hx'
    refine ⟨Nat.lt_succ_of_lt g1, g2, g3, (g4.ext hx g1 g2).heap ?_⟩
    rw [hx.β _ g1]
    exact hold _ g4.lt
theorem next_rep (hM : MRep X w0 c S w) {b : Nat} {s : ByteArray} {p p' : Nat} (hb : S.its.get (path b) = some (s, p)) :
    MRep X w0 c { S with its := Tr.set (s, p') (path b) .nil, wr := b :: S.wr } (w.iterAt (c.β b) s p') := by
  obtain ⟨g1, g2, g3⟩ := hM.its b s p hb
  have hoth : ∀ r, r ≠ c.β b -> (w.iterAt (c.β b) s p').heap[r]? = w.heap[r]? := fun r hr => by
    simp [World.iterAt, Array.getElem?_setIfInBounds_ne (Ne.symm hr)]
  refine ⟨fun x k hx => ?_, hM.inj, fun x hx => ?_, hM.new, fun r hr hw => ?_, ?_, hM.cons, hM.bd, hM.os, hM.out, hM.tape, fun x u q hx => ?_, fun x hx => ?_⟩
  · obtain ⟨h1, h2, h3⟩ := hM.mem x k hx
    refine ⟨h1, h2, blkRep_heap (hoth _ fun e => ?_) h3⟩
    unfold blkRep at h3
    split at h3
    · rw [e, g2] at h3; simp at h3
    · obtain ⟨_, _, _, _, h3, _⟩ := h3
      rw [e, g2] at h3; simp at h3
  · rcases List.mem_cons.1 hx with rfl | hx
    · exact g1
    · exact hM.wr x hx
  · rw [hoth r fun e => by omega]
    exact hM.frame r hr fun x hx => hw x (List.mem_cons_of_mem _ hx)
  · have := hM.size
    simp [World.iterAt]; omega
  · simp only [] at hx
    rw [Tr.get_set] at hx
    by_cases hxb : x = b
    · rw [if_pos hxb] at hx
      simp only [Option.some.injEq, Prod.mk.injEq] at hx
      obtain ⟨rfl, rfl⟩ := hx
      subst hxb
      exact ⟨g1, Lib.iterAt_heap w _ s p p' g2, g3⟩
    · rw [if_neg hxb, Tr.get_nil] at hx; cases hx
  · obtain ⟨k1, k2, k3, k4⟩ := hM.lens x hx
    refine ⟨k1, k2, k3, k4.heap (hoth _ fun e => ?_)⟩
    obtain ⟨l, _, _, _, arr', ty', fr', k5, _⟩ := k4
    rw [e, g2] at k5; simp at k5
theorem effOp_sound (hE : EnvOK P X E) (hT : TRep c S.tmps S.nt S.nv S.nb a) (hM : MRep X w0 c S w) {o : Oper} {v : SV} {S' : St} (h : effOp E S o = some (v, S')) :
    ∃ c' w', Led X w0 c c' S S' w' v /\ S'.tmps = S.tmps /\ S'.nt = S.nt /\
      ((execOp a.eval o).run P w = .ok (.value (v.den c')) w' \/ ((execOp a.eval o).run P w = .ok .skip w' /\ v.den c' = undef)) := by
  obtain ⟨dst, op, type, pos, after, guard⟩ := o
  have O : ∀ {x : Operand} {u : SV}, opd S x = some u -> a.eval x = u.den c /\ u.ok S.nv S.nb := fun h => opd_sound hT h
  cases op
  case assign x =>
    simp only [effOp, Option.bind_eq_bind, Option.bind_eq_some_iff, Option.some.injEq] at h
    obtain ⟨u, hu, h⟩ := h
    obtain ⟨c', h1, h2, h3⟩ := assign_sound (w := w) hT hM hu
    have e1 : v = (nameV S u).1 := by rw [h]
    have e2 : S' = (nameV S u).2 := by rw [h]
    subst e1 e2
    exact ⟨c', w, ⟨h1.ext, h1.nv, by rw [h1.nb]; exact Nat.le_refl _, h1.rep, h3⟩, h1.tmps, h1.nt, .inl (by simp [execOp, h2])⟩
  case alloc t =>
    simp only [effOp, Option.bind_eq_bind, Option.bind_eq_some_iff, Option.some.injEq, Prod.mk.injEq] at h
    obtain ⟨ti, hty, rfl, rfl⟩ := h
    have hz := hE.ty _ _ hty
    obtain ⟨z, hz1, hz2⟩ := hz.run_zero (w := w) c
    obtain ⟨c', h1, h2⟩ := new_led hM (ty := t) (cells := ti.zero) (okL_mono (Nat.zero_le _) (Nat.zero_le _) hz.zok) (v := .ptr (S.new t ti.zero).1 0) (Nat.lt_succ_self _)
    refine ⟨c', _, h1, rfl, rfl, .inl ?_⟩
    simp [execOp, Instr.alloc, hz1, newVar, newRow, hz2, SV.den, St.new, h2]
  case box t x =>
    simp only [effOp, Option.bind_eq_bind, Option.bind_eq_some_iff] at h
    obtain ⟨u, hu, h⟩ := h
    split at h
    · cases h
    rename_i hp
    simp only [Option.some.injEq, Prod.mk.injEq] at h
    obtain ⟨rfl, rfl⟩ := h
    have hp' : plainV u = true := by simpa using hp
    obtain ⟨c1, h1, h2, h3⟩ := assign_sound (w := w) hT hM hu
    obtain ⟨c', h4, h5⟩ := new_led h1.rep (ty := t) (cells := (nameV S u).1.cells) (okL_cells h3) (v := .ptr ((nameV S u).2.new t (nameV S u).1.cells).1 0) (Nat.lt_succ_self _)
    refine ⟨c', _, ⟨h1.ext.trans h4.ext h1.nv (by rw [h1.nb]; exact Nat.le_refl _), Nat.le_trans h1.nv h4.nv, by have := h4.nb; have := h1.nb; omega, h4.rep, h4.ok⟩, h1.tmps, h1.nt, .inl ?_⟩
    have hc := cells_plain (c := c1) (nameV_plain (S := S) hp')
    have hc' : (a.eval x).cells = (denL c1 (nameV S u).1.cells).toArray := by
      apply Array.ext'
      rw [<- h2, hc]
    simp [execOp, Instr.box, newVar, newRow, hc', SV.den, St.new, h5]
  case buildSlice t len parts =>
    simp only [effOp, Option.bind_eq_bind, Option.bind_eq_some_iff] at h
    obtain ⟨ti, hty, h⟩ := h
    split at h
    · rename_i elem hd0
      simp only [Option.bind_eq_some_iff] at h
      obtain ⟨ei, hei, ps, hps, h⟩ := h
      split at h
      · cases h
      rename_i hpl
      split at h
      · cases h
      rename_i hsz
      simp only [Option.bind_eq_some_iff, Option.some.injEq, Prod.mk.injEq] at h
      obtain ⟨cells, hf, rfl, rfl⟩ := h
      have hd := (hE.ty _ _ hty).d
      rw [hd0] at hd
      simp only [descOK] at hd
      have hz := hE.ty _ _ hei
      obtain ⟨z, hz1, hz2⟩ := hz.run_zero (w := w) c
      obtain ⟨g1, g2⟩ := parts_sound hT.ev hps
      have hpl' : ∀ p ∈ ps, ∀ u, p.2 ≠ .val u \/ (p.2.den c).cells.toList = denL c p.2.cells := fun p hp u => .inr (cells_plain (by
        simp only [Bool.not_eq_true, Bool.not_eq_false', List.all_eq_true] at hpl
        exact hpl p hp))
      have hok : okL S.nv S.nb cells := fillSV_ok hf (zeros_ok hz.zok len) g2
      have hfill := fill_sound (c := c) hf hpl'
      rw [<- g1] at hfill
      obtain ⟨c1, h1, h2, h3, _⟩ := nameL_sound hM hok
      obtain ⟨c', h4, h5⟩ := new_led h1.rep (ty := elem) (cells := (nameL S cells).1) h3 (v := .slice ((nameL S cells).2.new elem (nameL S cells).1).1 0 len len) (Nat.lt_succ_self _)
      refine ⟨c', _, ⟨h1.ext.trans h4.ext h1.nv (by rw [h1.nb]; exact Nat.le_refl _), Nat.le_trans h1.nv h4.nv, by have := h4.nb; have := h1.nb; omega, h4.rep, h4.ok⟩, h1.tmps, h1.nt, .inl ?_⟩
      have hzs : z.cells.size = ei.size := by rw [hz2]; simp [denL_length, hz.zlen]
      have hsz' : ¬ (len * ei.size > 2 ^ 24) := hsz
      have hrow : ∀ zz : Array Value, (if len * ei.size = 0 then zz = #[] else zz = z.cells) ->
          ((Array.range (len * ei.size)).map fun i => zz[i % zz.size]!) = (denL c (List.replicate len ei.zero).flatten).toArray := fun zz hzz => by
        by_cases h0 : len * ei.size = 0
        · have : (List.replicate len ei.zero).flatten = [] := by
            apply List.eq_nil_of_length_eq_zero
            simp [List.length_flatten, List.map_replicate, hz.zlen, h0]
          rw [this, h0]; simp [denL]
        · rw [if_neg h0] at hzz
          subst hzz
          apply Array.ext'
          rw [<- hzs, zeroRow, hz2, denL_zeros]
      simp only [execOp, Instr.buildSlice, Sem.run_bind, run_underlying hd, hz.run_sizeOf, Result.andThen_ok]
      rw [if_neg hsz']
      simp only [Sem.run_pure]
      by_cases h0 : len * ei.size = 0
      · have hr2 := hrow #[] (by rw [if_pos h0])
        rw [if_pos h0]
        simp only [Sem.run_bind, Sem.run_pure, Result.andThen_ok]
        rw [hr2, hfill]
        simp [newRow, h2, SV.den, St.new, h5]
      · have hr2 := hrow z.cells (by rw [if_neg h0])
        rw [if_neg h0]
        simp only [Sem.run_bind, Sem.run_pure, hz1, Result.andThen_ok]
        rw [hr2, hfill]
        simp [newRow, h2, SV.den, St.new, h5]
    · cases h
  case makeSlice t l cp =>
    simp only [effOp, Option.bind_eq_bind, Option.bind_eq_some_iff] at h
    obtain ⟨ti, hty, h⟩ := h
    split at h
    · rename_i elem hd0
      simp only [Option.bind_eq_some_iff] at h
      obtain ⟨ei, hei, ul, hul, nl, hnl, uc, huc, nc, hnc, h⟩ := h
      split at h
      · rename_i hcond
        simp only [Bool.and_eq_true, decide_eq_true_eq] at hcond
        obtain ⟨⟨q1, q2⟩, q3⟩ := hcond
        simp only [Option.some.injEq, Prod.mk.injEq] at h
        obtain ⟨rfl, rfl⟩ := h
        have hd := (hE.ty _ _ hty).d
        rw [hd0] at hd
        simp only [descOK] at hd
        have hz := hE.ty _ _ hei
        obtain ⟨z, hz1, hz2⟩ := hz.run_zero (w := w) c
        obtain ⟨g1, _⟩ := O hul
        obtain ⟨g2, _⟩ := O huc
        obtain ⟨k1, e1⟩ := constNat_spec (c := c) hnl
        obtain ⟨k2, e2⟩ := constNat_spec (c := c) hnc
        obtain ⟨i, hi, hi1, hi2⟩ := hz.run_typeInfo (w := w)
        obtain ⟨c', h4, h5⟩ := new_led hM (ty := elem) (cells := (List.replicate nc ei.zero).flatten) (zeros_ok hz.zok nc) (v := .slice (S.new elem (List.replicate nc ei.zero).flatten).1 0 nl nc) (Nat.lt_succ_self _)
        refine ⟨c', _, h4, rfl, rfl, .inl ?_⟩
        have w1 : IntKind.i64.wrap (nl : Int) = nl := by
          unfold IntKind.wrap IntKind.signed IntKind.bits
          have : ((nl : Int) % 2 ^ 64) = nl := Int.emod_eq_of_lt (by omega) (by omega)
          simp only [this]
          rw [if_neg]
          simp only [Bool.true_and, decide_eq_true_eq, ge_iff_le, Int.not_le]
          omega
        have w2 : IntKind.i64.wrap (nc : Int) = nc := by
          unfold IntKind.wrap IntKind.signed IntKind.bits
          have : ((nc : Int) % 2 ^ 64) = nc := Int.emod_eq_of_lt (by omega) (by omega)
          simp only [this]
          rw [if_neg]
          simp only [Bool.true_and, decide_eq_true_eq, ge_iff_le, Int.not_le]
          omega
        have hzs : z.cells.size = ei.size := by rw [hz2]; simp [denL_length, hz.zlen]
        have hrow : ∀ zz : Array Value, (if nc * ei.size = 0 then zz = #[] else zz = z.cells) ->
            ((Array.range (nc * ei.size)).map fun i => zz[i % zz.size]!) = (denL c (List.replicate nc ei.zero).flatten).toArray := fun zz hzz => by
          by_cases h0 : nc * ei.size = 0
          · have : (List.replicate nc ei.zero).flatten = [] := by
              apply List.eq_nil_of_length_eq_zero
              simp [List.length_flatten, List.map_replicate, hz.zlen, h0]
            rw [this, h0]; simp [denL]
          · rw [if_neg h0] at hzz
            subst hzz
            apply Array.ext'
            rw [<- hzs, zeroRow, hz2, denL_zeros]
        have hb1 : ¬ ((nc : Int) < 0 \/ (i.bytes : Int) * nc > 2 ^ 48) := by
          rw [hi2]
          have : (ei.bytes : Int) * nc = ((nc * ei.bytes : Nat) : Int) := by push_cast; exact Int.mul_comm _ _
          rw [this]
          omega
        have hb2 : ((decide ((nc : Int) < 0) || decide ((i.bytes : Int) * nc > 2 ^ 48)) || decide ((nl : Int) < 0) || decide ((nl : Int) > nc)) = false := by
          simp only [Bool.or_eq_false_iff, decide_eq_false_iff_not]
          exact ⟨⟨⟨by omega, fun h => hb1 (.inr h)⟩, by omega⟩, by omega⟩
        simp only [execOp, Instr.makeSlice, Sem.run_bind, run_underlying hd, g1, g2, e1, e2, asInt, asIntOf, Sem.run_pure, Result.andThen_ok, hi, w1, w2]
        rw [if_neg (by rw [hb2]; simp)]
        simp only [Sem.run_bind, Result.andThen_ok, run_askRoom, hz.run_sizeOf, Int.toNat_natCast]
        by_cases h0 : nc * ei.size = 0
        · have hr2 := hrow #[] (by rw [if_pos h0])
          rw [if_pos h0]
          simp only [Sem.run_bind, Sem.run_pure, Result.andThen_ok]
          rw [hr2]
          simp [newRow, SV.den, St.new, h5]
        · have hr2 := hrow z.cells (by rw [if_neg h0])
          rw [if_neg h0]
          simp only [Sem.run_bind, Sem.run_pure, hz1, Result.andThen_ok]
          rw [hr2]
          simp [newRow, SV.den, St.new, h5]
      · cases h
    · cases h
  case store t x y =>
    simp only [effOp, Option.bind_eq_bind, Option.bind_eq_some_iff] at h
    obtain ⟨ti, hty, u, hu, h⟩ := h
    obtain ⟨ua, hua, h⟩ := h
    split at h
    · rename_i b off
      split at h
      · rename_i hc
        simp only [Bool.and_eq_true, decide_eq_true_eq] at hc
        simp only [Option.bind_eq_some_iff, Option.some.injEq, Prod.mk.injEq] at h
        obtain ⟨S1, hw, rfl, rfl⟩ := h
        obtain ⟨c1, h1, h2, h3⟩ := assign_sound (w := w) hT hM hu
        rw [opd_eq h1.tmps] at hua
        obtain ⟨g1, g2⟩ := O hua
        obtain ⟨m1, m2, m3, m4, m5, m6⟩ := write_sound (P := P) h1.rep hw (okL_cells h3)
        refine ⟨c1, _, ⟨h1.ext, by have := h1.nv; omega, by have := h1.nb; omega, m1, trivial⟩, m4.trans h1.tmps, m5.trans h1.nt, .inr ⟨?_, rfl⟩⟩
        have hcl := cells_plain (c := c1) hc.2
        rw [h2] at hcl
        have hsz : (a.eval y).cells.size = ti.size := by rw [<- Array.length_toList, hcl, denL_length]; exact hc.1
        have hst := m6 0 off rfl
        have hβ : c1.β b = c.β b := h1.ext.β b g2
        rw [hβ] at hst
        simp [execOp, Instr.storeAt, g1, SV.den, Instr.sureAddr, storeVar, hsz, (hE.ty _ _ hty).run_sizeOf, hcl, hst, hβ]
      · cases h
    · cases h
  case range t x =>
    simp only [effOp] at h
    split at h
    · rename_i s hty hx
      simp only [Option.some.injEq, Prod.mk.injEq] at h
      obtain ⟨rfl, rfl⟩ := h
      obtain ⟨h1, _⟩ := O hx
      have hd := (hE.ty _ _ hty).d
      simp only [descOK] at hd
      obtain ⟨c', g1, g2⟩ := range_led hM s
      refine ⟨c', _, g1, rfl, rfl, .inl ?_⟩
      simp only [execOp, h1, SV.den, Sem.run_bind, run_range_string w t s hd, Result.andThen_ok, Sem.run_pure, g2]
    · cases h
  case next it isStr =>
    simp only [effOp] at h
    split at h
    · rename_i b hit
      obtain ⟨h1, h1'⟩ := O hit
      split at h
      · rename_i s p hs
        obtain ⟨g1, g2, g3⟩ := hM.its b s p hs
        split at h
        · rename_i x hx
          split at h
          · rename_i ha
            simp only [Option.some.injEq, Prod.mk.injEq] at h
            obtain ⟨rfl, rfl⟩ := h
            have hlt : p < s.size := (getElem?_eq_some_iff.1 hx).1
            have hxe : s[p] = x := (getElem?_eq_some_iff.1 hx).2
            refine ⟨c, _, ⟨Ext.refl _ _ _, Nat.le_refl _, Nat.le_refl _, next_rep hM (p' := p + 1) hs, ⟨trivial, trivial, trivial, trivial⟩⟩, rfl, rfl, .inl ?_⟩
            have := Lib.run_next_ascii_at (P := P) w (c.β b) s p type g2 hlt (by rw [hxe]; exact ha)
            simp only [execOp, h1, SV.den, Sem.run_bind, this, Result.andThen_ok, Sem.run_pure, denL, IE.eval, hxe]
          · cases h
        · rename_i hx
          simp only [Option.some.injEq, Prod.mk.injEq] at h
          obtain ⟨rfl, rfl⟩ := h
          have hlt : ¬ p < s.size := fun hlt => by rw [getElem?_pos s p hlt] at hx; cases hx
          refine ⟨c, w, ⟨Ext.refl _ _ _, Nat.le_refl _, Nat.le_refl _, hM, ⟨trivial, trivial⟩⟩, rfl, rfl, .inl ?_⟩
          have := Lib.run_next_end_at (P := P) w (c.β b) s p type g2 hlt
          simp only [execOp, h1, SV.den, Sem.run_bind, this, Result.andThen_ok, Sem.run_pure, denL]
      · cases h
    · cases h
  case call cl =>
    obtain ⟨callee, args, argTypes⟩ := cl
    simp only [effOp] at h
    split at h
    · rename_i b
      obtain ⟨c', w', h1, h2, h3, h4⟩ := effBuiltin_sound (w := w) (type := type) (cs := args.map fun | .const _ => true | _ => false) hE hT hM h
      refine ⟨c', w', h1, h2, h3, .inl ?_⟩
      have hr : (execOp a.eval ⟨dst, .call ⟨.builtin b, args, argTypes⟩, type, pos, after, guard⟩) =
          builtin b argTypes type (args.map fun | .const _ => true | _ => false) (args.map a.eval) := by
        simp only [execOp, resolve]; rfl
      rw [hr]; exact h4
    · cases h
  all_goals (simp only [effOp, reduceCtorEq] at h)
end
theorem bindL_mem {α β : Type} {f : α -> Option (List β)} : ∀ {l : List α} {r : List β}, bindL l f = some r -> ∀ x ∈ l, ∃ rx, f x = some rx /\ ∀ y ∈ rx, y ∈ r
  | [], r, _, x, hx => by simp at hx
  | y :: ys, r, h, x, hx => by
    simp only [bindL] at h
    split at h
    · rename_i a b ha hb
      simp only [Option.some.injEq] at h
      subst h
      rcases List.mem_cons.1 hx with rfl | hx
      · exact ⟨a, ha, fun y hy => List.mem_append_left _ hy⟩
      · obtain ⟨rx, h1, h2⟩ := bindL_mem hb x hx
        exact ⟨rx, h1, fun y hy => List.mem_append_right _ (h2 y hy)⟩
    · cases h
def LoopWp (P : Program) (c : Code) (Q : Exit -> Act -> World -> Prop) (a : Act) (w : World) : Prop :=
  ∀ (b : Frame) (k : List Item) (cs : List Frame), ∃ e a' w', Q e a' w' /\ Arrives P (lone (b.at a (.code c :: .inLoop c :: k)) cs w) b k cs e a' w'
theorem LoopWp.wp {P : Program} {c : Code} {Q : Exit -> Act -> World -> Prop} {a : Act} {w : World} (h : LoopWp P c Q a w) : (Code.loop c).wp P Q a w :=
  fun b k cs => let ⟨e, a', w', q, r⟩ := h b k cs; ⟨e, a', w', q, .of_steps (.one step_loop) r⟩
theorem LoopWp.round {P : Program} {c : Code} {Q : Exit -> Act -> World -> Prop} {a : Act} {w : World}
    (h : c.wp P (Exit.then (LoopWp P c Q) Q) a w) : LoopWp P c Q a w := by
  intro b k cs
  obtain ⟨e, a₁, w₁, hq, harr⟩ := h b (.inLoop c :: k) cs
  cases e with
  | normal =>
    obtain ⟨e₂, a₂, w₂, hq₂, harr₂⟩ := hq b k cs
    exact ⟨e₂, a₂, w₂, hq₂, .of_steps (Steps.trans harr (.one step_inLoop)) harr₂⟩
  | exit id => exact ⟨_, a₁, w₁, hq, .pass (x := .inLoop c) rfl (fun _ _ => .inl (by simp)) harr⟩
  | goto l => exact ⟨_, a₁, w₁, hq, .pass (x := .inLoop c) rfl (fun _ _ => .inl (by simp)) harr⟩
  | ret => exact ⟨_, a₁, w₁, hq, .pass (x := .inLoop c) rfl (fun _ _ => .inl (by simp)) harr⟩
  | panic ch => exact ⟨_, a₁, w₁, hq, .pass (x := .inLoop c) rfl (fun _ _ => .inl (by simp)) harr⟩
  | outgrown => exact ⟨_, a₁, w₁, hq, .pass (x := .inLoop c) rfl (fun _ _ => .inl (by simp)) harr⟩
def CodeWp (P : Program) (Q : Exit -> Act -> World -> Prop) (a : Act) (w : World) : Code -> Prop
  | .loop b => LoopWp P b Q a w
  | c => c.wp P Q a w
theorem CodeWp.wp {P : Program} {Q : Exit -> Act -> World -> Prop} {a : Act} {w : World} {c : Code} (h : CodeWp P Q a w c) : c.wp P Q a w := by
  cases c <;> first | exact h | exact LoopWp.wp h
def Out.toExit : Out -> Exit
  | .normal => .normal
  | .exit id => .exit id
  | .ret => .ret
theorem initTmps_get : ∀ {l : List SV} {i : Nat} {t : Tr SV} {j : Nat} {v : SV}, (initTmps i l t).get (path j) = some v ->
    (∃ m, j = i + m /\ l[m]? = some v) \/ t.get (path j) = some v
  | [], _, _, _, _, h => .inr h
  | u :: l, i, t, j, v, h => by
    simp only [initTmps] at h
    rcases initTmps_get h with ⟨m, h1, h2⟩ | h
    · exact .inl ⟨m + 1, by omega, by simpa using h2⟩
    · rw [Tr.get_set] at h
      split at h
      · rename_i e
        simp only [Option.some.injEq] at h
        exact .inl ⟨0, by omega, by simp [h]⟩
      · exact .inr h
section
variable {P : Program} {X : Tk} {E : Env}
def resF (a : Act) : ResultVar -> Sem Value
  | .tmp t => pure (a.tmps.getD t undef)
  | .cell p t => do loadVar t (<- asAddr (a.tmps.getD p undef))
theorem result_sound (hE : EnvOK P X E) {w0 : Base} {c : Ctx} {S : St} {a : Act} {w : World} {fn : Func} {v : SV} (hT : TRep c S.tmps S.nt S.nv S.nb a) (hM : MRep X w0 c S w) (h : resultSV E fn S = some v) :
    (results fn a.tmps).run P w = .ok (v.den c) w /\ v.ok S.nv S.nb := by
  unfold resultSV at h
  simp only [Option.bind_eq_bind, Option.bind_eq_some_iff] at h
  obtain ⟨vs, hvs, h⟩ := h
  have key : ∀ (l : List ResultVar) (vs : List SV), optMap (resultOf E S) l = some vs ->
      (l.mapM (resF a)).run P w = .ok (denL c vs) w /\ okL S.nv S.nb vs := by
    intro l
    induction l with
    | nil => intro vs h; simp only [optMap, Option.some.injEq] at h; subst h; exact ⟨by simp [denL], trivial⟩
    | cons r l ih =>
      intro vs h
      simp only [optMap] at h
      split at h
      · rename_i y ys hy hys
        simp only [Option.some.injEq] at h
        subst h
        obtain ⟨h1, h2⟩ := ih ys hys
        cases r with
        | cell p t =>
          simp only [resultOf] at hy
          split at hy
          · rename_i u hu
            obtain ⟨g1, g2⟩ := hT.tmps p u hu
            unfold cellRes at hy
            split at hy
            · rename_i b off
              obtain ⟨k1, k2⟩ := loadSV_sound (P := P) hE hM hy g2
              refine ⟨?_, k2, h2⟩
              have k3 : (loadVar t ⟨c.β b, off, none⟩).run P w = .ok (y.den c) w := by
                simpa [Instr.loadAt, SV.den, Instr.sureAddr] using k1
              have k4 : (resF a (.cell p t)).run P w = .ok (y.den c) w := by
                simp only [resF, g1, SV.den, asAddr, Sem.run_bind, Sem.run_pure, Result.andThen_ok, k3]
              rw [List.mapM_cons]
              simp only [Sem.run_bind, k4, Result.andThen_ok]
              rw [h1]
              simp only [Result.andThen_ok, Sem.run_pure, denL]
            · cases hy
          · cases hy
        | tmp t =>
          obtain ⟨g1, g2⟩ := hT.tmps t y hy
          refine ⟨?_, g2, h2⟩
          have k4 : (resF a (.tmp t)).run P w = .ok (y.den c) w := by simp only [resF, Sem.run_pure, g1]
          rw [List.mapM_cons]
          simp only [Sem.run_bind, k4, Result.andThen_ok]
          rw [h1]
          simp only [Result.andThen_ok, Sem.run_pure, denL]
      · cases h
  obtain ⟨h1, h2⟩ := key fn.results.toList vs hvs
  have hm : (fn.results.mapM (resF a)).run P w = .ok (denL c vs).toArray w := by
    rw [Array.mapM_eq_mapM_toList, Sem.run_map]
    rw [h1]; rfl
  have hr : (results fn a.tmps).run P w = .ok (if h : (denL c vs).toArray.size = 1 then (denL c vs).toArray[0] else .tuple (denL c vs).toArray) w := by
    unfold results
    rw [Sem.run_bind]
    exact (congrArg (fun (r : Result (Array Value)) => r.andThen fun vs w' => (pure (if h : vs.size = 1 then vs[0] else .tuple vs) : Sem Value).run P w') hm).trans rfl
  rw [hr]
  split at h
  · rename_i u
    simp only [Option.some.injEq] at h
    subst h
    exact ⟨by simp [denL], h2.1⟩
  · rename_i hne
    simp only [Option.some.injEq] at h
    subst h
    refine ⟨?_, h2⟩
    have : (denL c vs).toArray.size ≠ 1 := by
      simp only [List.size_toArray, denL_length]
      intro e
      obtain ⟨u, hu⟩ := List.length_eq_one_iff.1 e
      exact hne u hu
    rw [dif_neg this]
    rfl
theorem callee_run {c : Ctx} {S : St} {a : Act} {w : World} {o : Oper} {f : FuncId} {args : List SV} (hE : EnvOK P X E) (hT : TRep c S.tmps S.nt S.nv S.nb a) (h : calleeOf E S o = some (f, args)) :
    (execOp a.eval o).run P w = (callFunc f (denL c args).toArray).run P w /\ okL S.nv S.nb args := by
  obtain ⟨dst, op, type, pos, after, guard⟩ := o
  unfold calleeOf at h
  cases op <;> simp only [reduceCtorEq] at h
  rename_i cl
  obtain ⟨callee, as, argTypes⟩ := cl
  have key : ∀ (l : List Operand) (r : List SV), optMap (opd S) l = some r -> l.map a.eval = denL c r /\ okL S.nv S.nb r := by
    intro l
    induction l with
    | nil => intro r h; simp only [optMap, Option.some.injEq] at h; subst h; exact ⟨rfl, trivial⟩
    | cons x l ih =>
      intro r h
      simp only [optMap] at h
      split at h
      · rename_i y ys hy hys
        simp only [Option.some.injEq] at h
        subst h
        obtain ⟨g1, g2⟩ := opd_sound hT hy
        obtain ⟨g3, g4⟩ := ih ys hys
        exact ⟨by simp [denL, g1, g3], g2, g4⟩
      · cases h
  cases callee <;> simp only [reduceCtorEq] at h
  case invoke r name =>
    split at h
    · rename_i t v args' hr hargs
      split at h
      · rename_i f' hf
        simp only [Option.some.injEq, Prod.mk.injEq] at h
        obtain ⟨rfl, rfl⟩ := h
        obtain ⟨h1, h1'⟩ := opd_sound hT hr
        obtain ⟨h2, h3⟩ := key _ _ hargs
        obtain ⟨i, m, e, k1, k2, k3, k4, k5⟩ := hE.meth t name f' hf
        refine ⟨?_, h1', h3⟩
        have ha : as.map a.eval = (denL c args').toArray := by
          apply Array.ext'
          rw [Array.toList_map, h2]
        obtain ⟨fuel, hfuel⟩ : ∃ fuel, P.types.size + Made.depth = fuel + 1 := ⟨P.types.size + 99, rfl⟩
        have hmeth : (Go.method (P.types.size + Made.depth) t (v.den c) name).run P w = .ok (f', v.den c) w := by
          rw [hfuel]
          simp [Go.method, typeInfo, k1, k2, k3, k4, Go.follow, Go.receiverAt, run_underlying k5, Go.Place.get]
        simp [execOp, resolve, invoke, h1, SV.den, ha, callMethod, denL]
        rw [hmeth]
        simp
      · cases h
    · cases h
  rename_i fo
  split at h
  · rename_i u hu
    split at h
    · rename_i f' args' hf hargs
      simp only [Option.some.injEq, Prod.mk.injEq] at h
      obtain ⟨rfl, rfl⟩ := h
      have hu' : u = .val (.func (.func f') #[] #[]) := by
        unfold funcOf at hf
        split at hf
        · rename_i g x y
          split at hf
          · rename_i hxy
            simp only [Bool.and_eq_true, Array.isEmpty_iff] at hxy
            simp only [Option.some.injEq] at hf
            obtain ⟨rfl, rfl⟩ := hxy
            rw [hf]
          · cases hf
        · cases hf
      subst hu'
      obtain ⟨h1, _⟩ := opd_sound hT hu
      obtain ⟨h2, h3⟩ := key _ _ hargs
      refine ⟨?_, h3⟩
      have ha : as.map a.eval = (denL c args').toArray := by
        apply Array.ext'
        rw [Array.toList_map, h2]
      simp [execOp, resolve, h1, SV.den, Deferred.ofValue, invoke, ha]
    · cases h
  · cases h
theorem callFunc_enter {f : FuncId} {args : Array Value} {w : World} (h : FnOK P f) : (callFunc f args).run P w = .ok (.enter f args) w := by
  obtain ⟨fn, h1, h2, h3⟩ := h
  have h2' : ¬ fn.name = "runtime.NumGoroutine" := by simpa using h2
  have h3' : fn.body ≠ none := fun e => by rw [e] at h3; simp at h3
  simp [callFunc, h1, h2', h3']
end
section
variable {P : Program} {X : Tk} {E : Env}
def OneOK (P : Program) (X : Tk) (E : Env) (n : Nat) : Prop :=
  ∀ o S b ls, execOne E n o S = some (b, ls) -> ∀ w0 c a w, TRep c S.tmps S.nt S.nv S.nb a -> MRep X w0 c S w ->
    o.guard = none /\ ∀ (next : Act -> World -> Prop) Q,
      (∀ v S', (v, S') ∈ ls -> S'.tmps = S.tmps -> S'.nt = S.nt -> ∀ c' w', Led X w0 c c' S S' w' v -> next (a.put o.dst (v.den c')) w') -> o.wp P a w next Q
def OpsOK (P : Program) (X : Tk) (E : Env) (n : Nat) : Prop :=
  ∀ (ops : Array Oper) l S Ss, execOps E n ops.toList l S = some Ss -> ∀ w0 c a w, TRep c S.tmps S.nt S.nv S.nb a -> MRep X w0 c S w ->
    ∀ Q, (∀ S' ∈ Ss, ∀ c' a' w', Ext S.nv S.nb c c' -> S.nv <= S'.nv -> S.nb <= S'.nb -> TRep c' S'.tmps S'.nt S'.nv S'.nb a' -> MRep X w0 c' S' w' -> Q .normal a' w') -> wpList P ops Q l a w
def CodeSp (P : Program) (X : Tk) (k : Code) (sp : Bs) : Prop :=
  ∀ S ls, sp S = some ls -> ∀ w0 c a w, TRep c S.tmps S.nt S.nv S.nb a -> MRep X w0 c S w ->
    ∀ Q, (∀ o S', (o, S') ∈ ls -> ∀ c' a' w', Ext S.nv S.nb c c' -> S.nv <= S'.nv -> S.nb <= S'.nb -> TRep c' S'.tmps S'.nt S'.nv S'.nb a' -> MRep X w0 c' S' w' -> Q o.toExit a' w') -> k.wp P Q a w
def BOK (P : Program) (X : Tk) (B : BSp) : Code -> Prop
  | .seq a b => BOK P X B a /\ BOK P X B b
  | .cond _ t e => BOK P X B t /\ BOK P X B e
  | .block id b => (∀ sp, B id = some sp -> CodeSp P X (.block id b) sp) /\ BOK P X B b
  | .loop b => BOK P X B b
  | _ => True
theorem BOK_none {P : Program} {X : Tk} : ∀ k, BOK P X (fun _ => none) k
  | .seq a b => ⟨BOK_none a, BOK_none b⟩
  | .cond _ t e => ⟨BOK_none t, BOK_none e⟩
  | .block _ b => ⟨fun _ h => (nomatch h), BOK_none b⟩
  | .loop b => BOK_none b
  | .skip => trivial
  | .region _ _ _ => trivial
  | .exit _ => trivial
  | .ret => trivial
  | .rangeFunc _ _ _ _ => trivial
  | .scope _ => trivial
  | .label _ => trivial
  | .goto _ => trivial
  | .refuse _ => trivial
def CodeOK (P : Program) (X : Tk) (E : Env) (n : Nat) : Prop :=
  ∀ B k S ls, exec E n B k S = some ls -> BOK P X B k -> ∀ w0 c a w, TRep c S.tmps S.nt S.nv S.nb a -> MRep X w0 c S w ->
    ∀ Q, (∀ o S', (o, S') ∈ ls -> ∀ c' a' w', Ext S.nv S.nb c c' -> S.nv <= S'.nv -> S.nb <= S'.nb -> TRep c' S'.tmps S'.nt S'.nv S'.nb a' -> MRep X w0 c' S' w' -> Q o.toExit a' w') -> CodeWp P Q a w k
def CallOK (P : Program) (X : Tk) (E : Env) (n : Nat) : Prop :=
  ∀ f args S ls, execCall E n f args S = some ls -> ∀ w0 c w, MRep X w0 c S w -> okL S.nv S.nb args -> FnOK P f /\
    ∀ R : Ending -> World -> Prop, (∀ v S', (v, S') ∈ ls -> ∀ c' w', Led X w0 c c' S S' w' v -> R (.returned (v.den c')) w') -> Calls P f (denL c args).toArray w R
theorem one_step (hE : EnvOK P X E) {n : Nat} (hcall : CallOK P X E n) : OneOK P X E (n + 1) := by
  intro o S b ls h w0 c a w hT hM
  simp only [execOne] at h
  split at h
  · cases h
  rename_i hg
  have hg' : o.guard = none := by simpa using hg
  refine ⟨hg', fun next Q hn => ?_⟩
  split at h
  · rename_i v hv
    simp only [Option.some.injEq, Prod.mk.injEq] at h
    obtain ⟨rfl, rfl⟩ := h
    obtain ⟨h1, h2⟩ := pureOp_sound (P := P) hE hT hM hv
    simp only [Oper.wp, h1, Oper.upon]
    exact hn v S (by simp) rfl rfl c w ⟨Ext.refl _ _ _, Nat.le_refl _, Nat.le_refl _, hM, h2⟩
  · split at h
    · rename_i r hr
      simp only [Option.some.injEq, Prod.mk.injEq] at h
      obtain ⟨rfl, rfl⟩ := h
      obtain ⟨v, S'⟩ := r
      obtain ⟨c', w', h1, h2, h3, h4⟩ := effOp_sound (P := P) hE hT hM hr
      have := hn v S' (by simp) h2 h3 c' w' h1
      rcases h4 with h4 | ⟨h4, h5⟩
      · simp only [Oper.wp, h4, Oper.upon]; exact this
      · simp only [Oper.wp, h4, Oper.upon]; rw [<- h5]; exact this
    · simp only [Option.bind_eq_bind, Option.bind_eq_some_iff] at h
      obtain ⟨⟨f, args⟩, hc, h⟩ := h
      obtain ⟨g1, g2⟩ := callee_run (P := P) (w := w) hE hT hc
      simp only [] at h
      split at h
      · rename_i g hg
        simp only [Option.bind_eq_some_iff, Option.some.injEq, Prod.mk.injEq] at h
        obtain ⟨⟨v, S'⟩, hr, rfl, rfl⟩ := h
        obtain ⟨c', w', h1, h4⟩ := hE.ext f g hg args _ v S' hr w0 c w (hM.tmps_irrel _ _) g2
        simp only [Oper.wp, g1, h4, Oper.upon]
        exact hn v { S' with tmps := S.tmps, nt := S.nt } (by simp) rfl rfl c' w' ⟨h1.ext, h1.nv, h1.nb, h1.rep.tmps_irrel _ _, h1.ok⟩
      · simp only [Option.bind_eq_some_iff, Option.some.injEq, Prod.mk.injEq] at h
        obtain ⟨ls', hls, rfl, rfl⟩ := h
        obtain ⟨hf, hcalls⟩ := hcall f args _ ls' hls w0 c w (hM.tmps_irrel _ _) g2
        simp only [Oper.wp, g1, callFunc_enter hf, Oper.upon]
        refine hcalls _ fun v S' hm c' w' hl => ?_
        refine hn v { S' with tmps := S.tmps, nt := S.nt } (List.mem_map.2 ⟨(v, S'), hm, rfl⟩) rfl rfl c' w' ?_
        exact ⟨hl.ext, hl.nv, hl.nb, hl.rep.tmps_irrel _ _, hl.ok⟩
theorem know_rep {c : Ctx} {S : St} {a : Act} {w : World} {w0 : Base} {t : Tmp} {e : BE} {b : Bool} (hT : TRep c S.tmps S.nt S.nv S.nb a) (hM : MRep X w0 c S w)
    (hg : S.tmps.get (path t) = some (.bexp e)) (he : e.eval c.ρ = b) :
    TRep c (S.know t e b).tmps (S.know t e b).nt (S.know t e b).nv (S.know t e b).nb a /\ MRep X w0 c (S.know t e b) w := by
  obtain ⟨h1, h2⟩ := hT.tmps t _ hg
  refine ⟨⟨hT.defers, hT.size, fun i v hv => ?_⟩, ?_⟩
  · simp only [St.know, Tr.get_set] at hv
    split at hv
    · rename_i hi
      simp only [Option.some.injEq] at hv
      subst hv; subst hi
      refine ⟨?_, trivial⟩
      rw [h1]; simp only [SV.den, he]
    · exact hT.tmps i v hv
  · have := hM.more (ks := [.test e b]) (Nat.le_refl _) (Ext.refl _ _ _) (by
      intro k hk
      simp only [List.mem_singleton] at hk
      subst hk
      exact ⟨h2, he⟩) hM.bd
    exact this.tmps_irrel (Tr.set (.bool b) (path t) S.tmps) S.nt
theorem yields_bool {ops : Array Oper} {a : Act} {j : Nat} {p : Oper} {t : Tmp} {b : Bool} (hj : ops.toList[j]? = some p) (hd : p.dst = some t) (hv : a.tmps.getD t undef = .bool b) : yielded ops a.tmps j = some b := by
  have hj' : ops[j]? = some p := by simpa using hj
  unfold yielded
  simp only [hj', Option.bind_some, hd]
  simp only [Array.getD_eq_getD_getElem?] at hv
  cases h : a.tmps[t]? with
  | none => rw [h] at hv; simp [undef] at hv
  | some v => rw [h] at hv; simp at hv; simp [hv]
theorem yields_undef {ops : Array Oper} {a : Act} {j : Nat} {p : Oper} {t : Tmp} (hj : ops.toList[j]? = some p) (hd : p.dst = some t) (hv : a.tmps.getD t undef = undef) : yielded ops a.tmps j = none := by
  have hj' : ops[j]? = some p := by simpa using hj
  unfold yielded
  simp only [hj', Option.bind_some, hd]
  simp only [Array.getD_eq_getD_getElem?] at hv
  cases h : a.tmps[t]? with
  | none => rfl
  | some v => rw [h] at hv; simp at hv; simp [hv, undef]
theorem ops_step {n : Nat} (hone : OneOK P X E n) (hops : OpsOK P X E n) : OpsOK P X E (n + 1) := by
  intro ops l S Ss h w0 c a w hT hM Q hQ
  cases l with
  | nil =>
    simp only [execOps, Option.some.injEq] at h
    subst h
    exact wpList_nil (hQ S (by simp) c a w (Ext.refl _ _ _) (Nat.le_refl _) (Nat.le_refl _) hT hM)
  | cons o rest =>
    have putT : ∀ {c' : Ctx} {S' : St} {v : SV}, okDst S' o.dst = true -> TRep c' S'.tmps S'.nt S'.nv S'.nb a -> v.ok S'.nv S'.nb ->
        TRep c' (S'.put o.dst v).tmps (S'.put o.dst v).nt (S'.put o.dst v).nv (S'.put o.dst v).nb (a.put o.dst (v.den c')) := fun {c' S' v} hd hT' hok => by
      cases hdst : o.dst with
      | none => exact hT'
      | some d =>
        rw [hdst] at hd
        simp only [okDst, decide_eq_true_eq] at hd
        exact hT'.put hd hok
    have putM : ∀ {c' : Ctx} {S' : St} {v : SV} {w' : World}, MRep X w0 c' S' w' -> MRep X w0 c' (S'.put o.dst v) w' := fun {c' S' v w'} h => by
      cases hdst : o.dst with
      | none => exact h
      | some d => exact h.tmps_irrel _ _
    have e1 : ∀ (S' : St) v, (S'.put o.dst v).nv = S'.nv := fun S' v => by cases o.dst <;> rfl
    have e2 : ∀ (S' : St) v, (S'.put o.dst v).nb = S'.nb := fun S' v => by cases o.dst <;> rfl
    have hgo : ∀ (S1 : St) Ss1, (do
          let (_, ls) <- execOne E n { o with guard := none } S1
          bindL ls fun (v, S') => if okDst S' o.dst then execOps E n ops.toList rest (S'.put o.dst v) else none) = some Ss1 ->
        Region.wanted o (yielded ops a.tmps) = true -> TRep c S1.tmps S1.nt S1.nv S1.nb a -> MRep X w0 c S1 w ->
        (∀ S' ∈ Ss1, ∀ c' a' w', Ext S1.nv S1.nb c c' -> S1.nv <= S'.nv -> S1.nb <= S'.nb -> TRep c' S'.tmps S'.nt S'.nv S'.nb a' -> MRep X w0 c' S' w' -> Q .normal a' w') ->
        wpList P ops Q (o :: rest) a w := by
      intro S1 Ss1 h hwant hT hM hQ
      simp only [Option.bind_eq_bind, Option.bind_eq_some_iff] at h
      obtain ⟨⟨b, ls⟩, h1, h2⟩ := h
      obtain ⟨_, hw⟩ := hone _ S1 b ls h1 w0 c a w hT hM
      refine wpList_step fun K hK => ?_
      rw [if_pos hwant]
      refine hw K Q fun v S' hm ht hnt c' w' hl => hK _ _ ?_
      obtain ⟨rx, h3, h4⟩ := bindL_mem h2 (v, S') hm
      simp only [] at h3
      split at h3
      · rename_i hd
        have hT' : TRep c' S'.tmps S'.nt S'.nv S'.nb a := by
          rw [ht, hnt]; exact hT.ext hl.ext hl.nv hl.nb
        refine hops ops rest _ rx h3 w0 c' _ w' (putT hd hT' hl.ok) (putM hl.rep) Q fun S'' hS'' c'' a'' w'' he hnv hnb hT'' hM'' => ?_
        rw [e1, e2] at he
        rw [e1] at hnv
        rw [e2] at hnb
        exact hQ S'' (h4 S'' hS'') c'' a'' w'' (hl.ext.trans he hl.nv hl.nb) (Nat.le_trans hl.nv hnv) (Nat.le_trans hl.nb hnb) hT'' hM''
      · cases h3
    have hskip : ∀ (S1 : St) Ss1, (if okDst S1 o.dst then execOps E n ops.toList rest (S1.put o.dst (.tup [])) else none) = some Ss1 ->
        Region.wanted o (yielded ops a.tmps) = false -> TRep c S1.tmps S1.nt S1.nv S1.nb a -> MRep X w0 c S1 w ->
        (∀ S' ∈ Ss1, ∀ c' a' w', Ext S1.nv S1.nb c c' -> S1.nv <= S'.nv -> S1.nb <= S'.nb -> TRep c' S'.tmps S'.nt S'.nv S'.nb a' -> MRep X w0 c' S' w' -> Q .normal a' w') ->
        wpList P ops Q (o :: rest) a w := by
      intro S1 Ss1 h hwant hT hM hQ
      split at h
      · rename_i hd
        refine wpList_step fun K hK => ?_
        rw [if_neg (by rw [hwant]; simp)]
        refine hK _ _ ?_
        refine hops ops rest _ Ss1 h w0 c _ w (putT (v := .tup []) hd hT trivial) (putM hM) Q fun S'' hS'' c'' a'' w'' he hnv hnb hT'' hM'' => ?_
        rw [e1, e2] at he
        rw [e1] at hnv
        rw [e2] at hnb
        exact hQ S'' hS'' c'' a'' w'' he hnv hnb hT'' hM''
      · cases h
    simp only [execOps] at h
    split at h
    · rename_i hg
      refine hgo S Ss h ?_ hT hM hQ
      unfold guardOf at hg
      unfold Region.wanted
      split at hg
      · rename_i hn; rw [hn]
      · rename_i j want hn
        rw [hn]
        split at hg
        · rename_i p hp
          split at hg
          · rename_i t ht
            split at hg <;> simp only [Option.some.injEq, reduceCtorEq] at hg
            rename_i b hb
            have := yields_bool hp ht (hT.tmps t _ hb).1
            simp only [this]
            split at hg
            · rename_i hbw; simp at hbw; simp [hbw]
            · cases hg
          · cases hg
        · cases hg
    · rename_i hg
      refine hskip S Ss h ?_ hT hM hQ
      unfold guardOf at hg
      unfold Region.wanted
      split at hg
      · cases hg
      · rename_i j want hn
        rw [hn]
        split at hg
        · rename_i p hp
          split at hg
          · rename_i t ht
            split at hg <;> simp only [Option.some.injEq, reduceCtorEq] at hg
            · rename_i b hb
              have := yields_bool hp ht (hT.tmps t _ hb).1
              simp only [this]
              split at hg
              · cases hg
              · rename_i hbw; simpa using hbw
            · rename_i hb
              have := yields_undef hp ht (hT.tmps t _ hb).1
              simp only [this]
              rfl
          · cases hg
        · cases hg
    · rename_i t e want hg
      split at h
      · rename_i la lb ha hb
        simp only [Option.some.injEq] at h
        subst h
        unfold guardOf at hg
        split at hg
        · simp at hg
        · rename_i j want' hn
          split at hg
          · rename_i p hp
            split at hg
            · rename_i t' ht
              split at hg <;> simp only [Option.some.injEq, reduceCtorEq] at hg
              · split at hg <;> cases hg
              · rename_i e' hb'
                simp only [Gd.test.injEq] at hg
                obtain ⟨rfl, rfl, rfl⟩ := hg
                have hval := (hT.tmps t' _ hb').1
                simp only [SV.den] at hval
                have hy := yields_bool hp ht hval
                by_cases hcase : e'.eval c.ρ = want'
                · obtain ⟨k1, k2⟩ := know_rep (X := X) (b := want') hT hM hb' hcase
                  refine hgo _ la ha ?_ k1 k2 fun S' hS' => hQ S' (List.mem_append_left _ hS')
                  unfold Region.wanted
                  rw [hn]
                  simp only [hy, hcase, beq_self_eq_true]
                · have hcase' : e'.eval c.ρ = !want' := by cases h1 : e'.eval c.ρ <;> cases h2 : want' <;> simp_all
                  obtain ⟨k1, k2⟩ := know_rep (X := X) (b := !want') hT hM hb' hcase'
                  refine hskip _ lb hb ?_ k1 k2 fun S' hS' => hQ S' (List.mem_append_right _ hS')
                  unfold Region.wanted
                  rw [hn]
                  simp only [hy, hcase']
                  cases want' <;> rfl
            · cases hg
          · cases hg
      · cases h
    · cases h
theorem call_step (hE : EnvOK P X E) {n : Nat} (hcode : CodeOK P X E n) : CallOK P X E (n + 1) := by
  intro f args S ls h w0 c w hM hok
  simp only [execCall] at h
  obtain ⟨c1, h1, h2, h3, h4⟩ := nameL_sound hM hok
  generalize hA : (nameL S args).1 = args1 at *
  generalize hS : (nameL S args).2 = S1 at *
  rw [<- h2]
  split at h
  · rename_i ls0 hsp
    simp only [Option.some.injEq] at h
    subst h
    unfold specOf at hsp
    split at hsp
    case h_2 => cases hsp
    rename_i sp hsp'
    obtain ⟨hf, hs⟩ := hE.spec f sp hsp'
    refine ⟨hf, fun R hR => ?_⟩
    refine hs args1 S1 ls0 hsp w0 c1 w h1.rep h3 R fun v S' hm c' w' hl => hR v S' hm c' w' ?_
    exact ⟨h1.ext.trans hl.ext h1.nv (by rw [h1.nb]; exact Nat.le_refl _), Nat.le_trans h1.nv hl.nv, by have := hl.nb; have := h1.nb; omega, hl.rep, hl.ok⟩
  · simp only [Option.bind_eq_bind, Option.bind_eq_some_iff] at h
    obtain ⟨fn, hfn, body, hbody, ls', hls, h⟩ := h
    obtain ⟨hfn1, hfn2⟩ := hE.fn f fn hfn
    refine ⟨⟨fn, hfn1, hfn2, by simp [hbody]⟩, fun R hR => ?_⟩
    refine calls_of_wp hfn1 hbody (CodeWp.wp ?_)
    have hT : TRep c1 (initTmps 0 args1 .nil) (max args1.length fn.ntmps) S1.nv S1.nb
        { tmps := (denL c1 args1).toArray ++ Array.replicate (fn.ntmps - (denL c1 args1).toArray.size) undef, defers := [] } := by
      refine ⟨rfl, ?_, fun i v hv => ?_⟩
      · simp [denL_length]; omega
      · rcases initTmps_get hv with ⟨m, e, hm⟩ | hm
        · have e' : m = i := by omega
          subst e'
          refine ⟨?_, okL_get h3 hm⟩
          have hlt : m < (denL c1 args1).toArray.size := by
            rw [List.size_toArray, denL_length]
            rcases Nat.lt_or_ge m args1.length with h | h
            · exact h
            · rw [List.getElem?_eq_none h] at hm; cases hm
          simp only [Array.getD_eq_getD_getElem?]
          rw [Array.getElem?_append_left hlt]
          simp [denL_map, hm]
        · rw [Tr.get_nil] at hm; cases hm
    refine hcode _ body _ ls' hls (BOK_none body) w0 c1 _ w hT (h1.rep.tmps_irrel _ _) _ ?_
    intro o S' hm c' a' w' he hnv hnb hT' hM'
    obtain ⟨rx, g1, g2⟩ := bindL_mem h (o, S') hm
    have hL : ∀ v : SV, v.ok S'.nv S'.nb -> Led X w0 c c' S S' w' v := fun v hv =>
      ⟨h1.ext.trans he h1.nv (by rw [h1.nb]; exact Nat.le_refl _), Nat.le_trans h1.nv hnv, by have := h1.nb; have : S1.nb <= S'.nb := hnb; omega, hM', hv⟩
    have fin : ∀ rx : List (SV × St), (do some [(<- resultSV E fn S', S')] : Option (List (SV × St))) = some rx -> (∀ y ∈ rx, y ∈ ls) ->
        a'.defers = [] /\ ∃ v, (results fn a'.tmps).run P w' = .ok v w' /\ R (.returned v) w' := fun rx h g => by
      simp only [Option.bind_eq_bind, Option.bind_eq_some_iff, Option.some.injEq] at h
      obtain ⟨v, hv, rfl⟩ := h
      obtain ⟨k1, k2⟩ := result_sound (P := P) (w := w') hE hT' hM' hv
      exact ⟨hT'.defers, _, k1, hR v S' (g _ (by simp)) c' w' (hL v k2)⟩
    cases o with
    | normal => exact fin rx g1 g2
    | ret => exact fin rx g1 g2
    | exit id => simp at g1
end
def withT (S : St) (t : Tr SV) : St := { S with tmps := t }
theorem optMap_congr {α β : Type} {f g : α -> Option β} : ∀ {l : List α}, (∀ x ∈ l, f x = g x) -> optMap f l = optMap g l
  | [], _ => rfl
  | x :: xs, h => by simp only [optMap]; rw [h x (by simp), optMap_congr fun y hy => h y (by simp [hy])]
theorem same_be : ∀ {a b : BE}, beSame a b = true -> a = b
  | a, b, h => by
    unfold beSame at h
    split at h
    · rename_i o a b o' c d
      simp only [Bool.and_eq_true, beq_iff_eq] at h
      obtain ⟨⟨h1, h2⟩, h3⟩ := h
      rw [h1, same_ie h2, same_ie h3]
    · rename_i a b; rw [same_be (a := a) (b := b) h]
    · cases h
mutual
theorem same_spec : ∀ {a b : SV}, SV.same a b = true -> a = b
  | a, b, h => by
    unfold SV.same at h
    split at h
    · simp only [Bool.and_eq_true, beq_iff_eq] at h; rw [h.1, same_ie h.2]
    · simp only [beq_iff_eq] at h; rw [h]
    · rw [same_be h]
    · simp only [Bool.and_eq_true, beq_iff_eq] at h; rw [h.1, h.2]
    · rfl
    · simp only [Bool.and_eq_true, beq_iff_eq] at h; obtain ⟨⟨⟨h1, h2⟩, h3⟩, h4⟩ := h; rw [h1, h2, h3, h4]
    · rfl
    · simp only [Bool.and_eq_true, beq_iff_eq] at h; obtain ⟨⟨h1, h2⟩, h3⟩ := h; rw [h1, h2, h3]
    · simp only [Bool.and_eq_true, beq_iff_eq] at h; rw [h.1, h.2]
    · simp only [Bool.and_eq_true, beq_iff_eq] at h; obtain ⟨⟨⟨⟨h1, h2⟩, h3⟩, h4⟩, h5⟩ := h; rw [h1, h2, h3, same_ie h4, h5]
    · simp only [Bool.and_eq_true, beq_iff_eq] at h; obtain ⟨⟨⟨⟨h1, h2⟩, h3⟩, h4⟩, h5⟩ := h; rw [h1, h2, h3, h4, same_ie h5]
    · rename_i l l'; rw [sameL_spec (l := l) (l' := l') h]
    · rename_i l l'; rw [sameL_spec (l := l) (l' := l') h]
    · rename_i t v t' v'; simp only [Bool.and_eq_true, beq_iff_eq] at h; rw [h.1, same_spec (a := v) (b := v') h.2]
    · rfl
    · rfl
    · rename_i x y
      simp only [beq_iff_eq] at h
      have : x = y := by
        cases x; cases y
        simp only [ByteArray.mk.injEq]
        exact Array.toList_inj.1 h
      rw [this]
    · simp only [Bool.and_eq_true, beq_iff_eq, Array.isEmpty_iff] at h
      obtain ⟨⟨⟨⟨h1, h2⟩, h3⟩, h4⟩, h5⟩ := h
      rw [h1, h2, h3, h4, h5]
    · cases h
theorem sameL_spec : ∀ {l l' : List SV}, sameL l l' = true -> l = l'
  | l, l', h => by
    unfold sameL at h
    split at h
    · rfl
    · rename_i v l v' l'
      simp only [Bool.and_eq_true] at h
      rw [same_spec (a := v) (b := v') h.1, sameL_spec (l := l) (l' := l') h.2]
    · cases h
end
section
variable {E : Env} {S : St} {t : Tr SV}
theorem pureOp_congr {o : Oper} (h : ∀ x ∈ o.op.operands, opd (withT S t) x = opd S x) : pureOp E (withT S t) o = pureOp E S o := by
  have hmem : (withT S t).mem = S.mem := rfl
  have hbd : (withT S t).bd = S.bd := rfl
  obtain ⟨dst, op, type, pos, after, guard⟩ := o
  cases op <;> simp only [Op.operands] at h
  case build ty ps =>
    simp only [pureOp]
    rw [optMap_congr (g := fun (p : Nat × Operand) => (opd S p.2).map fun v => (p.1, v)) fun p hp => by
      rw [h p.2 (by simp; exact ⟨p.1, by simpa using hp⟩)]]
  case call cl =>
    obtain ⟨callee, as, ts⟩ := cl
    cases callee <;> simp only [pureOp]
    rename_i b
    have h' : ∀ x ∈ as.toList, opd (withT S t) x = opd S x := fun x hx => h x (by simp [Call.operands]; simpa using hx)
    unfold pureBuiltin
    split
    · rename_i x _ ha _; rw [h' x (by rw [ha]; simp), hbd]
    · rename_i x _ ha _; rw [h' x (by rw [ha]; simp)]
    · rename_i x y ha; rw [h' x (by rw [ha]; simp), h' y (by rw [ha]; simp)]
    · rfl
  case slice ty x lo hi mx =>
    have h1 : optOpd (withT S t) lo = optOpd S lo := by cases lo with | none => rfl | some y => simp only [optOpd]; rw [h y (by simp)]
    have h2 : optOpd (withT S t) hi = optOpd S hi := by cases hi with | none => rfl | some y => simp only [optOpd]; rw [h y (by simp)]
    have h3 : optOpd (withT S t) mx = optOpd S mx := by cases mx with | none => rfl | some y => simp only [optOpd]; rw [h y (by simp)]
    simp only [pureOp]
    rw [h1, h2, h3, h x (by simp), hmem]
  all_goals first
    | rfl
    | (simp only [pureOp, hmem, hbd]; simp at h; simp only [h]; done)
    | (simp only [pureOp, hmem, hbd]; simp at h; obtain ⟨h1, h2⟩ := h; rw [h1, h2])
    | (simp only [pureOp, hmem, hbd]; simp at h; obtain ⟨h1, h2, h3⟩ := h; rw [h1, h2, h3])
theorem nameIE_T (e : IE) : nameIE (withT S t) e = ((nameIE S e).1, withT (nameIE S e).2 t) := by cases e <;> rfl
theorem name1_T (v : SV) : name1 (withT S t) v = ((name1 S v).1, withT (name1 S v).2 t) := by
  cases v <;> simp only [name1, nameIE_T]
theorem nameL_T : ∀ (l : List SV) {S : St}, nameL (withT S t) l = ((nameL S l).1, withT (nameL S l).2 t)
  | [], _ => rfl
  | v :: l, S => by simp only [nameL]; rw [name1_T]; simp only []; rw [nameL_T l]
theorem nameV_T (v : SV) : nameV (withT S t) v = ((nameV S v).1, withT (nameV S v).2 t) := by
  cases v <;> simp only [nameV, nameL_T, name1_T]
theorem write_T (b off : Nat) (vs : List SV) : (withT S t).write b off vs = (S.write b off vs).map (withT · t) := by
  unfold St.write
  simp only [withT]
  cases S.mem.get (path b) with
  | none => rfl
  | some blk =>
    simp only [Option.bind_eq_bind, Option.bind_some]
    split
    · by_cases hc : S.al.contains b = true
      · simp only [hc, if_true]; rfl
      · simp only [hc]; rfl
    · rfl
theorem effOp_congr {o : Oper} (h : ∀ x ∈ o.op.operands, opd (withT S t) x = opd S x) :
    effOp E (withT S t) o = (effOp E S o).map fun r => (r.1, withT r.2 t) := by
  obtain ⟨dst, op, type, pos, after, guard⟩ := o
  cases op <;> simp only [Op.operands] at h
  case assign x =>
    simp only [effOp]; rw [h x (by simp)]
    cases opd S x with
    | none => rfl
    | some u => simp only [Option.bind_eq_bind, Option.bind_some, nameV_T]; rfl
  case alloc ty =>
    simp only [effOp]
    cases E.ty ty <;> rfl
  case box ty x =>
    simp only [effOp]; rw [h x (by simp)]
    cases opd S x with
    | none => rfl
    | some u =>
      simp only [Option.bind_eq_bind, Option.bind_some]
      split
      · rfl
      · simp only [nameV_T]; rfl
  case buildSlice ty len ps =>
    simp only [effOp]
    rw [optMap_congr (g := fun (p : Nat × Operand) => (opd S p.2).map fun v => (p.1, v)) fun p hp => by
      rw [h p.2 (by simp; exact ⟨p.1, by simpa using hp⟩)]]
    cases E.ty ty with
    | none => rfl
    | some ti =>
      simp only [Option.bind_eq_bind, Option.bind_some]
      split
      · rename_i elem hd
        cases E.ty elem with
        | none => rfl
        | some ei =>
          simp only [Option.bind_some]
          cases optMap (fun (p : Nat × Operand) => (opd S p.2).map fun v => (p.1, v)) ps.toList with
          | none => rfl
          | some qs =>
            simp only [Option.bind_some]
            split
            · rfl
            · split
              · rfl
              · cases fillSV (fun i => some (i * ei.size, ei.size)) (List.replicate len ei.zero).flatten qs with
                | none => rfl
                | some cells => simp only [Option.bind_some, nameL_T]; rfl
      · rfl
  case makeSlice ty l cp =>
    simp only [effOp]; simp only [List.mem_toArray, List.mem_cons, List.not_mem_nil, or_false, forall_eq_or_imp, forall_eq] at h
    rw [h.1, h.2]
    cases E.ty ty with
    | none => rfl
    | some ti =>
      simp only [Option.bind_eq_bind, Option.bind_some]
      split
      · rename_i elem hd
        cases E.ty elem with
        | none => rfl
        | some ei =>
          simp only [Option.bind_some]
          cases opd S l with
          | none => rfl
          | some ul =>
            simp only [Option.bind_some]
            cases constNat ul with
            | none => rfl
            | some nl =>
              simp only [Option.bind_some]
              cases opd S cp with
              | none => rfl
              | some uc =>
                simp only [Option.bind_some]
                cases constNat uc with
                | none => rfl
                | some nc =>
                  simp only [Option.bind_some]
                  split <;> rfl
      · rfl
  case store ty x y =>
    simp only [effOp]; simp only [List.mem_toArray, List.mem_cons, List.not_mem_nil, or_false, forall_eq_or_imp, forall_eq] at h
    rw [h.2]
    cases E.ty ty with
    | none => rfl
    | some ti =>
      simp only [Option.bind_eq_bind, Option.bind_some]
      cases opd S y with
      | none => rfl
      | some u =>
        simp only [Option.bind_some, nameV_T]
        have hx : opd (withT (nameV S u).2 t) x = opd (nameV S u).2 x := by
          have e1 : (nameV S u).2.tmps = S.tmps := by
            have key1 : ∀ (S : St) (v : SV), (name1 S v).2.tmps = S.tmps := fun S v => by
              cases v <;> simp only [name1]
              rename_i k e; cases e <;> rfl
            have key : ∀ (l : List SV) (S : St), (nameL S l).2.tmps = S.tmps := by
              intro l
              induction l with
              | nil => intro S; rfl
              | cons v l ih => intro S; simp only [nameL]; rw [ih, key1]
            cases u <;> simp only [nameV, key, key1]
          rw [show opd (nameV S u).2 x = opd S x from opd_eq e1 x, <- h.1]
          exact opd_eq rfl x
        rw [hx]
        cases opd (nameV S u).2 x with
        | none => rfl
        | some ua =>
          simp only [Option.bind_some]
          split
          · split
            · rw [write_T]
              cases St.write (nameV S u).2 _ _ _ <;> rfl
            · rfl
          · rfl
  case range ty x =>
    simp only [effOp]; rw [h x (by simp)]
    split <;> rfl
  case next it isStr =>
    simp only [effOp]; rw [h it (by simp)]
    have : (withT S t).its = S.its := rfl
    rw [this]
    split
    · split
      · split
        · split <;> rfl
        · rfl
      · rfl
    · rfl
  case call cl =>
    obtain ⟨callee, as, ts⟩ := cl
    cases callee <;> simp only [effOp] <;> try rfl
    rename_i b
    have h' : ∀ x ∈ as.toList, opd (withT S t) x = opd S x := fun x hx => h x (by simp [Call.operands]; simpa using hx)
    unfold effBuiltin
    split
    · rename_i d s _ _ ha _
      rw [h' d (by rw [ha]; simp), h' s (by rw [ha]; simp)]
      split
      · have : (withT S t).mem = S.mem := rfl
        rw [this]
        split
        · split
          · rw [write_T]; cases St.write S _ _ _ <;> rfl
          · rfl
        · rfl
      · have : (withT S t).mem = S.mem := rfl
        rw [this]
        split
        · split
          · rw [write_T]; cases St.write S _ _ _ <;> rfl
          · rfl
        · rfl
      · rfl
    · rename_i x _ _ ha _
      rw [h' x (by rw [ha]; simp)]
      split
      · split
        · split
          · rfl
          · rw [write_T]; cases St.write S _ _ _ <;> rfl
        · rfl
      · rfl
    · rename_i d s _ _ ha _
      rw [h' d (by rw [ha]; simp), h' s (by rw [ha]; simp)]
      split
      · have : (withT S t).mem = S.mem := rfl
        rw [this]
        split
        · split
          · rw [write_T]; cases St.write S _ _ _ <;> rfl
          · rfl
        · rfl
      · have : (withT S t).mem = S.mem := rfl
        rw [this]
        split
        · split
          · rfl
          · rfl
        · rfl
      · have : (withT S t).mem = S.mem := rfl
        rw [this]
        have : (withT S t).bd = S.bd := rfl
        rw [this]
        have : (withT S t).lens = S.lens := rfl
        rw [this]
        split
        · split
          · rfl
          · rfl
        · rfl
      · rfl
    · rfl
  all_goals rfl
end
theorem beforeL_pre : ∀ (l : List Oper) (acc : List Nat), ∃ r, beforeL l acc = acc ++ r /\ r.length = l.length
  | [], acc => ⟨[], by simp [beforeL], rfl⟩
  | o :: os, acc => by
    obtain ⟨r, h1, h2⟩ := beforeL_pre os (acc ++ [o.after.toList.foldl (fun s e => if Region.binds .any e then s ||| 2 ^ e.on ||| acc.getD e.on 0 else s) 0])
    refine ⟨(o.after.toList.foldl (fun s e => if Region.binds .any e then s ||| 2 ^ e.on ||| acc.getD e.on 0 else s) 0) :: r, ?_, by simp [h2]⟩
    simp only [beforeL]
    rw [h1, List.append_assoc]; rfl
theorem beforeL_get : ∀ (l : List Oper) (acc : List Nat) (j : Nat) (o : Oper), l[j]? = some o ->
    (beforeL l acc)[acc.length + j]? = some (o.after.toList.foldl (fun s e => if Region.binds .any e then s ||| 2 ^ e.on ||| ((beforeL l acc).take (acc.length + j)).getD e.on 0 else s) 0)
  | [], _, _, _, h => by simp at h
  | p :: os, acc, 0, o, h => by
    simp only [List.getElem?_cons_zero, Option.some.injEq] at h
    subst h
    obtain ⟨r, h1, _⟩ := beforeL_pre os (acc ++ [p.after.toList.foldl (fun s e => if Region.binds .any e then s ||| 2 ^ e.on ||| acc.getD e.on 0 else s) 0])
    simp only [beforeL, Nat.add_zero]
    rw [h1]
    have : (acc ++ [p.after.toList.foldl (fun s e => if Region.binds .any e then s ||| 2 ^ e.on ||| acc.getD e.on 0 else s) 0] ++ r).take acc.length = acc := by simp
    rw [this]; simp
  | p :: os, acc, j + 1, o, h => by
    have := beforeL_get os (acc ++ [p.after.toList.foldl (fun s e => if Region.binds .any e then s ||| 2 ^ e.on ||| acc.getD e.on 0 else s) 0]) j o (by simpa using h)
    simp only [beforeL]
    simp only [List.length_append, List.length_singleton] at this
    rw [show acc.length + (j + 1) = acc.length + 1 + j by omega]
    exact this
theorem fold_bits (f : Nat -> Nat) : ∀ (es : List Edge) (s i : Nat), (es.foldl (fun s e => if Region.binds .any e then s ||| 2 ^ e.on ||| f e.on else s) s).testBit i = true ->
    s.testBit i = true \/ ∃ e ∈ es, Region.binds .any e = true /\ (e.on = i \/ (f e.on).testBit i = true)
  | [], s, i, h => .inl h
  | e :: es, s, i, h => by
    simp only [List.foldl_cons] at h
    rcases fold_bits f es _ i h with h | ⟨e', h1, h2⟩
    · split at h
      · rename_i hb
        simp only [Nat.testBit_or, Bool.or_eq_true, Nat.testBit_two_pow, decide_eq_true_eq] at h
        rcases h with (h | h) | h
        · exact .inl h
        · exact .inr ⟨e, by simp, hb, .inl h⟩
        · exact .inr ⟨e, by simp, hb, .inr h⟩
      · exact .inl h
    · exact .inr ⟨e', by simp [h1], h2⟩
theorem bits_closed {l : List Oper} {D : Nat -> Bool} (he : ∀ (j : Nat) o, l[j]? = some o -> edgesOK j o = true)
    (hD : ∀ (j : Nat) o, l[j]? = some o -> D j = true -> ∀ e ∈ o.after.toList, Region.binds .any e = true -> D e.on = true) :
    ∀ j, j < l.length -> D j = true -> ∀ i, ((beforeL l []).getD j 0).testBit i = true -> D i = true /\ i < j := by
  intro j
  induction j using Nat.strongRecOn with
  | _ j ih =>
    intro hj hd i hi
    obtain ⟨o, ho⟩ : ∃ o, l[j]? = some o := ⟨l[j], by simp [hj]⟩
    have hb := beforeL_get l [] j o ho
    simp only [List.length_nil, Nat.zero_add] at hb
    rw [List.getD_eq_getElem?_getD, hb] at hi
    simp only [Option.getD_some] at hi
    rcases fold_bits (fun k => ((beforeL l []).take j).getD k 0) _ _ _ hi with hi | ⟨e, h1, h2, h3⟩
    · simp at hi
    · have hlt : e.on < j := by
        have := he j o ho
        simp only [edgesOK, List.all_eq_true, Bool.or_eq_true, Bool.not_eq_true', decide_eq_true_eq] at this
        rcases this e h1 with h | h
        · rw [h] at h2; cases h2
        · exact h
      have hon := hD j o ho hd e h1 h2
      rcases h3 with h3 | h3
      · subst h3; exact ⟨hon, hlt⟩
      · have hg : ((beforeL l []).take j).getD e.on 0 = (beforeL l []).getD e.on 0 := by
          simp only [List.getD_eq_getElem?_getD, List.getElem?_take, hlt, if_true]
        rw [hg] at h3
        obtain ⟨g1, g2⟩ := ih e.on hlt (by omega) hon i h3
        exact ⟨g1, by omega⟩
theorem allIdx_get {α : Type} {f : Nat -> α -> Bool} : ∀ {l : List α} {i : Nat}, allIdx f i l = true -> ∀ (m : Nat) x, l[m]? = some x -> f (i + m) x = true
  | [], _, _, m, x, h => by simp at h
  | y :: ys, i, h, 0, x, hx => by
    simp only [allIdx, Bool.and_eq_true] at h
    simp only [List.getElem?_cons_zero, Option.some.injEq] at hx
    subst hx; exact h.1
  | y :: ys, i, h, m + 1, x, hx => by
    simp only [allIdx, Bool.and_eq_true] at h
    have := allIdx_get h.2 m x (by simpa using hx)
    rwa [show i + (m + 1) = i + 1 + m by omega]
section
variable {P : Program} {X : Tk} {E : Env}
theorem effOp_tmps {S S' : St} {o : Oper} {v : SV} (h : effOp E S o = some (v, S')) : S'.tmps = S.tmps := by
  have := effOp_congr (E := E) (S := S) (t := S.tmps) (o := o) fun x _ => opd_eq rfl x
  rw [show withT S S.tmps = S from rfl, h] at this
  simp only [Option.map_some, Option.some.injEq, Prod.mk.injEq, true_and] at this
  rw [this]; rfl
theorem execOne_pure {n : Nat} {o : Oper} {S : St} {v : SV} (hg : o.guard = none) (h : pureOp E S o = some v) : execOne E (n + 1) o S = some (false, [(v, S)]) := by
  simp [execOne, hg, h]
theorem calleeOf_congr {S : St} {t : Tr SV} {o : Oper} (h : ∀ x ∈ o.op.operands, opd (withT S t) x = opd S x) : calleeOf E (withT S t) o = calleeOf E S o := by
  obtain ⟨dst, op, type, pos, after, guard⟩ := o
  unfold calleeOf
  cases op <;> try rfl
  rename_i cl
  obtain ⟨callee, as, ts⟩ := cl
  cases callee <;> try rfl
  · rename_i f
    simp only [Op.operands, Call.operands] at h
    simp only []
    rw [h f (by simp), optMap_congr fun x hx => h x (by simp; exact .inr (by simpa using hx))]
  · rename_i r name
    simp only [Op.operands, Call.operands] at h
    simp only []
    rw [h r (by simp), optMap_congr fun x hx => h x (by simp; exact .inr (by simpa using hx))]
theorem execOne_congr {n : Nat} {o : Oper} {S : St} {b : Bool} {ls : List (SV × St)} {t : Tr SV} (h : execOne E n o S = some (b, ls))
    (ho : ∀ x ∈ o.op.operands, opd (withT S t) x = opd S x) : execOne E n o (withT S t) = some (b, ls.map fun r => (r.1, withT r.2 t)) := by
  cases n with
  | zero => simp [execOne] at h
  | succ n =>
    simp only [execOne] at h ⊢
    split at h
    · cases h
    · rename_i hg
      rw [if_neg hg]
      split at h
      · rename_i v hp
        simp only [Option.some.injEq, Prod.mk.injEq] at h
        obtain ⟨rfl, rfl⟩ := h
        rw [pureOp_congr ho, hp]
        rfl
      · rename_i hp
        rw [pureOp_congr ho, hp]
        simp only []
        split at h
        · rename_i r hr
          simp only [Option.some.injEq, Prod.mk.injEq] at h
          obtain ⟨rfl, rfl⟩ := h
          rw [effOp_congr ho, hr]
          rfl
        · rename_i hr
          rw [effOp_congr ho, hr]
          simp only [Option.map_none]
          rw [calleeOf_congr ho]
          simp only [Option.bind_eq_bind, Option.bind_eq_some_iff] at h
          obtain ⟨⟨f, args⟩, hc, h⟩ := h
          rw [hc]
          simp only [Option.bind_eq_bind, Option.bind_some]
          simp only [] at h
          have hw : ({ withT S t with tmps := .nil, nt := 0 } : St) = { S with tmps := .nil, nt := 0 } := rfl
          split at h
          · rename_i g hg'
            simp only [Option.bind_eq_some_iff, Option.some.injEq, Prod.mk.injEq] at h
            obtain ⟨⟨v', S''⟩, h1, rfl, rfl⟩ := h
            rw [hw, h1]
            rfl
          · rename_i hg'
            simp only [Option.bind_eq_some_iff, Option.some.injEq, Prod.mk.injEq] at h
            obtain ⟨ls', h1, rfl, rfl⟩ := h
            rw [hw, h1]
            simp only [Option.bind_some, List.map_map]
            rfl
theorem execOne_tmps {n : Nat} {o : Oper} {S : St} {b : Bool} {ls : List (SV × St)} (h : execOne E n o S = some (b, ls)) : ∀ r ∈ ls, r.2.tmps = S.tmps := by
  cases n with
  | zero => simp [execOne] at h
  | succ n =>
    simp only [execOne] at h
    split at h
    · cases h
    · split at h
      · simp only [Option.some.injEq, Prod.mk.injEq] at h
        obtain ⟨_, rfl⟩ := h
        intro r hr
        simp only [List.mem_singleton] at hr
        subst hr; rfl
      · split at h
        · rename_i r0 hr0
          simp only [Option.some.injEq, Prod.mk.injEq] at h
          obtain ⟨_, rfl⟩ := h
          intro r hr
          simp only [List.mem_singleton] at hr
          subst hr
          exact effOp_tmps (v := r.1) hr0
        · simp only [Option.bind_eq_bind, Option.bind_eq_some_iff] at h
          obtain ⟨⟨f, args⟩, _, h⟩ := h
          simp only [] at h
          split at h
          · simp only [Option.bind_eq_some_iff, Option.some.injEq, Prod.mk.injEq] at h
            obtain ⟨_, _, _, rfl⟩ := h
            intro r hr
            simp only [List.mem_singleton] at hr
            subst hr; rfl
          · simp only [Option.bind_eq_some_iff, Option.some.injEq, Prod.mk.injEq] at h
            obtain ⟨ls', _, _, rfl⟩ := h
            intro r hr
            obtain ⟨x, _, rfl⟩ := List.mem_map.1 hr
            rfl
end
section
variable {P : Program} {X : Tk} {E : Env}
def isD (listed : Array Bool) (i : Nat) : Bool := listed.getD i false
theorem pureOp_cons {S : St} {ks : List Con} {o : Oper} : pureOp E { S with cons := ks } o = pureOp E S o := by
  obtain ⟨dst, op, type, pos, after, guard⟩ := o
  have ho : ∀ x, opd ({ S with cons := ks } : St) x = opd S x := fun x => by cases x <;> rfl
  have hoo : ∀ x, optOpd ({ S with cons := ks } : St) x = optOpd S x := fun x => by cases x <;> simp only [optOpd, ho]
  cases op <;> simp only [pureOp, ho, hoo]
  rename_i cl
  obtain ⟨callee, as, ts⟩ := cl
  cases callee <;> simp only [pureBuiltin, ho]
def cut (D : Nat) (listed : Array Bool) : Nat -> List Oper -> Tr SV -> Tr SV
  | _, [], t => t
  | i, o :: r, t =>
    match o.dst with
    | some d => if D.testBit i && !isD listed i then Tr.del (path d) (cut D listed (i + 1) r t) else cut D listed (i + 1) r t
    | none => cut D listed (i + 1) r t
theorem cut_get {D : Nat} {listed : Array Bool} {x : Nat} {v : SV} : ∀ {l : List Oper} {i : Nat} {t : Tr SV}, (cut D listed i l t).get (path x) = some v ->
    t.get (path x) = some v /\ ∀ (m : Nat) o, l[m]? = some o -> o.dst = some x -> D.testBit (i + m) = true -> isD listed (i + m) = true
  | [], i, t, h => ⟨h, fun m o hm => by simp at hm⟩
  | o :: r, i, t, h => by
    simp only [cut] at h
    have key : (cut D listed (i + 1) r t).get (path x) = some v -> (o.dst = some x -> D.testBit i = true -> isD listed i = true) ->
        t.get (path x) = some v /\ ∀ (m : Nat) o', (o :: r)[m]? = some o' -> o'.dst = some x -> D.testBit (i + m) = true -> isD listed (i + m) = true := fun h1 h2 => by
      obtain ⟨g1, g2⟩ := cut_get h1
      refine ⟨g1, fun m o' hm hd hb => ?_⟩
      cases m with
      | zero =>
        simp only [List.getElem?_cons_zero, Option.some.injEq] at hm
        subst hm
        exact h2 hd hb
      | succ m =>
        have := g2 m o' (by simpa using hm) hd
        rw [show i + 1 + m = i + (m + 1) by omega] at this
        exact this hb
    split at h
    · rename_i d hd
      split at h
      · rename_i hc
        rw [Tr.get_del] at h
        split at h
        · cases h
        · rename_i hxd
          exact key h fun hd' => by rw [hd] at hd'; simp only [Option.some.injEq] at hd'; exact absurd hd'.symm hxd
      · rename_i hc
        refine key h fun _ hb => ?_
        simp only [hb, Bool.true_and, Bool.not_eq_true', Bool.not_eq_false] at hc
        simpa using hc
    · rename_i hd
      exact key h fun hd' => by rw [hd] at hd'; cases hd'
theorem cut_keep {D : Nat} {listed : Array Bool} {x : Nat} : ∀ {l : List Oper} {i : Nat} {t : Tr SV},
    (∀ (m : Nat) o, l[m]? = some o -> o.dst = some x -> D.testBit (i + m) = true -> isD listed (i + m) = true) -> (cut D listed i l t).get (path x) = t.get (path x)
  | [], _, _, _ => rfl
  | o :: r, i, t, h => by
    have ih := cut_keep (D := D) (listed := listed) (x := x) (l := r) (i := i + 1) (t := t) fun m o' hm hd hb => by
      have := h (m + 1) o' (by simpa using hm) hd
      rw [show i + 1 + m = i + (m + 1) by omega] at hb ⊢
      exact this hb
    simp only [cut]
    split
    · rename_i d hd
      split
      · rename_i hc
        simp only [Bool.and_eq_true, Bool.not_eq_true'] at hc
        rw [Tr.get_del]
        split
        · rename_i hxd
          have := h 0 o (by simp) (by rw [hd, hxd]) (by simpa using hc.1)
          simp only [Nat.add_zero] at this
          rw [this] at hc; simp at hc
        · exact ih
      · exact ih
    · exact ih
structure Stat (l : List Oper) (nt : Nat) : Prop where
  edges : ∀ (j : Nat) o, l[j]? = some o -> edgesOK j o = true
  dst : ∀ (j : Nat) o, l[j]? = some o -> ∀ d, o.dst = some d -> d < nt
  guard : ∀ (j : Nat) o, l[j]? = some o -> ∀ g w, o.guard = some (g, w) -> ((beforeL l []).getD j 0).testBit g = true
  apart : ∀ (j : Nat) o (i : Nat) p, l[j]? = some o -> l[i]? = some p -> apartOK (beforeL l []) j o i p = true
theorem stat_of {l : List Oper} {S : St} (h : drawOK l S = true) : Stat l S.nt := by
  unfold drawOK at h
  have key := fun (j : Nat) o (ho : l[j]? = some o) => allIdx_get h j o ho
  simp only [Nat.zero_add, Bool.and_eq_true] at key
  refine ⟨fun j o ho => (key j o ho).1.1.1, fun j o ho d hd => ?_, fun j o ho g w hg => ?_, fun j o i p ho hp => ?_⟩
  · have := (key j o ho).1.1.2
    rw [hd] at this
    simpa [okDst] using this
  · have := (key j o ho).1.2
    unfold guardIn at this
    rw [hg] at this
    exact this
  · have := allIdx_get (key j o ho).2 i p hp
    simpa using this
section
variable {l : List Oper} {nt0 : Nat}
theorem lt_of_get {j : Nat} {o : Oper} (h : l[j]? = some o) : j < l.length := by
  rcases Nat.lt_or_ge j l.length with h' | h'
  · exact h'
  · rw [List.getElem?_eq_none h'] at h; cases h
theorem Stat.unique (G : Stat l nt0) {i j : Nat} {o p : Oper} {t : Tmp} (ho : l[j]? = some o) (hp : l[i]? = some p) (h1 : o.dst = some t) (h2 : p.dst = some t) : i = j := by
  have := G.apart j o i p ho hp
  unfold apartOK at this
  rw [h2] at this
  simp only at this
  by_cases e : i = j
  · exact e
  · rw [if_neg e] at this
    simp [dstIs, h1] at this
theorem war_spec {b : List Nat} {i : Nat} {d : Tmp} (h : warOK b l i (some d) = true) {j : Nat} {o : Oper} (ho : l[j]? = some o) (hx : .tmp d ∈ o.op.operands) : (b.getD j 0).testBit i = true := by
  simp only [warOK] at h
  have := allIdx_get h j o ho
  simp only [Nat.zero_add, Bool.or_eq_true, Bool.not_eq_true'] at this
  rcases this with h | h
  · have hm : (tmpsOf o).contains d = true := by
      rw [List.contains_iff_mem]
      exact List.mem_filterMap.2 ⟨.tmp d, by simpa using hx, rfl⟩
    rw [hm] at h; cases h
  · exact h
def closedN (l : List Oper) (D : Nat) : Prop := ∀ (j : Nat) o, l[j]? = some o -> D.testBit j = true -> ∀ e ∈ o.after.toList, Region.binds .any e = true -> D.testBit e.on = true
theorem edgesIn_spec {o : Oper} {D : Nat} (h : edgesIn o D = true) : ∀ e ∈ o.after.toList, Region.binds .any e = true -> D.testBit e.on = true := fun e he hb => by
  simp only [edgesIn, List.all_eq_true, Bool.or_eq_true, Bool.not_eq_true'] at h
  rcases h e he with h | h
  · rw [h] at hb; cases hb
  · exact h
theorem testBit_or_pow (D j i : Nat) : (D ||| 2 ^ j).testBit i = (D.testBit i || decide (j = i)) := by
  rw [Nat.testBit_or, Nat.testBit_two_pow]
theorem closedN_add {D j : Nat} {o : Oper} (h : closedN l D) (ho : l[j]? = some o) (he : edgesIn o D = true) : closedN l (D ||| 2 ^ j) := fun i p hp hi e hm hb => by
  rw [testBit_or_pow] at hi ⊢
  simp only [Bool.or_eq_true, decide_eq_true_eq] at hi ⊢
  left
  rcases hi with hi | hi
  · exact h i p hp hi e hm hb
  · subst hi
    rw [ho] at hp
    simp only [Option.some.injEq] at hp
    subst hp
    exact edgesIn_spec he e hm hb
theorem closedN_before (G : Stat l nt0) {D : Nat} (h : closedN l D) {j : Nat} (hj : j < l.length) (hd : D.testBit j = true) {i : Nat} (hi : ((beforeL l []).getD j 0).testBit i = true) : D.testBit i = true /\ i < j :=
  bits_closed (D := fun i => D.testBit i) G.edges h j hj hd i hi
end
end
section
variable {P : Program} {X : Tk} {E : Env} {l : List Oper} {nt0 n0 m0 : Nat} {w0 : Base} {c0 : Ctx}
def GdYes (c : Ctx) (l : List Oper) (S : St) (o : Oper) : Prop :=
  ∀ g w, o.guard = some (g, w) -> ∃ p t u, l[g]? = some p /\ p.dst = some t /\ S.tmps.get (path t) = some u /\ u.den c = .bool w
def GdNo (c : Ctx) (l : List Oper) (S : St) (o : Oper) : Prop :=
  ∃ g w p t u, o.guard = some (g, w) /\ l[g]? = some p /\ p.dst = some t /\ S.tmps.get (path t) = some u /\ (u.den c = .bool (!w) \/ u.den c = undef)
def Pend (E : Env) (c : Ctx) (l : List Oper) (Pu : Nat) (S : St) (j : Nat) (o : Oper) : Prop :=
  warOK (beforeL l []) l j o.dst = true /\
    ((Pu.testBit j = true /\ GdYes c l S o /\ ∃ v, pureOp E S o = some v /\ ∀ d, o.dst = some d -> ∃ u, S.tmps.get (path d) = some u /\ u.den c = v.den c) \/
     (GdNo c l S o /\ ∀ d, o.dst = some d -> ∃ u, S.tmps.get (path d) = some u /\ u.den c = undef))
structure DInv (X : Tk) (E : Env) (w0 : Base) (c0 : Ctx) (l : List Oper) (nt0 n0 m0 : Nat) (c : Ctx) (D Pu : Nat) (S : St) (listed : Array Bool) (a : Act) (w : World) : Prop where
  size : listed.size = l.length
  closedL : ∀ (j : Nat) o, l[j]? = some o -> isD listed j = true -> ∀ e ∈ o.after.toList, Region.binds .any e = true -> isD listed e.on = true
  sub : ∀ j, j < l.length -> isD listed j = true -> D.testBit j = true
  closedD : closedN l D
  pend : ∀ (j : Nat) o, l[j]? = some o -> D.testBit j = true -> isD listed j = false -> Pend E c l Pu S j o
  nt : S.nt = nt0
  ext : Ext n0 m0 c0 c
  nv : n0 <= S.nv
  nb : m0 <= S.nb
  rep : MRep X w0 c S w
  defers : a.defers = []
  asize : a.tmps.size = S.nt
  tmps : ∀ t v, S.tmps.get (path t) = some v -> v.ok S.nv S.nb /\ (a.tmps.getD t undef = v.den c \/ ∃ (j : Nat) (o : Oper), l[j]? = some o /\ D.testBit j = true /\ isD listed j = false /\ o.dst = some t)
theorem put_get {S : St} {d : Option Tmp} {v : SV} {t : Nat} : (S.put d v).tmps.get (path t) = if d = some t then some v else S.tmps.get (path t) := by
  cases d with
  | none => simp [St.put]
  | some d =>
    simp only [St.put, Tr.get_set, Option.some.injEq]
    by_cases h : t = d
    · subst h; simp
    · rw [if_neg h, if_neg fun e => h e.symm]
theorem put_withT (S : St) (d : Option Tmp) (v : SV) : S.put d v = withT S (S.put d v).tmps := by cases d <;> rfl
theorem opd_get {S S' : St} {x : Operand} (h : ∀ t, x = .tmp t -> S'.tmps.get (path t) = S.tmps.get (path t)) : opd S' x = opd S x := by
  cases x with
  | tmp t => exact h t rfl
  | const v => rfl
  | func f => rfl
  | global g => rfl
theorem guard_get (G : Stat l nt0) {j : Nat} {o : Oper} (ho : l[j]? = some o) {g : Nat} {w : Bool} (hg : o.guard = some (g, w)) {D : Nat} (hD : closedN l D) (hin : ∀ e ∈ o.after.toList, Region.binds .any e = true -> D.testBit e.on = true) : D.testBit g = true /\ g < j := by
  have hb := G.guard j o ho g w hg
  have hcl : closedN l (D ||| 2 ^ j) := fun i p hp hi e hm hbd => by
    rw [testBit_or_pow] at hi ⊢
    simp only [Bool.or_eq_true, decide_eq_true_eq] at hi ⊢
    left
    rcases hi with hi | hi
    · exact hD i p hp hi e hm hbd
    · subst hi
      rw [ho] at hp
      simp only [Option.some.injEq] at hp
      subst hp
      exact hin e hm hbd
  obtain ⟨h1, h2⟩ := closedN_before G hcl (lt_of_get ho) (by rw [testBit_or_pow]; simp) hb
  refine ⟨?_, h2⟩
  rw [testBit_or_pow] at h1
  simp only [Bool.or_eq_true, decide_eq_true_eq] at h1
  rcases h1 with h1 | h1
  · exact h1
  · omega
theorem dinv_put (G : Stat l nt0) {c : Ctx} {D Pu Pu' : Nat} {S : St} {listed : Array Bool} {a : Act} {w : World} (I : DInv X E w0 c0 l nt0 n0 m0 c D Pu S listed a w)
    {j : Nat} {o : Oper} (ho : l[j]? = some o) (hD : D.testBit j = false) (hin : edgesIn o D = true) {v : SV} (hv : v.ok S.nv S.nb) (hwar : warOK (beforeL l []) l j o.dst = true)
    (hPu : ∀ i, Pu.testBit i = true -> Pu'.testBit i = true)
    (hnew : Pend E c l Pu' (S.put o.dst v) j o) : DInv X E w0 c0 l nt0 n0 m0 c (D ||| 2 ^ j) Pu' (S.put o.dst v) listed a w := by
  have hcl := closedN_add I.closedD ho hin
  have hjl := lt_of_get ho
  have hnl : isD listed j = false := by
    cases h : isD listed j with
    | false => rfl
    | true => have := I.sub j hjl h; rw [hD] at this; cases this
  have hkeep : ∀ (g : Nat) p t, l[g]? = some p -> p.dst = some t -> D.testBit g = true -> (S.put o.dst v).tmps.get (path t) = S.tmps.get (path t) := fun g p t hp ht hg => by
    rw [put_get, if_neg]
    intro e
    have := G.unique ho hp e ht
    subst this
    rw [hD] at hg; cases hg
  have hgd : ∀ (i : Nat) p, l[i]? = some p -> D.testBit i = true -> ∀ g w, p.guard = some (g, w) -> D.testBit g = true := fun i p hp hi g w hg =>
    (closedN_before G I.closedD (lt_of_get hp) hi (G.guard i p hp g w hg)).1
  refine ⟨I.size, I.closedL, fun i hi hd => by rw [testBit_or_pow]; simp [I.sub i hi hd], hcl, fun i p hp hi hl => ?_, ?_, I.ext, ?_, ?_, ?_, I.defers, ?_, fun t u hu => ?_⟩
  · rw [testBit_or_pow] at hi
    simp only [Bool.or_eq_true, decide_eq_true_eq] at hi
    rcases hi with hi | hi
    · obtain ⟨h1, h2⟩ := I.pend i p hp hi hl
      refine ⟨h1, ?_⟩
      have hrd : ∀ d, p.dst = some d -> (S.put o.dst v).tmps.get (path d) = S.tmps.get (path d) := fun d hd => hkeep i p d hp hd hi
      rcases h2 with ⟨g1, g2, v', g3, g4⟩ | ⟨⟨g, w', q, t, u, k1, k2, k3, k4, k5⟩, g4⟩
      · refine .inl ⟨hPu i g1, fun g w' hg => ?_, v', ?_, fun d hd => by rw [hrd d hd]; exact g4 d hd⟩
        · obtain ⟨q, t, u, k1, k2, k3, k4⟩ := g2 g w' hg
          exact ⟨q, t, u, k1, k2, by rw [hkeep g q t k1 k2 (hgd i p hp hi g w' hg)]; exact k3, k4⟩
        · rw [put_withT, pureOp_congr fun x hx => ?_]
          · exact g3
          refine opd_get fun t ht => ?_
          subst ht
          simp only [withT]
          rw [put_get, if_neg]
          intro e
          rw [e] at hwar
          have := (closedN_before G I.closedD (lt_of_get hp) hi (war_spec hwar hp hx)).1
          rw [hD] at this; cases this
      · exact .inr ⟨⟨g, w', q, t, u, k1, k2, k3, by rw [hkeep g q t k2 k3 (hgd i p hp hi g w' k1)]; exact k4, k5⟩, fun d hd => by rw [hrd d hd]; exact g4 d hd⟩
    · subst hi
      rw [ho] at hp
      simp only [Option.some.injEq] at hp
      subst hp
      exact hnew
  · have := I.nt; cases o.dst <;> exact this
  · have := I.nv; cases o.dst <;> exact this
  · have := I.nb; cases o.dst <;> exact this
  · have := I.rep
    rw [put_withT]; exact this.tmps_irrel _ _
  · have := I.asize; cases o.dst <;> exact this
  · have e1 : (S.put o.dst v).nv = S.nv := by cases o.dst <;> rfl
    have e2 : (S.put o.dst v).nb = S.nb := by cases o.dst <;> rfl
    rw [e1, e2]
    rw [put_get] at hu
    by_cases hd : o.dst = some t
    · rw [if_pos hd] at hu
      simp only [Option.some.injEq] at hu
      subst hu
      exact ⟨hv, .inr ⟨j, o, ho, by rw [testBit_or_pow]; simp, hnl, hd⟩⟩
    · rw [if_neg hd] at hu
      obtain ⟨h1, h2⟩ := I.tmps t u hu
      refine ⟨h1, ?_⟩
      rcases h2 with h2 | ⟨i, p, k1, k2, k3, k4⟩
      · exact .inl h2
      · exact .inr ⟨i, p, k1, by rw [testBit_or_pow]; simp [k2], k3, k4⟩
theorem dinv_know {c : Ctx} {D Pu : Nat} {S : St} {listed : Array Bool} {a : Act} {w : World} (I : DInv X E w0 c0 l nt0 n0 m0 c D Pu S listed a w)
    {t : Tmp} {e : BE} (hg : S.tmps.get (path t) = some (.bexp e)) (hr : noReader l Pu t = true) : DInv X E w0 c0 l nt0 n0 m0 c D Pu (S.know t e (e.eval c.ρ)) listed a w := by
  have hget : ∀ x u, S.tmps.get (path x) = some u -> ∃ u', (S.know t e (e.eval c.ρ)).tmps.get (path x) = some u' /\ u'.den c = u.den c := fun x u hu => by
    simp only [St.know, Tr.get_set]
    split
    · rename_i hx
      subst hx
      rw [hg] at hu
      simp only [Option.some.injEq] at hu
      subst hu
      exact ⟨_, rfl, rfl⟩
    · exact ⟨u, hu, rfl⟩
  have hek : e.ok S.nv := (I.tmps t _ hg).1
  refine ⟨I.size, I.closedL, I.sub, I.closedD, fun i p hp hi hl => ?_, I.nt, I.ext, I.nv, I.nb, ?_, I.defers, I.asize, fun x u hu => ?_⟩
  · obtain ⟨h1, h2⟩ := I.pend i p hp hi hl
    refine ⟨h1, ?_⟩
    rcases h2 with ⟨g1, g2, v', g3, g4⟩ | ⟨⟨g, w', q, t', u, k1, k2, k3, k4, k5⟩, g4⟩
    · refine .inl ⟨g1, fun g w' hgd => ?_, v', ?_, fun d hd => ?_⟩
      · obtain ⟨q, t', u, k1, k2, k3, k4⟩ := g2 g w' hgd
        obtain ⟨u', m1, m2⟩ := hget t' u k3
        exact ⟨q, t', u', k1, k2, m1, m2.trans k4⟩
      · have : pureOp E (S.know t e (e.eval c.ρ)) p = pureOp E (withT S (S.know t e (e.eval c.ρ)).tmps) p :=
          pureOp_cons (S := withT S (S.know t e (e.eval c.ρ)).tmps) (ks := (S.know t e (e.eval c.ρ)).cons)
        rw [this, pureOp_congr fun x hx => ?_]
        · exact g3
        refine opd_get fun x' hx' => ?_
        subst hx'
        simp only [withT, St.know, Tr.get_set]
        rw [if_neg]
        intro hxt
        subst hxt
        have := allIdx_get hr i p hp
        simp only [Nat.zero_add, g1, Bool.not_true, Bool.false_or, Bool.not_eq_true'] at this
        have hm : (tmpsOf p).contains x' = true := by
          rw [List.contains_iff_mem]
          exact List.mem_filterMap.2 ⟨.tmp x', by simpa using hx, rfl⟩
        rw [hm] at this; cases this
      · obtain ⟨u, m1, m2⟩ := g4 d hd
        obtain ⟨u', m3, m4⟩ := hget d u m1
        exact ⟨u', m3, m4.trans m2⟩
    · obtain ⟨u', m1, m2⟩ := hget t' u k4
      refine .inr ⟨⟨g, w', q, t', u', k1, k2, k3, m1, by rw [m2]; exact k5⟩, fun d hd => ?_⟩
      obtain ⟨u, m1, m2⟩ := g4 d hd
      obtain ⟨u', m3, m4⟩ := hget d u m1
      exact ⟨u', m3, m4.trans m2⟩
  · have := I.rep.more (ks := [.test e (e.eval c.ρ)]) (Nat.le_refl _) (Ext.refl _ _ _) (by
      intro k hk
      simp only [List.mem_singleton] at hk
      subst hk
      exact ⟨hek, rfl⟩) I.rep.bd
    exact this.tmps_irrel (Tr.set (.bool (e.eval c.ρ)) (path t) S.tmps) S.nt
  · simp only [St.know, Tr.get_set] at hu
    split at hu
    · rename_i hx
      subst hx
      simp only [Option.some.injEq] at hu
      subst hu
      exact ⟨trivial, (I.tmps x _ hg).2⟩
    · exact I.tmps x u hu
theorem pureOp_ok (hE : EnvOK P X E) {c : Ctx} {S : St} {w : World} (hM : MRep X w0 c S w) (ht : ∀ t v, S.tmps.get (path t) = some v -> v.ok S.nv S.nb) {o : Oper} {v : SV} (h : pureOp E S o = some v) : v.ok S.nv S.nb := by
  refine (pureOp_soundE (P := P) (w := w) (ev := fun x => ((opd S x).getD .nilp).den c) hE (fun x u hu => ?_) hM h).2
  refine ⟨by simp only [hu]; rfl, ?_⟩
  cases x with
  | tmp t => exact ht t u hu
  | const k => simp only [opd, Option.some.injEq] at hu; subst hu; exact ofValue_ok _ _ _
  | func f => simp only [opd, Option.some.injEq] at hu; subst hu; trivial
  | global g => simp [opd] at hu
theorem guardOf_spec {S : St} {o : Oper} {r : Gd} (h : guardOf l S o = some r) :
    (o.guard = none /\ r = .yes) \/ ∃ g w p t u, o.guard = some (g, w) /\ l[g]? = some p /\ p.dst = some t /\ S.tmps.get (path t) = some u /\
      ((u = .bool w /\ r = .yes) \/ (u = .bool (!w) /\ r = .no) \/ (u = .tup [] /\ r = .no) \/ ∃ e, u = .bexp e /\ r = .test t e w) := by
  unfold guardOf at h
  split at h
  · rename_i hn
    simp only [Option.some.injEq] at h
    exact .inl ⟨hn, h.symm⟩
  · rename_i g w hn
    split at h
    · rename_i p hp
      split at h
      · rename_i t ht
        right
        split at h <;> simp only [Option.some.injEq, reduceCtorEq] at h
        · rename_i b hb
          refine ⟨g, w, p, t, _, hn, hp, ht, hb, ?_⟩
          split at h
          · rename_i hbw
            have : b = w := by simpa using hbw
            exact .inl ⟨by rw [this], h.symm⟩
          · rename_i hbw
            have : b = !w := by cases b <;> cases w <;> simp_all
            exact .inr (.inl ⟨by rw [this], h.symm⟩)
        · rename_i hb
          exact ⟨g, w, p, t, _, hn, hp, ht, hb, .inr (.inr (.inl ⟨rfl, h.symm⟩))⟩
        · rename_i e hb
          exact ⟨g, w, p, t, _, hn, hp, ht, hb, .inr (.inr (.inr ⟨e, rfl, h.symm⟩))⟩
      · cases h
    · cases h
theorem satD_sound (hE : EnvOK P X E) (G : Stat l nt0) {listed : Array Bool} {a : Act} {w : World} {c : Ctx} : ∀ {rest : List Oper} {j D Pu : Nat} {S : St} {nodes : List (Nat × Nat × St)}, satD E l (beforeL l []) j rest D Pu S = some nodes ->
    (∀ (m : Nat) o, rest[m]? = some o -> l[j + m]? = some o) -> DInv X E w0 c0 l nt0 n0 m0 c D Pu S listed a w -> ∃ x ∈ nodes, DInv X E w0 c0 l nt0 n0 m0 c x.1 x.2.1 x.2.2 listed a w
  | [], j, D, Pu, S, nodes, h, _, I => by
    simp only [satD, Option.some.injEq] at h
    subst h
    exact ⟨_, List.mem_singleton.2 rfl, I⟩
  | o :: rest, j, D, Pu, S, nodes, h, hl, I => by
    have ho : l[j]? = some o := hl 0 o rfl
    have hl' : ∀ (m : Nat) o', rest[m]? = some o' -> l[j + 1 + m]? = some o' := fun m o' hm => by
      have := hl (m + 1) o' (by simpa using hm)
      rwa [show j + (m + 1) = j + 1 + m by omega] at this
    simp only [satD] at h
    split at h
    · exact satD_sound hE G h hl' I
    rename_i hc
    simp only [Bool.or_eq_true, Bool.not_eq_true', not_or, Bool.not_eq_true, Bool.not_eq_false] at hc
    obtain ⟨hD, hin⟩ := hc
    have hself : ∀ d, o.dst = some d -> Operand.tmp d ∉ o.op.operands := fun d hd hx => by
      have := G.apart j o j o ho ho
      unfold apartOK at this
      rw [hd] at this
      simp only [if_true] at this
      have hm : (tmpsOf o).contains d = true := by
        rw [List.contains_iff_mem]
        exact List.mem_filterMap.2 ⟨.tmp d, by simpa using hx, rfl⟩
      rw [hm] at this; cases this
    have hgne : ∀ (S' : St) (v : SV) (g : Nat) (w' : Bool) p t, o.guard = some (g, w') -> l[g]? = some p -> p.dst = some t -> (S'.put o.dst v).tmps.get (path t) = S'.tmps.get (path t) := fun S' v g w' p t hg hp ht => by
      rw [put_get, if_neg]
      intro e
      have := G.unique ho hp e ht
      have := (guard_get G ho hg I.closedD (edgesIn_spec hin)).2
      omega
    have hyes : ∀ (S1 : St) (nodes1 : List (Nat × Nat × St)), (match pureOp E S1 o with
        | some v => if warOK (beforeL l []) l j o.dst then satD E l (beforeL l []) (j + 1) rest (D ||| 2 ^ j) (Pu ||| 2 ^ j) (S1.put o.dst v) else none
        | none => satD E l (beforeL l []) (j + 1) rest D Pu S1) = some nodes1 -> DInv X E w0 c0 l nt0 n0 m0 c D Pu S1 listed a w -> GdYes c l S1 o -> ∃ x ∈ nodes1, DInv X E w0 c0 l nt0 n0 m0 c x.1 x.2.1 x.2.2 listed a w := fun S1 nodes1 h I1 hg => by
      split at h
      · rename_i v hv
        split at h
        · rename_i hw
          refine satD_sound hE G h hl' (dinv_put G I1 ho hD hin (pureOp_ok hE I1.rep (fun t v hv => (I1.tmps t v hv).1) hv) hw (fun i hi => by rw [testBit_or_pow]; simp [hi]) ⟨hw, .inl ⟨by rw [testBit_or_pow]; simp, fun g w' hgd => ?_, v, ?_, fun d hd => ⟨v, by rw [put_get, if_pos hd], rfl⟩⟩⟩)
          · obtain ⟨p, t, u, k1, k2, k3, k4⟩ := hg g w' hgd
            exact ⟨p, t, u, k1, k2, by rw [hgne S1 v g w' p t hgd k1 k2]; exact k3, k4⟩
          · rw [put_withT, pureOp_congr fun x hx => ?_]
            · exact hv
            refine opd_get fun t ht => ?_
            subst ht
            simp only [withT]
            rw [put_get, if_neg fun e => hself t e hx]
        · cases h
      · exact satD_sound hE G h hl' I1
    have hno : ∀ (S1 : St) (nodes1 : List (Nat × Nat × St)), (if warOK (beforeL l []) l j o.dst then satD E l (beforeL l []) (j + 1) rest (D ||| 2 ^ j) Pu (S1.put o.dst (.tup [])) else none) = some nodes1 ->
        DInv X E w0 c0 l nt0 n0 m0 c D Pu S1 listed a w -> GdNo c l S1 o -> ∃ x ∈ nodes1, DInv X E w0 c0 l nt0 n0 m0 c x.1 x.2.1 x.2.2 listed a w := fun S1 nodes1 h I1 hg => by
      split at h
      · rename_i hw
        obtain ⟨g, w', p, t, u, k1, k2, k3, k4, k5⟩ := hg
        refine satD_sound hE G h hl' (dinv_put G I1 ho hD hin trivial hw (fun i hi => hi) ⟨hw, .inr ⟨⟨g, w', p, t, u, k1, k2, k3, by rw [hgne S1 _ g w' p t k1 k2 k3]; exact k4, k5⟩, fun d hd => ⟨_, by rw [put_get, if_pos hd], rfl⟩⟩⟩)
      · cases h
    split at h
    · rename_i hg
      refine hyes S nodes h I fun g w' hgd => ?_
      rcases guardOf_spec hg with ⟨hn, _⟩ | ⟨g', w'', p, t, u, k1, k2, k3, k4, k5⟩
      · rw [hn] at hgd; cases hgd
      · rw [k1] at hgd
        simp only [Option.some.injEq, Prod.mk.injEq] at hgd
        obtain ⟨rfl, rfl⟩ := hgd
        rcases k5 with ⟨rfl, _⟩ | ⟨_, h⟩ | ⟨_, h⟩ | ⟨_, _, h⟩
        · exact ⟨p, t, _, k2, k3, k4, rfl⟩
        all_goals cases h
    · rename_i hg
      refine hno S nodes h I ?_
      rcases guardOf_spec hg with ⟨_, hn⟩ | ⟨g', w'', p, t, u, k1, k2, k3, k4, k5⟩
      · cases hn
      · refine ⟨g', w'', p, t, u, k1, k2, k3, k4, ?_⟩
        rcases k5 with ⟨_, h⟩ | ⟨rfl, _⟩ | ⟨rfl, _⟩ | ⟨_, _, h⟩
        · cases h
        · exact .inl rfl
        · exact .inr rfl
        · cases h
    · rename_i t e want hg
      split at h
      · rename_i hr
        split at h
        · rename_i x y hx hy
          simp only [Option.some.injEq] at h
          subst h
          rcases guardOf_spec hg with ⟨_, hn⟩ | ⟨g', w'', p, t', u, k1, k2, k3, k4, k5⟩
          · cases hn
          · rcases k5 with ⟨_, h⟩ | ⟨_, h⟩ | ⟨_, h⟩ | ⟨e', rfl, h⟩
            · cases h
            · cases h
            · cases h
            · simp only [Gd.test.injEq] at h
              obtain ⟨rfl, rfl, rfl⟩ := h
              have I1 := dinv_know I k4 hr
              have hgt : (S.know t e (e.eval c.ρ)).tmps.get (path t) = some (.bool (e.eval c.ρ)) := by simp [St.know, Tr.get_set]
              by_cases hb : e.eval c.ρ = want
              · rw [hb] at I1 hgt
                obtain ⟨z, h1, h2⟩ := hyes _ x hx I1 fun g w' hgd => by
                  rw [k1] at hgd
                  simp only [Option.some.injEq, Prod.mk.injEq] at hgd
                  obtain ⟨rfl, rfl⟩ := hgd
                  exact ⟨p, t, _, k2, k3, hgt, rfl⟩
                exact ⟨z, List.mem_append_left _ h1, h2⟩
              · have hb' : e.eval c.ρ = !want := by
                  cases h1 : e.eval c.ρ <;> cases h2 : want <;> simp_all
                rw [hb'] at I1 hgt
                obtain ⟨z, h1, h2⟩ := hno _ y hy I1 ⟨g', want, p, t, _, k1, k2, k3, hgt, .inl rfl⟩
                exact ⟨z, List.mem_append_right _ h1, h2⟩
        · cases h
      · cases h
    · cases h
end
end Go.Vm
end
