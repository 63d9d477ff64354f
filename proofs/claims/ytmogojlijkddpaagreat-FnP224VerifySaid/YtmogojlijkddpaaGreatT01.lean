/- The proof of laws.FnP224Verify, text 2 of 36. Conditions: none. -/
import Derived.WideLaws
import Derived.Lib.Strings
import Derived.Laws.Append
import Derived.Laws.AppendOwn
import Derived.Test.YtmogojlijkddpaaGreatT00
noncomputable section

set_option maxRecDepth 100000
namespace Go.Vm
structure Led (X : Tk) (w0 : Base) (c c' : Ctx) (S S' : St) (w' : World) (v : SV) : Prop where
  ext : Ext S.nv S.nb c c'
  nv : S.nv <= S'.nv
  nb : S.nb <= S'.nb
  rep : MRep X w0 c' S' w'
  ok : v.ok S'.nv S'.nb
def FnOK (P : Program) (f : FuncId) : Prop := ∃ fn, P.funcs[f]? = some fn /\ (fn.name == "runtime.NumGoroutine") = false /\ fn.body.isNone = false
def ExtOK (P : Program) (X : Tk) (f : FuncId) (g : List SV -> St -> Option (SV × St)) : Prop :=
  ∀ args S v S', g args S = some (v, S') -> ∀ w0 c w, MRep X w0 c S w -> okL S.nv S.nb args ->
    ∃ c' w', Led X w0 c c' S S' w' v /\ (callFunc f (denL c args).toArray).run P w = .ok (.value (v.den c')) w'
def SpecOK (P : Program) (X : Tk) (f : FuncId) (sp : Fs) : Prop :=
  ∀ args S ls, sp args S = some ls -> ∀ w0 c w, MRep X w0 c S w -> okL S.nv S.nb args ->
    ∀ R : Ending -> World -> Prop, (∀ v S', (v, S') ∈ ls -> ∀ c' w', Led X w0 c c' S S' w' v -> R (.returned (v.den c')) w') -> Calls P f (denL c args).toArray w R
structure EnvOK (P : Program) (X : Tk) (E : Env) : Prop where
  mixed : P.follows .mixedOrders = true
  ty : ∀ t ti, E.ty t = some ti -> TyOK P t ti
  fn : ∀ f fn, E.fn f = some fn -> P.funcs[f]? = some fn /\ (fn.name == "runtime.NumGoroutine") = false
  meth : ∀ t name f, E.meth t name = some f -> ∃ i m e, P.info? t = some i /\ i.methods.find? (·.name == name) = some m /\ m.path.toList = [] /\ m.func = some (f, true) /\ P.underlying t = some (.pointer e)
  ext : ∀ f g, E.ext f = some g -> ExtOK P X f g
  spec : ∀ f sp, E.spec f = some sp -> FnOK P f /\ SpecOK P X f sp
theorem eqGuard_nil {P : Program} {w : World} {op : BinOp} {t : TypeId} {x y : Operand} (h : (isLit x || isLit y) = true) :
    (eqGuard op t x y .nilIface .nilIface).run P w = .ok () w := by
  unfold eqGuard
  cases op <;> simp <;> cases x <;> simp [isLit] at h ⊢ <;> cases y <;> simp at h ⊢
section
variable {P : Program} {X : Tk} {E : Env} {w : World} {c : Ctx} {n m : Nat}
theorem run_equal_bool {t : TypeId} (a b : Bool) (hd : P.underlying t = some .bool) : (Op.equal t (.bool a) (.bool b)).run P w = .ok (a == b) w := by
  show (Op.equalIn (9999 + 1) t (.bool a) (.bool b)).run P w = _
  rw [Op.equalIn]
  simp [run_underlying hd]
theorem run_equal_nil {t : TypeId} {ms : Array (String × TypeId)} (hd : P.underlying t = some (.interface ms)) : (Op.equal t .nilIface .nilIface).run P w = .ok true w := by
  show (Op.equalIn (9999 + 1) t _ _).run P w = _
  rw [Op.equalIn]
  simp [run_underlying hd]
theorem run_equal_held {t u : TypeId} {v : Value} {ms : Array (String × TypeId)} (hd : P.underlying t = some (.interface ms)) : (Op.equal t (.iface u v) .nilIface).run P w = .ok false w := by
  show (Op.equalIn (9999 + 1) t _ _).run P w = _
  rw [Op.equalIn]
  simp [run_underlying hd]
theorem run_equal_slice_nil {t : TypeId} {e : TypeId} {ad : Addr} {l k : Nat} (hd : P.underlying t = some (.slice e)) : (Op.equal t (.slice (some ad) l k) (.slice none 0 0)).run P w = .ok false w := by
  show (Op.equalIn (9999 + 1) t _ _).run P w = _
  rw [Op.equalIn]
  simp [run_underlying hd]
theorem run_equal_nil_nil {t : TypeId} {e : TypeId} (hd : P.underlying t = some (.slice e)) : (Op.equal t (.slice none 0 0) (.slice none 0 0)).run P w = .ok true w := by
  show (Op.equalIn (9999 + 1) t _ _).run P w = _
  rw [Op.equalIn]
  simp [run_underlying hd]
theorem run_equal_ptr_nil {t : TypeId} {e : TypeId} {ad : Addr} (hd : P.underlying t = some (.pointer e)) : (Op.equal t (.pointer (some ad)) (.pointer none)).run P w = .ok false w := by
  show (Op.equalIn (9999 + 1) t _ _).run P w = _
  rw [Op.equalIn]
  simp [run_underlying hd]
theorem run_equal_nilp {t : TypeId} {e : TypeId} (hd : P.underlying t = some (.pointer e)) : (Op.equal t (.pointer none) (.pointer none)).run P w = .ok true w := by
  show (Op.equalIn (9999 + 1) t _ _).run P w = _
  rw [Op.equalIn]
  simp [run_underlying hd]
theorem run_equal_nilf {t : TypeId} {ps rs : Array TypeId} {vv : Bool} (hd : P.underlying t = some (.func ps rs vv)) : (Op.equal t .nilFunc .nilFunc).run P w = .ok true w := by
  show (Op.equalIn (9999 + 1) t _ _).run P w = _
  rw [Op.equalIn]
  simp [run_underlying hd]
theorem binSV_sound (hE : EnvOK P X E) {bd : Tr (Int × Int)} (hB : BdOK c.ρ bd n) {op : BinOp} {t : TypeId} {x y : Operand} {u v r : SV} (h : binSV E bd op t (isLit x) (isLit y) u v = some r)
    (hu : u.ok n m) (hv : v.ok n m) :
    (do eqGuard op t x y (u.den c) (v.den c); binOp op t (u.den c) (v.den c) : Sem Value).run P w = .ok (r.den c) w /\ r.ok n m := by
  unfold binSV at h
  split at h
  · rename_i k a k' b
    have hg := eqGuard_int (P := P) (w := w) op t x y k k' (a.eval c.ρ) (b.eval c.ρ)
    have hshift : ∀ o, (o = BinOp.shl \/ o = BinOp.shr) -> op = o -> (if binOk op b || shOk bd b then some (SV.int k (mkBin bd op k a b)) else none) = some r ->
        (do eqGuard op t x y ((SV.int k a).den c) ((SV.int k' b).den c); binOp op t ((SV.int k a).den c) ((SV.int k' b).den c) : Sem Value).run P w = .ok (r.den c) w /\ r.ok n m := by
      intro o ho hop h
      split at h
      · rename_i hb
        simp only [Option.some.injEq] at h
        subst h
        have hb0 : 0 <= b.eval c.ρ := by
          simp only [Bool.or_eq_true] at hb
          rcases hb with hb | hb
          · exact binOk_shift (hop ▸ ho) hb
          · exact shOk_spec hB hb
        have hr := run_binOp_shift (P := P) (w := w) (t := t) (k := k) (k' := k') (a := a.eval c.ρ) (hop ▸ ho) hb0
        refine ⟨?_, mkBin_ok hu hv⟩
        simp only [SV.den, Sem.run_bind, hg, Result.andThen_ok, mkBin_eval hB]
        exact hr
      · cases h
    split at h
    · exact hshift _ (.inl rfl) rfl h
    · exact hshift _ (.inr rfl) rfl h
    · split at h
      · rename_i hk
        have hk' : k = k' := by simpa using hk
        subst hk'
        split at h
        · rename_i hc
          simp only [Option.some.injEq] at h
          subst h
          refine ⟨?_, mkCmp_ok hu hv⟩
          simp only [SV.den, Sem.run_bind, hg, Result.andThen_ok, mkCmp_den hB]
          exact run_binOp_cmp hc
        · rename_i hc
          split at h
          · rename_i hb
            simp only [Option.some.injEq] at h
            subst h
            refine ⟨?_, mkBin_ok hu hv⟩
            simp only [SV.den, Sem.run_bind, hg, Result.andThen_ok, mkBin_eval hB]
            exact run_binOp_int (e := b) (ρ := c.ρ) rfl (by simpa using hc) hb
          · cases h
      · cases h
  · rename_i a b
    split at h
    · rename_i ti _ _ _ hty
      have hd := (hE.ty _ _ hty).d
      simp only [descOK] at hd
      split at h <;> simp only [Option.some.injEq, reduceCtorEq] at h
      · subst h
        refine ⟨?_, trivial⟩
        simp [SV.den, eqGuard, binOp, run_equal_bool _ _ hd]
      · subst h
        refine ⟨?_, trivial⟩
        simp [SV.den, eqGuard, binOp, run_equal_bool _ _ hd]
    · cases h
  · rename_i a e
    split at h
    · rename_i ti _ _ _ hty
      have hd := (hE.ty _ _ hty).d
      simp only [descOK] at hd
      split at h <;> simp only [Option.some.injEq, reduceCtorEq] at h
      · subst h
        refine ⟨?_, by cases a <;> exact hv⟩
        cases a <;> simp [SV.den, eqGuard, binOp, run_equal_bool _ _ hd, BE.eval]
      · subst h
        refine ⟨?_, by cases a <;> exact hv⟩
        cases a <;> simp [SV.den, eqGuard, binOp, run_equal_bool _ _ hd, BE.eval]
    · cases h
  · rename_i e a
    split at h
    · rename_i ti _ _ _ hty
      have hd := (hE.ty _ _ hty).d
      simp only [descOK] at hd
      split at h <;> simp only [Option.some.injEq, reduceCtorEq] at h
      · subst h
        refine ⟨?_, by cases a <;> exact hu⟩
        cases a <;> simp [SV.den, eqGuard, binOp, run_equal_bool _ _ hd, BE.eval]
      · subst h
        refine ⟨?_, by cases a <;> exact hu⟩
        cases a <;> simp [SV.den, eqGuard, binOp, run_equal_bool _ _ hd, BE.eval]
    · cases h
  · rename_i a b
    split at h <;> simp only [Option.some.injEq, reduceCtorEq] at h
    · subst h
      refine ⟨?_, trivial⟩
      simp only [SV.den, eqGuard, binOp, Op.stringOp, Lib.toList_data]; simp
    · subst h
      refine ⟨?_, trivial⟩
      simp only [SV.den, eqGuard, binOp, Op.stringOp, Lib.toList_data]; simp
  · rename_i t' v'
    split at h
    · rename_i b _ _ _ hty
      obtain ⟨ms, hu', _⟩ := (hE.ty _ _ hty).d
      split at h <;> simp only [Option.some.injEq, reduceCtorEq] at h
      · subst h
        refine ⟨?_, trivial⟩
        simp [SV.den, eqGuard, binOp, run_equal_held hu']
      · subst h
        refine ⟨?_, trivial⟩
        simp [SV.den, eqGuard, binOp, run_equal_held hu']
    · cases h
  · split at h
    · rename_i hl
      split at h
      · rename_i b _ _ _ hty
        obtain ⟨ms, hu', _⟩ := (hE.ty _ _ hty).d
        have hg := eqGuard_nil (P := P) (w := w) (op := op) (t := t) hl
        split at h <;> simp only [Option.some.injEq, reduceCtorEq] at h
        · subst h
          refine ⟨?_, trivial⟩
          simp only [SV.den, Sem.run_bind, hg, Result.andThen_ok]; simp [binOp, run_equal_nil hu']
        · subst h
          refine ⟨?_, trivial⟩
          simp only [SV.den, Sem.run_bind, hg, Result.andThen_ok]; simp [binOp, run_equal_nil hu']
      · cases h
    · cases h
  · split at h
    · rename_i e _ _ _ hty
      have hd := (hE.ty _ _ hty).d
      simp only [descOK] at hd
      split at h <;> simp only [Option.some.injEq, reduceCtorEq] at h
      · subst h
        refine ⟨?_, trivial⟩
        simp [SV.den, eqGuard, binOp, run_equal_slice_nil hd]
      · subst h
        refine ⟨?_, trivial⟩
        simp [SV.den, eqGuard, binOp, run_equal_slice_nil hd]
    · cases h
  · split at h
    · rename_i e _ _ _ hty
      have hd := (hE.ty _ _ hty).d
      simp only [descOK] at hd
      split at h <;> simp only [Option.some.injEq, reduceCtorEq] at h
      · subst h
        refine ⟨?_, trivial⟩
        simp [SV.den, eqGuard, binOp, run_equal_slice_nil hd]
      · subst h
        refine ⟨?_, trivial⟩
        simp [SV.den, eqGuard, binOp, run_equal_slice_nil hd]
    · cases h
  · split at h
    · rename_i e _ _ _ hty
      have hd := (hE.ty _ _ hty).d
      simp only [descOK] at hd
      split at h <;> simp only [Option.some.injEq, reduceCtorEq] at h
      · subst h
        refine ⟨?_, trivial⟩
        simp [SV.den, eqGuard, binOp, run_equal_nil_nil hd]
      · subst h
        refine ⟨?_, trivial⟩
        simp [SV.den, eqGuard, binOp, run_equal_nil_nil hd]
    · cases h
  · split at h
    · rename_i e _ _ _ hty
      have hd := (hE.ty _ _ hty).d
      simp only [descOK] at hd
      split at h <;> simp only [Option.some.injEq, reduceCtorEq] at h
      · subst h
        refine ⟨?_, trivial⟩
        simp [SV.den, eqGuard, binOp, run_equal_ptr_nil hd]
      · subst h
        refine ⟨?_, trivial⟩
        simp [SV.den, eqGuard, binOp, run_equal_ptr_nil hd]
    · cases h
  · split at h
    · rename_i e _ _ _ hty
      have hd := (hE.ty _ _ hty).d
      simp only [descOK] at hd
      split at h <;> simp only [Option.some.injEq, reduceCtorEq] at h
      · subst h
        refine ⟨?_, trivial⟩
        simp [SV.den, eqGuard, binOp, run_equal_nilp hd]
      · subst h
        refine ⟨?_, trivial⟩
        simp [SV.den, eqGuard, binOp, run_equal_nilp hd]
    · cases h
  · split at h
    · rename_i _ _ _ hty
      obtain ⟨ps, rs, vv, hd⟩ := (hE.ty _ _ hty).d
      split at h <;> simp only [Option.some.injEq, reduceCtorEq] at h
      · subst h
        refine ⟨?_, trivial⟩
        simp [SV.den, eqGuard, binOp, run_equal_nilf hd]
      · subst h
        refine ⟨?_, trivial⟩
        simp [SV.den, eqGuard, binOp, run_equal_nilf hd]
    · cases h
  · cases h
theorem constNat_spec {v : SV} {i : Nat} (h : constNat v = some i) : ∃ k, v.den c = .int k (i : Int) := by
  unfold constNat at h
  split at h
  · rename_i k j
    simp only [Option.some.injEq] at h
    subst h
    exact ⟨k, by simp [SV.den, IE.eval]⟩
  · cases h
theorem denL_length (l : List SV) : (denL c l).length = l.length := by rw [denL_map]; simp
theorem okL_get {l : List SV} (h : okL n m l) {i : Nat} {v : SV} (hv : l[i]? = some v) : v.ok n m :=
  (okL_iff _ _ _).1 h v (List.mem_of_getElem? hv)
theorem okL_drop_take {l : List SV} (h : okL n m l) (i j : Nat) : okL n m ((l.drop i).take j) :=
  (okL_iff _ _ _).2 fun v hv => (okL_iff _ _ _).1 h v (List.mem_of_mem_drop (List.mem_of_mem_take hv))
theorem okL_append {l l' : List SV} (h : okL n m l) (h' : okL n m l') : okL n m (l ++ l') :=
  (okL_iff _ _ _).2 fun v hv => by
    rcases List.mem_append.1 hv with hv | hv
    · exact (okL_iff _ _ _).1 h v hv
    · exact (okL_iff _ _ _).1 h' v hv
theorem partSV_sound (hE : EnvOK P X E) {t : TypeId} {l : List SV} {off : Nat} {r : SV} (h : partSV E t l off = some r) (hl : okL n m l) :
    (part t (denL c l).toArray off).run P w = .ok (r.den c) w /\ r.ok n m := by
  unfold partSV at h
  simp only [Option.bind_eq_bind, Option.bind_eq_some_iff] at h
  obtain ⟨ti, hty, h⟩ := h
  have hT := hE.ty _ _ hty
  split at h
  · rename_i ha
    split at h
    · rename_i hle
      simp only [Option.some.injEq] at h
      subst h
      refine ⟨?_, okL_drop_take hl _ _⟩
      have : ((denL c l).drop off).take ti.size = denL c ((l.drop off).take ti.size) := by
        simp [denL_map, List.map_drop, List.map_take]
      simp [part, hT.run_isAgg, ha, hT.run_sizeOf, SV.den, <- this]
    · cases h
  · rename_i ha
    have hg : (denL c l)[off]? = some (r.den c) := by rw [denL_map]; simp [h]
    refine ⟨?_, okL_get hl h⟩
    simp [part, hT.run_isAgg, ha, hg]
theorem cells_den (v : SV) : (v.den c).cells.toList = denL c v.cells \/ ∃ u, v = .val u := by
  cases v <;> simp [SV.den, SV.cells, Value.cells, denL]
end
section
variable {P : Program} {X : Tk} {E : Env} {w : World} {w0 : Base} {c : Ctx} {S : St} {a : Act}
theorem heap_cell {r : Nat} {arr : Array Value} {ty : TypeId} {fr : Nat × Nat} (h : w.heap[r]? = some (.cells arr ty fr)) (off : Nat) :
    w.cell? ⟨r, off, none⟩ = arr[off]? := by simp [World.cell?, h]
theorem blk_cell {b : Nat} {k : Blk} (h : blkRep c b k w) (hf : k.full = true) {i : Nat} {v : SV} (hv : k.cells[i]? = some v) : w.cell? ⟨c.β b, i, none⟩ = some (v.den c) := by
  unfold blkRep at h
  rw [if_pos hf] at h
  rw [heap_cell h, denL_map]; simp [hv]
theorem blk_part {b : Nat} {k : Blk} (h : blkRep c b k w) (hf : k.full = false) {i : Nat} {v : SV} (hv : k.cells[i]? = some v) : w.cell? ⟨c.β b, c.o b + i, none⟩ = some (v.den c) := by
  unfold blkRep at h
  rw [if_neg (by rw [hf]; simp)] at h
  obtain ⟨_, arr, ty, fr, h1, h2⟩ := h
  rw [heap_cell h1]; exact h2 i v hv
theorem add_off (r off j : Nat) : (⟨r, off, none⟩ : Addr).add j = ⟨r, off + j, none⟩ := by
  unfold Addr.add; split <;> simp_all
theorem run_loadList {r off : Nat} {l : List Value} (h : ∀ j v, l[j]? = some v -> w.cell? ⟨r, off + j, none⟩ = some v) : (loadCells ⟨r, off, none⟩ l.length).run P w = .ok l.toArray w :=
  run_loadCells_list (P := P) w ⟨r, off, none⟩ l (fun j v hv => by rw [add_off]; exact h j v hv)
theorem run_loadRow {b : Nat} {k : Blk} (h : blkRep c b k w) (hf : k.full = true) {off n : Nat} (hle : off + n <= k.cells.length) :
    (loadCells ⟨c.β b, off, none⟩ n).run P w = .ok (denL c ((k.cells.drop off).take n)).toArray w := by
  have hlen : (denL c ((k.cells.drop off).take n)).length = n := by rw [denL_length]; simp; omega
  have := run_loadList (P := P) (w := w) (r := c.β b) (off := off) (l := denL c ((k.cells.drop off).take n)) (fun j v hv => by
    rw [denL_map, List.getElem?_map] at hv
    cases hj : ((k.cells.drop off).take n)[j]? with
    | none => rw [hj] at hv; simp at hv
    | some u =>
      rw [hj] at hv
      simp only [Option.map_some, Option.some.injEq] at hv
      subst hv
      rw [List.getElem?_take] at hj
      split at hj
      · rw [List.getElem?_drop] at hj
        exact blk_cell h hf hj
      · cases hj)
  rw [hlen] at this
  exact this
theorem part_cells {b : Nat} {k : Blk} (h : blkRep c b k w) (hf : k.full = false) {off n : Nat} : ∀ j v, (denL c ((k.cells.drop off).take n))[j]? = some v -> w.cell? ⟨c.β b, c.o b + off + j, none⟩ = some v := fun j v hv => by
  rw [denL_map, List.getElem?_map] at hv
  cases hj : ((k.cells.drop off).take n)[j]? with
  | none => rw [hj] at hv; simp at hv
  | some u =>
    rw [hj] at hv
    simp only [Option.map_some, Option.some.injEq] at hv
    subst hv
    rw [List.getElem?_take] at hj
    split at hj
    · rw [List.getElem?_drop] at hj
      rw [Nat.add_assoc]
      exact blk_part h hf hj
    · cases hj
theorem run_loadPart {b : Nat} {k : Blk} (h : blkRep c b k w) (hf : k.full = false) {off n : Nat} (hle : off + n <= k.cells.length) :
    (loadCells ⟨c.β b, c.o b + off, none⟩ n).run P w = .ok (denL c ((k.cells.drop off).take n)).toArray w := by
  have hlen : (denL c ((k.cells.drop off).take n)).length = n := by rw [denL_length]; simp; omega
  have := run_loadList (P := P) (w := w) (r := c.β b) (off := c.o b + off) (l := denL c ((k.cells.drop off).take n)) (part_cells h hf)
  rw [hlen] at this
  exact this
theorem cellInt_spec {k : IntKind} {cells : List SV} {i : Nat} {a : IE} (h : cellInt k cells i = some a) : cells[i]? = some (.int k a) := by
  unfold cellInt at h
  split at h
  · rename_i k' a' hc
    split at h
    · rename_i hk
      simp only [Option.some.injEq] at h
      subst h
      have : k = k' := by simpa using hk
      rw [hc, this]
    · cases h
  · cases h
theorem pickC_sound {k : IntKind} {cells : List SV} {off stride : Nat} {e : IE} {ρ : Nat -> Int} : ∀ {m j : Nat} {x : IE}, pickC k cells off stride e m j = some x -> (j : Int) <= e.eval ρ -> e.eval ρ <= (j : Int) + m ->
    ∃ a, cells[off + stride * (e.eval ρ).toNat]? = some (.int k a) /\ a.eval ρ = x.eval ρ
  | 0, j, x, h, h1, h2 => by
    simp only [pickC] at h
    have : (e.eval ρ).toNat = j := by omega
    rw [this]
    exact ⟨x, cellInt_spec h, rfl⟩
  | m + 1, j, x, h, h1, h2 => by
    simp only [pickC] at h
    split at h
    · rename_i a b ha hb
      simp only [Option.some.injEq] at h
      subst h
      by_cases hj : e.eval ρ = (j : Int)
      · have : (e.eval ρ).toNat = j := by omega
        rw [this]
        exact ⟨a, cellInt_spec ha, by simp only [IE.eval]; rw [if_pos hj]⟩
      · obtain ⟨a', g1, g2⟩ := pickC_sound (ρ := ρ) hb (by push_cast; omega) (by push_cast; omega)
        exact ⟨a', g1, by simp only [IE.eval]; rw [if_neg hj, g2]⟩
    · cases h
theorem pickC_ok {k : IntKind} {cells : List SV} {off stride : Nat} {e : IE} {n m' : Nat} (hc : okL n m' cells) (he : e.ok n) : ∀ {m j : Nat} {x : IE}, pickC k cells off stride e m j = some x -> x.ok n
  | 0, j, x, h => by
    simp only [pickC] at h
    exact okL_get (v := .int k x) hc (cellInt_spec h)
  | m + 1, j, x, h => by
    simp only [pickC] at h
    split at h
    · rename_i a b ha hb
      simp only [Option.some.injEq] at h
      subst h
      exact ⟨he, okL_get (v := .int k a) hc (cellInt_spec ha), pickC_ok hc he hb⟩
    · cases h
theorem loadSV_sound (hE : EnvOK P X E) (hM : MRep X w0 c S w) {t : TypeId} {u r : SV} (h : loadSV E S.bd S.mem t u = some r) (hu : u.ok S.nv S.nb) :
    (Instr.loadAt t (u.den c)).run P w = .ok (r.den c) w /\ r.ok S.nv S.nb := by
  unfold loadSV at h
  split at h
  · rename_i b off
    simp only [Option.bind_eq_bind, Option.bind_eq_some_iff] at h
    obtain ⟨ti, hty, blk, hb, h⟩ := h
    have hT := hE.ty _ _ hty
    obtain ⟨h1, h2, h3⟩ := hM.mem b blk hb
    split at h
    · cases h
    rename_i hfull
    have hfull' : blk.full = true := by simpa using hfull
    split at h
    · rename_i ha
      split at h
      · rename_i hle
        simp only [Option.some.injEq] at h
        subst h
        refine ⟨?_, okL_drop_take h2 _ _⟩
        simp [Instr.loadAt, SV.den, Instr.sureAddr, loadVar, hT.run_isAgg, ha, hT.run_sizeOf, run_loadRow h3 hfull' hle]
      · cases h
    · rename_i ha
      refine ⟨?_, okL_get h2 h⟩
      have := blk_cell h3 hfull' h
      simp [Instr.loadAt, SV.den, Instr.sureAddr, loadVar, hT.run_isAgg, ha, this]
  · rename_i b off
    simp only [Option.bind_eq_bind, Option.bind_eq_some_iff] at h
    obtain ⟨ti, hty, blk, hb, h⟩ := h
    have hT := hE.ty _ _ hty
    obtain ⟨h1, h2, h3⟩ := hM.mem b blk hb
    split at h
    · cases h
    rename_i hfull
    have hfull' : blk.full = false := by simpa using hfull
    split at h
    · cases h
    · rename_i ha
      refine ⟨?_, okL_get h2 h⟩
      have := blk_part h3 hfull' h
      simp [Instr.loadAt, SV.den, Instr.sureAddr, loadVar, hT.run_isAgg, ha, this]
  · rename_i vw b off stride e
    simp only [Option.bind_eq_bind, Option.bind_eq_some_iff] at h
    obtain ⟨ti, hty, blk, hb, h⟩ := h
    have hT := hE.ty _ _ hty
    obtain ⟨h1, h2, h3⟩ := hM.mem b blk hb
    split at h
    · cases h
    rename_i hfull
    split at h
    · cases h
    rename_i ha
    split at h
    · rename_i l hh hrng
      split at h
      · rename_i k _ hcell
        split at h
        · rename_i hlh
          simp only [Option.map_eq_some_iff] at h
          obtain ⟨x, hx, rfl⟩ := h
          have hr := rng_sound hM.bd hrng
          simp only [Int.ofNat_eq_natCast] at hr
          obtain ⟨a, g1, g2⟩ := pickC_sound (ρ := c.ρ) hx hr.1 (by omega)
          refine ⟨?_, pickC_ok h2 hu.2 hx⟩
          have hc : w.cell? ⟨c.β b, (if vw then c.o b else 0) + off + stride * (e.eval c.ρ).toNat, none⟩ = some ((SV.int k a).den c) := by
            cases vw with
            | false =>
              have hf : blk.full = true := by simpa using hfull
              have := blk_cell h3 hf g1
              simpa using this
            | true =>
              have hf : blk.full = false := by simpa using hfull
              have := blk_part h3 hf g1
              rw [<- Nat.add_assoc] at this
              simpa using this
          simp only [SV.den, g2] at hc
          simp [Instr.loadAt, SV.den, Instr.sureAddr, loadVar, hT.run_isAgg, ha, hc]
        · cases h
      · cases h
    · cases h
  · cases h
theorem fill_sound {place : Nat -> Option (Nat × Nat)} : ∀ {ps : List (Nat × SV)} {cells r : List SV}, fillSV place cells ps = some r ->
    (∀ p ∈ ps, ∀ u, p.2 ≠ .val u \/ (p.2.den c).cells.toList = denL c p.2.cells) ->
    Instr.fill place (denL c cells).toArray (ps.map fun p => (p.1, p.2.den c)) = some (denL c r).toArray
  | [], cells, r, h, _ => by simp only [fillSV, Option.some.injEq] at h; subst h; rfl
  | (i, v) :: rest, cells, r, h, hv => by
    simp only [fillSV] at h
    have hc : (v.den c).cells.toList = denL c v.cells := by
      rcases cells_den (c := c) v with h | ⟨u, h⟩
      · exact h
      · rcases hv (i, v) (by simp) u with h' | h'
        · exact absurd h h'
        · exact h'
    split at h
    · cases h
    · rename_i off size hp
      split at h
      · cases h
      · rename_i hcond
        simp only [ne_eq, Bool.or_eq_true, decide_eq_true_eq, not_or, Decidable.not_not, Nat.not_lt] at hcond
        have ih := fill_sound h (fun p hp' => hv p (by simp [hp']))
        simp only [List.map_cons, Instr.fill, hp]
        have hsz : (v.den c).cells.size = v.cells.length := by rw [<- Array.length_toList, hc, denL_length]
        have hcl : (denL c cells).toArray.size = cells.length := by simp [denL_length]
        rw [if_neg (by simp only [hsz, hcl, Bool.or_eq_true, decide_eq_true_eq, ne_eq, not_or, Decidable.not_not]; exact ⟨hcond.1, by omega⟩)]
        have key : ∀ (vs : List Value) (j : Nat) (arr : Array Value), off + j + vs.length <= arr.size ->
            ((vs.zipIdx j).foldl (fun cs (x : Value × Nat) => cs.setIfInBounds (off + x.2) x.1) arr) = (arr.toList.take (off + j) ++ vs ++ arr.toList.drop (off + j + vs.length)).toArray := by
          intro vs
          induction vs with
          | nil => intro j arr _; apply Array.ext'; simp
          | cons x vs ih =>
            intro j arr hle
            simp only [List.length_cons] at hle
            simp only [List.zipIdx_cons, List.foldl_cons]
            rw [ih (j + 1) _ (by simp; omega)]
            apply Array.ext'
            simp only [Array.toList_setIfInBounds]
            have h1 : (arr.toList.set (off + j) x).take (off + (j + 1)) = arr.toList.take (off + j) ++ [x] := by
              have hl : off + j < arr.toList.length := by simp; omega
              rw [show off + (j + 1) = off + j + 1 from by omega, List.take_succ_eq_append_getElem (by simpa using hl)]
              rw [List.take_set_of_le (Nat.le_refl _)]; simp
            have h2 : (arr.toList.set (off + j) x).drop (off + (j + 1) + vs.length) = arr.toList.drop (off + j + (vs.length + 1)) := by
              rw [List.drop_set_of_lt (by omega)]
              congr 1; omega
            rw [h1, h2]; simp
        have := key (v.den c).cells.toList 0 (denL c cells).toArray (by simp [hc, denL_length]; omega)
        rw [<- Array.foldl_toList, Array.toList_zipIdx]
        rw [show (fun cs (x : Value × Nat) => cs.setIfInBounds (off + x.2) x.1) = (fun (cs : Array Value) (x : Value × Nat) => match x with | (c, j) => cs.setIfInBounds (off + j) c) from rfl] at this
        rw [this]
        rw [<- ih]
        congr 1
        apply Array.ext'
        simp [hc, denL_map, List.map_take, List.map_drop]
end
section
variable {P : Program} {X : Tk} {E : Env} {w : World} {w0 : Base} {c : Ctx} {S : St} {a : Act}
theorem cells_plain {v : SV} (h : plainV v = true) : (v.den c).cells.toList = denL c v.cells := by
  rcases cells_den (c := c) v with h' | ⟨u, rfl⟩
  · exact h'
  · cases u <;> simp [plainV, SV.den, SV.cells, Value.cells, denL] at h ⊢
theorem sliceBound_sound {v : SV} {n y : Nat} {code : BoundsCode} (h : leNat v y = some n) : (Instr.sliceBound (v.den c) y code).run P w = .ok n w := by
  unfold leNat at h
  split at h
  · rename_i i hi
    split at h
    · rename_i hn
      simp only [Option.some.injEq] at h
      subst h
      obtain ⟨k, hk⟩ := constNat_spec (c := c) hi
      have : (0 : Int) <= i /\ (i : Int) <= y := by omega
      simp [Instr.sliceBound, hk, asIntOf, this]
    · cases h
  · cases h
theorem sliceBounds_sound {isSlice : Bool} {len cap l h m : Nat} {lo hi mx : Option SV} (hb : sliceBoundsSV len cap lo hi mx = some (l, h, m)) :
    (Instr.sliceBounds isSlice len cap (lo.map (·.den c)) (hi.map (·.den c)) (mx.map (·.den c))).run P w = .ok (l, h, m) w := by
  unfold sliceBoundsSV at hb
  split at hb
  · cases hb
  rename_i m' hm
  split at hb
  · cases hb
  rename_i h' hh
  split at hb
  · cases hb
  rename_i l' hl
  simp only [Option.some.injEq, Prod.mk.injEq] at hb
  obtain ⟨rfl, rfl, rfl⟩ := hb
  cases mx with
  | none =>
    simp only [sbMax, Option.some.injEq] at hm
    subst hm
    cases hi with
    | none =>
      simp only [sbHi, Option.some.injEq] at hh
      subst hh
      cases lo with
      | none => simp only [sbLo, Option.some.injEq] at hl; subst hl; simp [Instr.sliceBounds]
      | some v => simp only [sbLo] at hl; simp [Instr.sliceBounds, sliceBound_sound (c := c) (P := P) (w := w) hl]
    | some u =>
      simp only [sbHi] at hh
      cases lo with
      | none => simp only [sbLo, Option.some.injEq] at hl; subst hl; simp [Instr.sliceBounds, sliceBound_sound (c := c) (P := P) (w := w) hh]
      | some v => simp only [sbLo] at hl; simp [Instr.sliceBounds, sliceBound_sound (c := c) (P := P) (w := w) hl, sliceBound_sound (c := c) (P := P) (w := w) hh]
  | some x =>
    simp only [sbMax] at hm
    cases hi with
    | none => simp [sbHi] at hh
    | some u =>
      simp only [sbHi] at hh
      cases lo with
      | none => simp only [sbLo, Option.some.injEq] at hl; subst hl; simp [Instr.sliceBounds, sliceBound_sound (c := c) (P := P) (w := w) hh, sliceBound_sound (c := c) (P := P) (w := w) hm]
      | some v => simp only [sbLo] at hl; simp [Instr.sliceBounds, sliceBound_sound (c := c) (P := P) (w := w) hl, sliceBound_sound (c := c) (P := P) (w := w) hh, sliceBound_sound (c := c) (P := P) (w := w) hm]
def EvOK (c : Ctx) (S : St) (ev : Operand -> Value) : Prop := ∀ x u, opd S x = some u -> ev x = u.den c /\ u.ok S.nv S.nb
theorem TRep.ev (hT : TRep c S.tmps S.nt S.nv S.nb a) : EvOK c S a.eval := fun _ _ h => opd_sound hT h
theorem optOpd_sound {ev : Operand -> Value} (hT : EvOK c S ev) {x : Option Operand} {r : Option SV} (h : optOpd S x = some r) : x.map ev = r.map (·.den c) := by
  cases x with
  | none => simp only [optOpd, Option.some.injEq] at h; subst h; rfl
  | some x =>
    simp only [optOpd, Option.map_eq_some_iff] at h
    obtain ⟨v, hv, rfl⟩ := h
    simp [(hT _ _ hv).1]
theorem parts_sound {ev : Operand -> Value} (hT : EvOK c S ev) {parts : Array (Nat × Operand)} {ps : List (Nat × SV)}
    (h : optMap (fun (p : Nat × Operand) => (opd S p.2).map fun v => (p.1, v)) parts.toList = some ps) :
    (parts.map fun (p : Nat × Operand) => (p.1, ev p.2)).toList = ps.map (fun p => (p.1, p.2.den c)) /\ ∀ p ∈ ps, p.2.ok S.nv S.nb := by
  rw [Array.toList_map]
  generalize parts.toList = l at h ⊢
  induction l generalizing ps with
  | nil => simp only [optMap, Option.some.injEq] at h; subst h; simp
  | cons x xs ih =>
    simp only [optMap] at h
    split at h
    · rename_i y ys hy hys
      simp only [Option.some.injEq] at h
      subst h
      obtain ⟨h1, h2⟩ := ih hys
      simp only [Option.map_eq_some_iff] at hy
      obtain ⟨v, hv, rfl⟩ := hy
      obtain ⟨e1, e2⟩ := hT _ _ hv
      refine ⟨by simp [h1, e1], fun p hp => ?_⟩
      rcases List.mem_cons.1 hp with rfl | hp
      · exact e2
      · exact h2 p hp
    · cases h
theorem fillSV_ok {n m : Nat} {place : Nat -> Option (Nat × Nat)} : ∀ {ps : List (Nat × SV)} {cells r : List SV}, fillSV place cells ps = some r ->
    okL n m cells -> (∀ p ∈ ps, p.2.ok n m) -> okL n m r
  | [], _, _, h, hc, _ => by simp only [fillSV, Option.some.injEq] at h; exact h ▸ hc
  | (i, v) :: rest, cells, r, h, hc, hp => by
    simp only [fillSV] at h
    split at h
    · cases h
    · split at h
      · cases h
      · refine fillSV_ok h ?_ (fun p hp' => hp p (by simp [hp']))
        have hv : v.ok n m := hp (i, v) (by simp)
        have hvc : okL n m v.cells := by cases v <;> simp [SV.cells, okL] <;> exact hv
        have := okL_drop_take hc 0
        refine okL_append (okL_append ?_ hvc) ?_
        · exact (okL_iff _ _ _).2 fun u hu => (okL_iff _ _ _).1 hc u (List.mem_of_mem_take hu)
        · exact (okL_iff _ _ _).2 fun u hu => (okL_iff _ _ _).1 hc u (List.mem_of_mem_drop hu)
end
theorem sliceBounds_grow {len cap l h m : Nat} {lo hi : Option SV} (hle : len <= cap) (hb : sliceBoundsSV len len lo hi none = some (l, h, m)) : sliceBoundsSV len cap lo hi none = some (l, h, cap) := by
  unfold sliceBoundsSV at hb ⊢
  simp only [sbMax] at hb ⊢
  split at hb
  · cases hb
  rename_i h' hh
  split at hb
  · cases hb
  rename_i l' hl
  simp only [Option.some.injEq, Prod.mk.injEq] at hb
  obtain ⟨rfl, rfl, rfl⟩ := hb
  have : sbHi len cap hi none = some h' := by
    cases hi with
    | none => exact hh
    | some v =>
      simp only [sbHi, leNat] at hh ⊢
      split at hh
      · split at hh
        · rename_i hn
          simp only [Option.some.injEq] at hh
          subst hh
          rw [if_pos (by omega)]
        · cases hh
      · cases hh
  rw [this]
  simp only []
  rw [hl]
section
variable {P : Program} {X : Tk} {E : Env} {w : World} {w0 : Base} {c : Ctx} {S : St} {a : Act}
theorem pureOp_soundE {ev : Operand -> Value} (hE : EnvOK P X E) (hT : EvOK c S ev) (hM : MRep X w0 c S w) {o : Oper} {v : SV} (h : pureOp E S o = some v) :
    (execOp ev o).run P w = .ok (.value (v.den c)) w /\ v.ok S.nv S.nb := by
  obtain ⟨dst, op, type, pos, after, guard⟩ := o
  have O : ∀ {x : Operand} {u : SV}, opd S x = some u -> ev x = u.den c /\ u.ok S.nv S.nb := fun h => hT _ _ h
  cases op
  case move x =>
    simp only [pureOp] at h
    obtain ⟨h1, h2⟩ := O h
    exact ⟨by simp [execOp, h1], h2⟩
  case nilCheck x =>
    simp only [pureOp, Option.bind_eq_bind, Option.bind_eq_some_iff] at h
    obtain ⟨u, hu, h⟩ := h
    obtain ⟨h1, h2⟩ := O hu
    split at h
    · simp only [Option.some.injEq] at h; subst h
      exact ⟨by simp [execOp, h1, SV.den], h2⟩
    · simp only [Option.some.injEq] at h; subst h
      exact ⟨by simp [execOp, h1, SV.den], trivial⟩
    · simp only [Option.some.injEq] at h; subst h
      exact ⟨by simp [execOp, h1, SV.den], h2⟩
    · cases h
  case binOp op t x y yt =>
    simp only [pureOp, Option.bind_eq_bind, Option.bind_eq_some_iff] at h
    obtain ⟨u, hu, u', hu', h⟩ := h
    obtain ⟨h1, h2⟩ := O hu
    obtain ⟨h3, h4⟩ := O hu'
    obtain ⟨h5, h6⟩ := binSV_sound (P := P) (w := w) (c := c) hE hM.bd h h2 h4
    refine ⟨?_, h6⟩
    simp only [execOp, h1, h3, Sem.run_bind]
    simp only [Sem.run_bind] at h5
    rw [h5]; rfl
  case unOp op t x =>
    simp only [pureOp, Option.bind_eq_bind, Option.bind_eq_some_iff] at h
    obtain ⟨u, hu, h⟩ := h
    obtain ⟨h1, h2⟩ := O hu
    split at h <;> simp only [Option.some.injEq, reduceCtorEq] at h <;> subst h
    · refine ⟨?_, mkBin_ok trivial h2⟩
      simp [execOp, h1, SV.den, Op.unary, Op.intArith, mkBin_eval hM.bd, intBin, IE.eval]
    · refine ⟨?_, mkBin_ok trivial h2⟩
      simp [execOp, h1, SV.den, Op.unary, Op.intBits, mkBin_eval hM.bd, intBin, IE.eval]
    · exact ⟨by simp [execOp, h1, SV.den, Op.unary], trivial⟩
    · exact ⟨by simp [execOp, h1, SV.den, Op.unary, BE.eval], h2⟩
  case convert s d x =>
    simp only [pureOp, Option.bind_eq_bind, Option.bind_eq_some_iff] at h
    obtain ⟨u, hu, h⟩ := h
    obtain ⟨h1, h2⟩ := O hu
    split at h <;> simp only [Option.some.injEq, reduceCtorEq] at h
    rename_i hs hd
    subst h
    obtain ⟨ds, hds⟩ := (hE.ty _ _ hs).underlying_some
    have hdd := (hE.ty _ _ hd).d
    simp only [descOK] at hdd
    refine ⟨?_, mkWrap_ok h2⟩
    simp [execOp, h1, SV.den, convert, run_underlying hds, run_underlying hdd, Conv.intToInt, mkWrap_eval hM.bd]
  case makeInterface t x =>
    simp only [pureOp, Option.bind_eq_bind, Option.bind_eq_some_iff] at h
    obtain ⟨ti, hty, h⟩ := h
    split at h
    · cases h
    · rename_i hni
      simp only [Option.bind_eq_some_iff, Option.some.injEq] at h
      obtain ⟨u, hu, h⟩ := h
      subst h
      obtain ⟨h1, h2⟩ := O hu
      refine ⟨?_, h2⟩
      have hd := (hE.ty _ _ hty).d
      obtain ⟨d, size, bytes, zero⟩ := ti
      cases d <;> simp only [descOK] at hd
      case struct fs => obtain ⟨f, hd, _⟩ := hd; simp [execOp, h1, SV.den, Instr.makeInterface, run_underlying hd]
      case iface b => exact absurd rfl (hni b)
      case other => obtain ⟨ps, rs, v, hd⟩ := hd; simp [execOp, h1, SV.den, Instr.makeInterface, run_underlying hd]
      all_goals simp [execOp, h1, SV.den, Instr.makeInterface, run_underlying hd]
  case extract x i =>
    simp only [pureOp, Option.bind_eq_bind, Option.bind_eq_some_iff] at h
    obtain ⟨u, hu, h⟩ := h
    obtain ⟨h1, h2⟩ := O hu
    split at h
    · rename_i l
      refine ⟨?_, okL_get h2 h⟩
      have : (denL c l)[i]? = some (v.den c) := by rw [denL_map]; simp [h]
      simp [execOp, h1, SV.den, Instr.extract, this]
    · cases h
  case field t x f =>
    simp only [pureOp, Option.bind_eq_bind, Option.bind_eq_some_iff] at h
    obtain ⟨u, hu, h⟩ := h
    obtain ⟨h1, h2⟩ := O hu
    split at h
    · rename_i fs _ _ _ l hty
      simp only [Option.bind_eq_some_iff] at h
      obtain ⟨⟨off, ft⟩, hf, h⟩ := h
      obtain ⟨fields, hd, hfs⟩ := (hE.ty _ _ hty).d
      obtain ⟨h3, h4⟩ := partSV_sound (P := P) (w := w) (c := c) hE h h2
      refine ⟨?_, h4⟩
      rw [<- hfs] at hf
      simp only [List.getElem?_map, Option.map_eq_some_iff, Prod.mk.injEq] at hf
      obtain ⟨fd, hfd, rfl, rfl⟩ := hf
      have hfd' : fields[f]? = some fd := by simpa using hfd
      simp [execOp, h1, SV.den, Instr.field, run_underlying hd, hfd', asAgg, h3]
    · cases h
  case index t x ix =>
    simp only [pureOp, Option.bind_eq_bind, Option.bind_eq_some_iff] at h
    obtain ⟨u, hu, u', hu', h⟩ := h
    obtain ⟨h1, h2⟩ := O hu
    obtain ⟨h3, h4⟩ := O hu'
    split at h
    · rename_i n elem _ _ _ l hty
      simp only [Option.bind_eq_some_iff] at h
      obtain ⟨i, hi, ei, hei, h⟩ := h
      split at h
      · rename_i hlt
        obtain ⟨k, hk⟩ := constNat_spec (c := c) hi
        have hd := (hE.ty _ _ hty).d
        simp only [descOK] at hd
        obtain ⟨h5, h6⟩ := partSV_sound (P := P) (w := w) (c := c) hE h h2
        refine ⟨?_, h6⟩
        simp [execOp, h1, h3, hk, SV.den, Instr.index, asIntOf, run_underlying hd, (hE.ty _ _ hei).run_sizeOf, h5]
        intro hx; exact absurd hx (by omega)
      · cases h
    · rename_i _ _ _ s hty
      simp only [Option.bind_eq_some_iff, Option.some.injEq] at h
      obtain ⟨i, hi, b, hb, h⟩ := h
      subst h
      obtain ⟨k, hk⟩ := constNat_spec (c := c) hi
      have hd := (hE.ty _ _ hty).d
      simp only [descOK] at hd
      refine ⟨?_, trivial⟩
      simp [execOp, h1, h3, hk, SV.den, Instr.index, asIntOf, run_underlying hd, hb, IE.eval]
    · cases h
  case pick x y z =>
    simp only [pureOp, Option.bind_eq_bind, Option.bind_eq_some_iff] at h
    obtain ⟨u, hu, h⟩ := h
    obtain ⟨h1, h2⟩ := O hu
    split at h
    · obtain ⟨h3, h4⟩ := O h
      exact ⟨by simp [execOp, h1, SV.den, asBool, h3], h4⟩
    · obtain ⟨h3, h4⟩ := O h
      exact ⟨by simp [execOp, h1, SV.den, asBool, h3], h4⟩
    · cases h
  case build t parts =>
    simp only [pureOp, Option.bind_eq_bind, Option.bind_eq_some_iff] at h
    obtain ⟨ti, hty, ps, hps, h⟩ := h
    have hT' := hE.ty _ _ hty
    split at h
    · cases h
    rename_i hpl
    obtain ⟨h1, h2⟩ := parts_sound hT hps
    obtain ⟨z, hz, hzc⟩ := hT'.run_zero (w := w) c
    have hpl' : ∀ p ∈ ps, ∀ u, p.2 ≠ .val u \/ (p.2.den c).cells.toList = denL c p.2.cells := fun p hp u => .inr (cells_plain (by
      simp only [Bool.not_eq_true, Bool.not_eq_false', List.all_eq_true] at hpl
      exact hpl p hp))
    have hzok : okL S.nv S.nb ti.zero := okL_mono (Nat.zero_le _) (Nat.zero_le _) hT'.zok
    split at h
    · rename_i fs hd0
      simp only [Option.bind_eq_some_iff, Option.some.injEq] at h
      obtain ⟨places, hpls, cells, hf, h⟩ := h
      subst h
      have hd := hT'.d
      rw [hd0] at hd
      obtain ⟨fields, hd, hfs⟩ := hd
      refine ⟨?_, fillSV_ok hf hzok h2⟩
      have hmap : (fields.mapM fun f => do pure (f.offset, <- sizeOf f.type) : Sem _).run P w = .ok places.toArray w := by
        rw [Array.mapM_eq_mapM_toList]
        have : ∀ (l : List Field) (ps : List (Nat × Nat)), optMap (fun (p : Nat × TypeId) => (E.ty p.2).map fun fi => (p.1, fi.size)) (l.map fun f => (f.offset, f.type)) = some ps ->
            (l.mapM (fun f => do pure (f.offset, <- sizeOf f.type) : Field -> Sem (Nat × Nat))).run P w = .ok ps w := by
          intro l
          induction l with
          | nil => intro ps hp; simp only [List.map_nil, optMap, Option.some.injEq] at hp; subst hp; simp
          | cons f l ih =>
            intro ps hp
            simp only [List.map_cons, optMap] at hp
            split at hp
            · rename_i y ys hy hys
              simp only [Option.some.injEq] at hp
              subst hp
              simp only [Option.map_eq_some_iff] at hy
              obtain ⟨fi, hfi, rfl⟩ := hy
              have ih' := ih _ hys
              simp only [List.mapM_cons, Sem.run_bind, (hE.ty _ _ hfi).run_sizeOf, Result.andThen_ok, Sem.run_pure]
              simp only [ih', Result.andThen_ok]
            · cases hp
        have h3 := this fields.toList places (by rw [hfs]; exact hpls)
        rw [Sem.run_map, h3]; rfl
      have hfill := fill_sound (c := c) hf hpl'
      rw [<- h1] at hfill
      simp only [execOp, Instr.build, Sem.run_bind, hz, Result.andThen_ok, run_underlying hd, hmap, hzc]
      have hpl2 : (fun (x : Nat) => places.toArray[x]?) = (fun (x : Nat) => places[x]?) := by funext x; simp
      rw [hpl2, hfill]
      simp [SV.den]
    · rename_i n elem hd0
      simp only [Option.bind_eq_some_iff, Option.some.injEq] at h
      obtain ⟨ei, hei, cells, hf, h⟩ := h
      subst h
      have hd := hT'.d
      rw [hd0] at hd
      simp only [descOK] at hd
      refine ⟨?_, fillSV_ok hf hzok h2⟩
      have hfill := fill_sound (c := c) hf hpl'
      rw [<- h1] at hfill
      simp only [execOp, Instr.build, Sem.run_bind, hz, Result.andThen_ok, run_underlying hd, hzc, (hE.ty _ _ hei).run_sizeOf, hfill]
      simp [SV.den]
    · cases h
  case load t x =>
    simp only [pureOp, Option.bind_eq_bind, Option.bind_eq_some_iff] at h
    obtain ⟨u, hu, h⟩ := h
    obtain ⟨h1, h2⟩ := O hu
    obtain ⟨h3, h4⟩ := loadSV_sound (P := P) hE hM h h2
    exact ⟨by simp [execOp, h1, h3], h4⟩
  case fieldAddr t x f =>
    simp only [pureOp, Option.bind_eq_bind, Option.bind_eq_some_iff] at h
    obtain ⟨u, hu, h⟩ := h
    obtain ⟨h1, h2⟩ := O hu
    split at h
    · rename_i fs _ _ _ b off hty
      simp only [Option.bind_eq_some_iff] at h
      obtain ⟨⟨fo, ft⟩, hf, fi, hfi, h⟩ := h
      split at h
      · cases h
      · rename_i hsz
        simp only [Option.some.injEq] at h
        subst h
        obtain ⟨fields, hd, hfs⟩ := (hE.ty _ _ hty).d
        refine ⟨?_, h2⟩
        rw [<- hfs] at hf
        simp only [List.getElem?_map, Option.map_eq_some_iff, Prod.mk.injEq] at hf
        obtain ⟨fd, hfd, rfl, rfl⟩ := hf
        have hfd' : fields[f]? = some fd := by simpa using hfd
        simp [execOp, h1, SV.den, Instr.fieldAt, run_underlying hd, hfd', Instr.sureAddr, fieldPlace, (hE.ty _ _ hfi).run_sizeOf, hsz, add_off]
    · cases h
  case indexAddr t x ix =>
    simp only [pureOp, Option.bind_eq_bind, Option.bind_eq_some_iff] at h
    obtain ⟨u, hu, u', hu', h⟩ := h
    obtain ⟨h1, h2⟩ := O hu
    obtain ⟨h3, h4⟩ := O hu'
    have symI : ∀ {n : Nat} {f : IE -> SV} {r : SV}, symIdx S.bd n f u' = some r -> ∃ k e, u' = .int k e /\ r = f e /\ 0 <= e.eval c.ρ /\ e.eval c.ρ < n /\ e.ok S.nv := by
      intro n f r h
      cases u' with
      | int k e =>
        simp only [symIdx] at h
        split at h
        · rename_i rg hrg
          split at h
          · rename_i hc
            simp only [Bool.and_eq_true, decide_eq_true_eq] at hc
            simp only [Option.some.injEq] at h
            have := rng_sound hM.bd hrg
            exact ⟨k, e, rfl, h.symm, by omega, by omega, h4⟩
          · cases h
        · cases h
      | _ => simp [symIdx] at h
    split at h
    · rename_i n elem _ _ _ b off hty
      simp only [Option.bind_eq_some_iff] at h
      obtain ⟨ei, hei, h⟩ := h
      have hd := (hE.ty _ _ hty).d
      simp only [descOK] at hd
      split at h
      · rename_i i hi
        split at h
        · rename_i hlt
          simp only [Option.some.injEq] at h
          subst h
          obtain ⟨k, hk⟩ := constNat_spec (c := c) hi
          refine ⟨?_, h2⟩
          simp [execOp, h1, h3, hk, SV.den, Instr.indexAt, asIntOf, run_underlying hd, Instr.sureAddr, (hE.ty _ _ hei).run_sizeOf, add_off]
          intro hx; exact absurd hx (by omega)
        · cases h
      · obtain ⟨k, e, rfl, rfl, e1, e2, e3⟩ := symI h
        refine ⟨?_, h2, e3⟩
        have hlt : ¬ (n : Int) <= e.eval c.ρ := by omega
        have hnn : ¬ e.eval c.ρ < 0 := by omega
        simp [execOp, h1, h3, SV.den, Instr.indexAt, asIntOf, run_underlying hd, Instr.sureAddr, (hE.ty _ _ hei).run_sizeOf, add_off, e1, e2, Nat.mul_comm]
    · rename_i elem _ _ _ b off len cap hty
      simp only [Option.bind_eq_some_iff] at h
      obtain ⟨ei, hei, h⟩ := h
      have hd := (hE.ty _ _ hty).d
      simp only [descOK] at hd
      split at h
      · rename_i i hi
        split at h
        · rename_i hlt
          simp only [Option.some.injEq] at h
          subst h
          obtain ⟨k, hk⟩ := constNat_spec (c := c) hi
          refine ⟨?_, h2⟩
          simp [execOp, h1, h3, hk, SV.den, Instr.indexAt, asIntOf, run_underlying hd, (hE.ty _ _ hei).run_sizeOf, add_off]
          intro hx; exact absurd hx (by omega)
        · cases h
      · obtain ⟨k, e, rfl, rfl, e1, e2, e3⟩ := symI h
        refine ⟨?_, h2, e3⟩
        simp [execOp, h1, h3, SV.den, Instr.indexAt, asIntOf, run_underlying hd, (hE.ty _ _ hei).run_sizeOf, add_off, e1, e2, Nat.mul_comm]
    · rename_i elem _ _ _ b off len hty
      simp only [Option.bind_eq_some_iff] at h
      obtain ⟨ei, hei, h⟩ := h
      have hd := (hE.ty _ _ hty).d
      simp only [descOK] at hd
      split at h
      · rename_i hsz
        simp only [beq_iff_eq] at hsz
        split at h
        · rename_i i hi
          split at h
          · rename_i hlt
            simp only [Option.some.injEq] at h
            subst h
            obtain ⟨k, hk⟩ := constNat_spec (c := c) hi
            refine ⟨?_, h2⟩
            simp [execOp, h1, h3, hk, SV.den, Instr.indexAt, asIntOf, run_underlying hd, (hE.ty _ _ hei).run_sizeOf, add_off, hsz, Nat.add_assoc]
            intro hx; exact absurd hx (by omega)
          · cases h
        · obtain ⟨k, e, rfl, rfl, e1, e2, e3⟩ := symI h
          refine ⟨?_, h2, e3⟩
          simp [execOp, h1, h3, SV.den, Instr.indexAt, asIntOf, run_underlying hd, (hE.ty _ _ hei).run_sizeOf, add_off, e1, e2, hsz, Nat.add_assoc]
      · cases h
    · rename_i n elem _ _ _ b off hty
      simp only [Option.bind_eq_some_iff] at h
      obtain ⟨ei, hei, h⟩ := h
      have hd := (hE.ty _ _ hty).d
      simp only [descOK] at hd
      split at h
      · rename_i i hi
        split at h
        · rename_i hlt
          simp only [Option.some.injEq] at h
          subst h
          obtain ⟨k, hk⟩ := constNat_spec (c := c) hi
          refine ⟨?_, h2⟩
          simp [execOp, h1, h3, hk, SV.den, Instr.indexAt, asIntOf, run_underlying hd, Instr.sureAddr, (hE.ty _ _ hei).run_sizeOf, add_off, Nat.add_assoc]
          intro hx; exact absurd hx (by omega)
        · cases h
      · cases h
    · cases h
  case slice t x lo hi mx =>
    simp only [pureOp, Option.bind_eq_bind, Option.bind_eq_some_iff] at h
    obtain ⟨lo', hlo, hi', hhi, mx', hmx, u, hu, h⟩ := h
    obtain ⟨h1, h2⟩ := O hu
    have e1 := optOpd_sound hT hlo
    have e2 := optOpd_sound hT hhi
    have e3 := optOpd_sound hT hmx
    split at h
    · rename_i n elem _ _ _ b off hty
      simp only [Option.bind_eq_some_iff] at h
      obtain ⟨⟨l, hh, m⟩, hb, ei, hei, h⟩ := h
      simp only [Option.some.injEq] at h
      subst h
      have hd := (hE.ty _ _ hty).d
      simp only [descOK] at hd
      have hs := sliceBounds_sound (P := P) (w := w) (c := c) (isSlice := false) hb
      refine ⟨?_, h2⟩
      simp only [execOp, h1, SV.den, e1, e2, e3, Instr.sliceAt, run_underlying hd, Instr.sureAddr, hs, Sem.run_bind, Result.andThen_ok, (hE.ty _ _ hei).run_sizeOf, Sem.run_pure]
      split <;> simp [add_off]
    · rename_i elem _ _ _ b off len cap hty
      simp only [Option.bind_eq_some_iff] at h
      obtain ⟨⟨l, hh, m⟩, hb, ei, hei, h⟩ := h
      simp only [Option.some.injEq] at h
      subst h
      have hd := (hE.ty _ _ hty).d
      simp only [descOK] at hd
      have hs := sliceBounds_sound (P := P) (w := w) (c := c) (isSlice := true) hb
      refine ⟨?_, h2⟩
      simp only [execOp, h1, SV.den, e1, e2, e3, Instr.sliceAt, Instr.slice, run_underlying hd, hs, Sem.run_bind, Result.andThen_ok, (hE.ty _ _ hei).run_sizeOf, Sem.run_pure]
      split <;> simp [add_off]
    · rename_i elem _ _ _ b off len hty
      simp only [Option.bind_eq_some_iff] at h
      obtain ⟨⟨l, hh, m⟩, hb, ei, hei, blk, hblk, h⟩ := h
      split at h
      · rename_i hc
        simp only [Bool.and_eq_true, decide_eq_true_eq, beq_iff_eq, Bool.not_eq_true', Option.isNone_iff_eq_none] at hc
        obtain ⟨⟨⟨⟨hmx0, hfull⟩, hsz⟩, hl⟩, hlen⟩ := hc
        simp only [Option.some.injEq] at h
        subst h
        subst hmx0
        have hd := (hE.ty _ _ hty).d
        simp only [descOK] at hd
        obtain ⟨k1, k2, k3⟩ := hM.mem b blk hblk
        unfold blkRep at k3
        rw [if_neg (by rw [hfull]; simp)] at k3
        have hcap : off + len <= c.κ b := Nat.le_trans hlen k3.1
        have hb' := sliceBounds_grow (cap := c.κ b - off) (by omega) hb
        have hs := sliceBounds_sound (P := P) (w := w) (c := c) (isSlice := true) hb'
        refine ⟨?_, h2⟩
        simp only [Option.map_none] at hs e3
        simp only [execOp, h1, SV.den, e1, e2, e3, Instr.sliceAt, Instr.slice, run_underlying hd, hs, Sem.run_bind, Result.andThen_ok, (hE.ty _ _ hei).run_sizeOf, Sem.run_pure]
        rw [if_neg (by omega)]
        simp [add_off, hsz, Nat.add_assoc]
        omega
      · cases h
    · cases h
  case call cl =>
    obtain ⟨callee, args, argTypes⟩ := cl
    simp only [pureOp] at h
    split at h
    · rename_i b
      have hr : (execOp ev ⟨dst, .call ⟨.builtin b, args, argTypes⟩, type, pos, after, guard⟩) =
          builtin b argTypes type (args.map fun | .const _ => true | _ => false) (args.map ev) := by
        simp only [execOp, resolve]; rfl
      rw [hr]
      unfold pureBuiltin at h
      split at h
      · rename_i x t ha ht
        obtain rfl : args = #[x] := by rw [<- Array.toArray_toList (xs := args), ha]
        obtain rfl : argTypes = #[t] := by rw [<- Array.toArray_toList (xs := argTypes), ht]
        split at h
        · rename_i hty hu
          simp only [Option.some.injEq] at h
          subst h
          obtain ⟨h1, h2⟩ := O hu
          have hd := (hE.ty _ _ hty).d
          simp only [descOK] at hd
          exact ⟨by simp [builtin, Builtin.len_, h1, SV.den, run_underlying hd, goInt, IE.eval], trivial⟩
        · rename_i hty hu
          simp only [Option.some.injEq] at h
          subst h
          obtain ⟨h1, h2⟩ := O hu
          have hd := (hE.ty _ _ hty).d
          simp only [descOK] at hd
          exact ⟨by simp [builtin, Builtin.len_, h1, SV.den, run_underlying hd, goInt, IE.eval], trivial⟩
        · rename_i hty hu
          simp only [Option.some.injEq] at h
          subst h
          obtain ⟨h1, h2⟩ := O hu
          have hd := (hE.ty _ _ hty).d
          simp only [descOK] at hd
          exact ⟨by simp [builtin, Builtin.len_, h1, SV.den, run_underlying hd, goInt, IE.eval], trivial⟩
        · rename_i i _ hty hu
          obtain ⟨rfl, l, u, hb, hl, hu'⟩ := lenSV_spec h
          obtain ⟨h1, h2⟩ := O hu
          obtain ⟨g1, g2, g3⟩ := hM.bd i _ hb
          have hd := (hE.ty _ _ hty).d
          simp only [descOK] at hd
          have e : ((c.ρ i).toNat : Int) = c.ρ i := Int.toNat_of_nonneg (by simp only at g2; omega)
          exact ⟨by simp [builtin, Builtin.len_, h1, SV.den, run_underlying hd, goInt, IE.eval, e], g1⟩
        · rename_i hty hu
          simp only [Option.some.injEq] at h
          subst h
          obtain ⟨h1, h2⟩ := O hu
          have hd := (hE.ty _ _ hty).d
          simp only [descOK] at hd
          exact ⟨by simp [builtin, Builtin.len_, h1, SV.den, run_underlying hd, goInt, IE.eval], trivial⟩
        · rename_i hty hu
          simp only [Option.some.injEq] at h
          subst h
          have hd := (hE.ty _ _ hty).d
          simp only [descOK] at hd
          exact ⟨by simp [builtin, Builtin.len_, SV.den, run_underlying hd, goInt, IE.eval], trivial⟩
        · cases h
      · rename_i x t ha ht
        obtain rfl : args = #[x] := by rw [<- Array.toArray_toList (xs := args), ha]
        obtain rfl : argTypes = #[t] := by rw [<- Array.toArray_toList (xs := argTypes), ht]
        split at h <;> simp only [Option.some.injEq, reduceCtorEq] at h <;> subst h
        · rename_i hty hu
          obtain ⟨h1, h2⟩ := O hu
          have hd := (hE.ty _ _ hty).d
          simp only [descOK] at hd
          exact ⟨by simp [builtin, Builtin.cap_, h1, SV.den, run_underlying hd, goInt, IE.eval], trivial⟩
        · rename_i hty hu
          obtain ⟨h1, h2⟩ := O hu
          have hd := (hE.ty _ _ hty).d
          simp only [descOK] at hd
          exact ⟨by simp [builtin, Builtin.cap_, h1, SV.den, run_underlying hd, goInt, IE.eval], trivial⟩
      · rename_i x y ha
        obtain rfl : args = #[x, y] := by rw [<- Array.toArray_toList (xs := args), ha]
        split at h <;> simp only [Option.some.injEq, reduceCtorEq] at h
        subst h
        rename_i hu hu'
        obtain ⟨h1, h2⟩ := O hu
        obtain ⟨h3, h4⟩ := O hu'
        exact ⟨by simp [builtin, Builtin.max_, Builtin.max2, h1, h3, SV.den, IE.eval], trivial⟩
      · cases h
    · cases h
  all_goals (simp only [pureOp, reduceCtorEq] at h)
theorem pureOp_sound (hE : EnvOK P X E) (hT : TRep c S.tmps S.nt S.nv S.nb a) (hM : MRep X w0 c S w) {o : Oper} {v : SV} (h : pureOp E S o = some v) :
    (execOp a.eval o).run P w = .ok (.value (v.den c)) w /\ v.ok S.nv S.nb := pureOp_soundE hE hT.ev hM h
end
section
variable {P : Program} {X : Tk} {E : Env} {w : World} {w0 : Base} {c : Ctx} {S : St} {a : Act}
structure Named (X : Tk) (w0 : Base) (w : World) (c c' : Ctx) (S S' : St) : Prop where
  ext : Ext S.nv S.nb c c'
  nv : S.nv <= S'.nv
  nb : S'.nb = S.nb
  tmps : S'.tmps = S.tmps
  nt : S'.nt = S.nt
  mem : S'.mem = S.mem
  rep : MRep X w0 c' S' w
theorem Named.refl (h : MRep X w0 c S w) : Named X w0 w c c S S := ⟨Ext.refl _ _ _, Nat.le_refl _, rfl, rfl, rfl, rfl, h⟩
theorem Named.trans {c' c'' : Ctx} {S' S'' : St} (h : Named X w0 w c c' S S') (h' : Named X w0 w c' c'' S' S'') : Named X w0 w c c'' S S'' :=
  ⟨h.ext.trans h'.ext h.nv (by rw [h.nb]; exact Nat.le_refl _), Nat.le_trans h.nv h'.nv, h'.nb.trans h.nb, h'.tmps.trans h.tmps, h'.nt.trans h.nt, h'.mem.trans h.mem, h'.rep⟩
theorem setBd_ok {ρ : Nat -> Int} {bd : Tr (Int × Int)} {i : Nat} {r : Option (Int × Int)} (h : BdOK ρ bd (i + 1)) (hr : ∀ x, r = some x -> x.1 <= ρ i /\ ρ i <= x.2) : BdOK ρ (setBd bd i r) (i + 1) := by
  cases r with
  | none => exact h
  | some x =>
    intro j y hj
    simp only [setBd, Tr.get_set] at hj
    split at hj
    · rename_i hji
      simp only [Option.some.injEq] at hj
      subst hj; subst hji
      exact ⟨Nat.lt_succ_self _, hr x rfl⟩
    · exact h j y hj
theorem nameNew_sound (hM : MRep X w0 c S w) {e : IE} (he : e.ok S.nv) : ∃ c', Named X w0 w c c' S (nameNew S e).2 /\ (nameNew S e).1.eval c'.ρ = e.eval c.ρ /\ (nameNew S e).1.ok (nameNew S e).2.nv := by
  have hx : Ext S.nv S.nb c ⟨fun i => if i = S.nv then e.eval c.ρ else c.ρ i, c.β, c.o, c.κ⟩ := ⟨fun i hi => if_neg (by omega), fun _ _ => rfl, fun _ _ => rfl, fun _ _ => rfl⟩
  refine ⟨⟨fun i => if i = S.nv then e.eval c.ρ else c.ρ i, c.β, c.o, c.κ⟩, ⟨hx, Nat.le_succ _, rfl, rfl, rfl, rfl, ?_⟩, by simp [IE.eval, nameNew], Nat.lt_succ_self _⟩
  refine hM.more (ks := [.eq S.nv e]) (Nat.le_succ _) hx ?_ ?_
  · intro k hk
    simp only [List.mem_singleton] at hk
    subst hk
    refine ⟨⟨Nat.lt_succ_self _, IE.ok_mono (Nat.le_succ _) he⟩, ?_⟩
    simp only [Con.holds, if_true]
    rw [IE.eval_ext hx.ρ he]
  · refine setBd_ok (hM.bd.ext hx.ρ (Nat.le_succ _)) fun x hr => ?_
    simp only [if_true]
    exact rng_sound hM.bd hr
theorem nameIE_sound (hM : MRep X w0 c S w) {e : IE} (he : e.ok S.nv) :
    ∃ c', Named X w0 w c c' S (nameIE S e).2 /\ (nameIE S e).1.eval c'.ρ = e.eval c.ρ /\ (nameIE S e).1.ok (nameIE S e).2.nv := by
  cases e with
  | const n => exact ⟨c, Named.refl hM, rfl, trivial⟩
  | var i => exact ⟨c, Named.refl hM, rfl, he⟩
  | _ => exact nameNew_sound hM he
theorem name1_sound (hM : MRep X w0 c S w) {v : SV} (hv : v.ok S.nv S.nb) :
    ∃ c', Named X w0 w c c' S (name1 S v).2 /\ (name1 S v).1.den c' = v.den c /\ (name1 S v).1.ok (name1 S v).2.nv (name1 S v).2.nb := by
  cases v with
  | int k e =>
    obtain ⟨c', h1, h2, h3⟩ := nameIE_sound hM hv
    exact ⟨c', h1, by simp only [name1, SV.den, h2], h3⟩
  | _ => exact ⟨c, Named.refl hM, rfl, hv⟩
theorem nameL_sound : ∀ {l : List SV} {S : St} {c : Ctx}, MRep X w0 c S w -> okL S.nv S.nb l ->
    ∃ c', Named X w0 w c c' S (nameL S l).2 /\ denL c' (nameL S l).1 = denL c l /\ okL (nameL S l).2.nv (nameL S l).2.nb (nameL S l).1 /\ (nameL S l).1.length = l.length
  | [], S, c, hM, _ => ⟨c, Named.refl hM, rfl, trivial, rfl⟩
  | v :: l, S, c, hM, hl => by
    obtain ⟨c1, h1, h2, h3⟩ := name1_sound hM hl.1
    have hl' : okL (name1 S v).2.nv (name1 S v).2.nb l := okL_mono h1.nv (by rw [h1.nb]; exact Nat.le_refl _) hl.2
    obtain ⟨c2, h4, h5, h6, h7⟩ := nameL_sound h1.rep hl'
    refine ⟨c2, h1.trans h4, ?_, ?_, ?_⟩
    · simp only [nameL, denL]
      rw [h5, SV.den_ext h4.ext h3, h2, denL_ext h1.ext hl.2]
    · simp only [nameL, okL]
      exact ⟨SV.ok_mono h4.nv (by rw [h4.nb]; exact Nat.le_refl _) h3, h6⟩
    · simp only [nameL, List.length_cons, h7]
theorem nameV_sound (hM : MRep X w0 c S w) {v : SV} (hv : v.ok S.nv S.nb) :
    ∃ c', Named X w0 w c c' S (nameV S v).2 /\ (nameV S v).1.den c' = v.den c /\ (nameV S v).1.ok (nameV S v).2.nv (nameV S v).2.nb := by
  cases v with
  | agg l =>
    obtain ⟨c', h1, h2, h3, _⟩ := nameL_sound hM (show okL S.nv S.nb l from hv)
    exact ⟨c', h1, by simp only [nameV, SV.den, h2], h3⟩
  | tup l =>
    obtain ⟨c', h1, h2, h3, _⟩ := nameL_sound hM (show okL S.nv S.nb l from hv)
    exact ⟨c', h1, by simp only [nameV, SV.den, h2], h3⟩
  | _ => exact name1_sound hM hv
theorem nameV_plain {v : SV} (h : plainV v = true) : plainV (nameV S v).1 = true := by
  cases v with
  | int k e => cases e <;> rfl
  | val u => exact h
  | _ => rfl
theorem blkRep_lt {b : Nat} {k : Blk} (h : blkRep c b k w) : c.β b < w.heap.size := by
  unfold blkRep at h
  rcases Nat.lt_or_ge (c.β b) w.heap.size with h' | h'
  · exact h'
  · split at h
    · rw [Array.getElem?_eq_none h'] at h; cases h
    · obtain ⟨_, _, _, _, h, _⟩ := h
      rw [Array.getElem?_eq_none h'] at h; cases h
theorem blkRep_heap {w' : World} {b : Nat} {k : Blk} (h : w'.heap[c.β b]? = w.heap[c.β b]?) (hb : blkRep c b k w) : blkRep c b k w' := by
  unfold blkRep at *
  rw [h]; exact hb
theorem newBlock_sound (hM : MRep X w0 c S w) {k : Blk} {w' : World} {arr : Array Value} {fr : Nat × Nat} {n : Nat} (hc : okL S.nv S.nb k.cells)
    (hh : w'.heap = w.heap.push (.cells arr k.ty fr)) (hos : w'.os = w.os) (hout : w'.output = w.output) (htape : w'.tape = w.tape)
    (hk : if k.full then arr = (denL c k.cells).toArray /\ fr = (0, 0) else k.cells.length <= n /\ ∀ (i : Nat) (v : SV), k.cells[i]? = some v -> arr[i]? = some (v.den c)) :
    ∃ c', Ext S.nv S.nb c c' /\ c'.β S.nb = w.heap.size /\ c'.o S.nb = 0 /\ c'.κ S.nb = n /\
      MRep X w0 c' { S with nb := S.nb + 1, mem := Tr.set k (path S.nb) S.mem } w' := by
  have hx' : Ext S.nv S.nb c ⟨c.ρ, fun b => if b = S.nb then w.heap.size else c.β b, fun b => if b = S.nb then 0 else c.o b, fun b => if b = S.nb then n else c.κ b⟩ :=
    ⟨fun _ _ => rfl, fun b hb => if_neg (by omega), fun b hb => if_neg (by omega), fun b hb => if_neg (by omega)⟩
  have hlt : ∀ b k, S.mem.get (path b) = some k -> c.β b < w.heap.size := fun b k hb => blkRep_lt (hM.mem b k hb).2.2
  have hold : ∀ r, r < w.heap.size -> w'.heap[r]? = w.heap[r]? := fun r hr => by
    rw [hh, Array.getElem?_push_lt hr, Array.getElem?_eq_getElem hr]
  refine ⟨_, hx', if_pos rfl, if_pos rfl, if_pos rfl, ?_⟩
  refine ⟨fun b k' hb => ?_, fun b b' k k' hb hb' e => ?_, fun b hb => Nat.lt_succ_of_lt (hM.wr b hb), fun b h1 h2 => ?_, fun r hr hw => ?_, ?_, hM.cons, hM.bd, hos.trans hM.os, hout.trans hM.out, htape.trans hM.tape, fun b s p hb => ?_, fun x hx => ?_⟩
  · simp only [] at hb ⊢
    rw [Tr.get_set] at hb
    by_cases hbn : b = S.nb
    · subst hbn
      simp only [if_true, Option.some.injEq] at hb
      subst hb
      refine ⟨Nat.lt_succ_self _, okL_mono (Nat.le_refl _) (Nat.le_succ _) hc, ?_⟩
      simp only [if_true, blkRep]
      rw [hh]
      split
      · rename_i hf
        rw [if_pos hf] at hk
        obtain ⟨rfl, rfl⟩ := hk
        rw [denL_ext hx' hc]; simp
      · rename_i hf
        rw [if_neg hf] at hk
        refine ⟨hk.1, arr, k.ty, fr, by simp, fun i v hv => ?_⟩
        rw [Nat.zero_add, hk.2 i v hv, SV.den_ext hx' ((okL_iff _ _ _).1 hc v (List.mem_of_getElem? hv))]
    · rw [if_neg hbn] at hb
      obtain ⟨h1, h2, h3⟩ := hM.mem b k' hb
      refine ⟨Nat.lt_succ_of_lt h1, okL_mono (Nat.le_refl _) (Nat.le_succ _) h2, ?_⟩
      have h4 := blkRep_ext hx' h1 h2 h3
      refine blkRep_heap ?_ h4
      simp only [if_neg hbn]
      exact hold _ (hlt b k' hb)
  · simp only [] at hb hb' e ⊢
    rw [Tr.get_set] at hb hb'
    by_cases hbn : b = S.nb <;> by_cases hbn' : b' = S.nb
    · exact .inl (hbn.trans hbn'.symm)
    · rw [if_neg hbn'] at hb'
      have := hlt b' k' hb'
      rw [if_pos hbn, if_neg hbn'] at e
      omega
    · rw [if_neg hbn] at hb
      have := hlt b k hb
      rw [if_neg hbn, if_pos hbn'] at e
      omega
    · rw [if_neg hbn] at hb; rw [if_neg hbn'] at hb'
      rw [if_neg hbn, if_neg hbn'] at e
      exact hM.inj b b' k k' hb hb' e
  · simp only [] at h1 h2 ⊢
    split
    · exact hM.size
    · exact hM.new b h1 (by omega)
  · simp only [] at hw ⊢
    have hlt' : r < w.heap.size := Nat.lt_of_lt_of_le hr hM.size
    rw [hold r hlt']
    refine hM.frame r hr fun b hb => ?_
    have := hw b hb
    have hbn : b ≠ S.nb := by have := hM.wr b hb; omega
    simpa [hbn] using this
  · have := hM.size
    rw [hh]; simp; omega
  · obtain ⟨g1, g2, g3⟩ := hM.its b s p hb
    have hne : b ≠ S.nb := by omega
    have hlt' : c.β b < w.heap.size := (Array.getElem?_eq_some_iff.1 g2).1
    simp only [if_neg hne]
    exact ⟨by omega, by rw [hold _ hlt']; exact g2, g3⟩
  · obtain ⟨g1, g2, ⟨k', g3, g3'⟩, g4⟩ := hM.lens x hx
    have hne : x.1 ≠ S.nb := by omega
    refine ⟨Nat.lt_succ_of_lt g1, g2, ⟨k', by simp only []; rw [Tr.get_set, if_neg hne]; exact g3, g3'⟩, (g4.ext hx' g1 g2).heap ?_⟩
    rw [hx'.β _ g1]
    exact hold _ g4.lt
theorem new_sound (hM : MRep X w0 c S w) {ty : TypeId} {cells : List SV} (hc : okL S.nv S.nb cells) :
    ∃ c', Ext S.nv S.nb c c' /\ c'.β S.nb = w.heap.size /\
      MRep X w0 c' (S.new ty cells).2 { w with heap := w.heap.push (.cells (denL c cells).toArray ty) } := by
  obtain ⟨c', h1, h2, _, _, h3⟩ := newBlock_sound hM (k := ⟨ty, cells, true⟩) (w' := { w with heap := w.heap.push (.cells (denL c cells).toArray ty) }) (n := 0) hc rfl rfl rfl rfl (by simp)
  exact ⟨c', h1, h2, h3⟩
theorem drops_get {b : Nat} : ∀ {l : List Nat} {m : Tr Blk} {x : Nat} {k : Blk}, (drops b m l).get (path x) = some k -> m.get (path x) = some k /\ (x ∈ l -> x = b)
  | [], _, _, _, h => ⟨h, by simp⟩
  | d :: l, m, x, k, h => by
    simp only [drops] at h
    obtain ⟨h1, h2⟩ := drops_get h
    split at h1
    · rename_i hd
      refine ⟨h1, fun hx => ?_⟩
      rcases List.mem_cons.1 hx with hx | hx
      · exact hx.trans hd
      · exact h2 hx
    · rename_i hd
      rw [Tr.get_del] at h1
      split at h1
      · cases h1
      · rename_i hxd
        refine ⟨h1, fun hx => ?_⟩
        rcases List.mem_cons.1 hx with hx | hx
        · exact absurd hx hxd
        · exact h2 hx
theorem heap_setCell_same {r off : Nat} {v : Value} {arr : Array Value} {ty : TypeId} {fr : Nat × Nat} (h : w.heap[r]? = some (.cells arr ty fr)) :
    (w.setCell ⟨r, off, none⟩ v).heap[r]? = some (.cells (arr.setIfInBounds off v) ty fr) := by
  simp [World.setCell, Array.getElem?_modify, h]
theorem heap_setCell_other {r r' off : Nat} {v : Value} (h : r ≠ r') : (w.setCell ⟨r, off, none⟩ v).heap[r']? = w.heap[r']? := by
  simp [World.setCell, Array.getElem?_modify, h]
theorem heap_setCells_same {r : Nat} {ty : TypeId} {fr : Nat × Nat} : ∀ {vs : List Value} {off : Nat} {arr : Array Value} {w : World}, w.heap[r]? = some (.cells arr ty fr) -> off + vs.length <= arr.size ->
    (w.setCells r off vs).heap[r]? = some (.cells (arr.toList.take off ++ vs ++ arr.toList.drop (off + vs.length)).toArray ty fr)
  | [], off, arr, w, h, hle => by
    simp only [World.setCells, h, List.length_nil, Nat.add_zero, List.append_nil, List.take_append_drop, Array.toArray_toList]
  | v :: vs, off, arr, w, h, hle => by
    simp only [List.length_cons] at hle
    simp only [World.setCells]
    rw [heap_setCells_same (heap_setCell_same h) (by simp; omega)]
    simp only [Array.toList_setIfInBounds, List.length_cons]
    have h1 : (arr.toList.set off v).take (off + 1) = arr.toList.take off ++ [v] := by
      rw [List.take_succ_eq_append_getElem (by simp; omega)]
      rw [List.take_set_of_le (Nat.le_refl _)]; simp
    have h2 : (arr.toList.set off v).drop (off + 1 + vs.length) = arr.toList.drop (off + (vs.length + 1)) := by
      rw [List.drop_set_of_lt (by omega)]
      congr 1; omega
    rw [h1, h2]; simp
theorem heap_setCells_other {r r' : Nat} (h : r ≠ r') : ∀ {vs : List Value} {off : Nat} {w : World}, (w.setCells r off vs).heap[r']? = w.heap[r']?
  | [], _, _ => rfl
  | v :: vs, off, w => by simp only [World.setCells]; rw [heap_setCells_other h, heap_setCell_other h]
theorem setCells_size {r : Nat} : ∀ {vs : List Value} {off : Nat} {w : World}, (w.setCells r off vs).heap.size = w.heap.size
  | [], _, _ => rfl
  | v :: vs, off, w => by simp only [World.setCells]; rw [setCells_size]; simp [World.setCell]
theorem setCells_rest {r : Nat} : ∀ {vs : List Value} {off : Nat} {w : World}, (w.setCells r off vs).os = w.os /\ (w.setCells r off vs).output = w.output /\ (w.setCells r off vs).tape = w.tape
  | [], _, _ => ⟨rfl, rfl, rfl⟩
  | v :: vs, off, w => by
    simp only [World.setCells]
    exact setCells_rest (w := w.setCell ⟨r, off, none⟩ v)
theorem noAgg_one {v : SV} (h : noAgg v = true) : (v.den c).oneCell' = true := by
  cases v <;> simp [noAgg, SV.den, Value.oneCell'] at h ⊢
  rename_i u
  cases u <;> simp at h ⊢
theorem write_sound (hM : MRep X w0 c S w) {b off : Nat} {vs : List SV} {S' : St} (h : S.write b off vs = some S') (hv : okL S.nv S.nb vs) :
    MRep X w0 c S' (w.setCells (c.β b) off (denL c vs)) /\ S'.nv = S.nv /\ S'.nb = S.nb /\ S'.tmps = S.tmps /\ S'.nt = S.nt /\
      ∀ i o, off = o + i -> (storeCells ⟨c.β b, o, none⟩ (denL c vs) i).run P w = .ok () (w.setCells (c.β b) off (denL c vs)) := by
  unfold St.write at h
  simp only [Option.bind_eq_bind, Option.bind_eq_some_iff] at h
  obtain ⟨blk, hb, h⟩ := h
  split at h
  · rename_i hf
    simp only [Bool.and_eq_true, decide_eq_true_eq] at hf
    obtain ⟨⟨hfull, hle⟩, hn⟩ := hf
    have hn : ∀ v ∈ vs, noAgg v = true := by simpa using hn
    obtain ⟨h1, h2, h3⟩ := hM.mem b blk hb
    have h3' := h3
    unfold blkRep at h3'
    rw [if_pos hfull] at h3'
    have hnew := heap_setCells_same (vs := denL c vs) (off := off) h3' (by simp [denL_length]; exact hle)
    have hblk : blkRep c b { blk with cells := setAt blk.cells off vs } (w.setCells (c.β b) off (denL c vs)) := by
      unfold blkRep
      simp only [hfull, if_true]
      rw [hnew]
      simp only [denL_length]
      congr 3
      simp [setAt, denL_map, List.map_take, List.map_drop]
    have hok : okL S.nv S.nb (setAt blk.cells off vs) := by
      unfold setAt
      refine okL_append (okL_append ?_ hv) ?_
      · exact (okL_iff _ _ _).2 fun u hu => (okL_iff _ _ _).1 h2 u (List.mem_of_mem_take hu)
      · exact (okL_iff _ _ _).2 fun u hu => (okL_iff _ _ _).1 h2 u (List.mem_of_mem_drop hu)
    have hoth : ∀ x k, S.mem.get (path x) = some k -> c.β x ≠ c.β b -> blkRep c x k (w.setCells (c.β b) off (denL c vs)) := fun x k hx hne =>
      blkRep_heap (heap_setCells_other hne.symm) (hM.mem x k hx).2.2
    have hrest := setCells_rest (r := c.β b) (vs := denL c vs) (off := off) (w := w)
    have hframe : ∀ r, r < w0.heap.size -> (∀ x ∈ b :: S.wr, c.β x ≠ r) -> (w.setCells (c.β b) off (denL c vs)).heap[r]? = w0.heap[r]? := fun r hr hw => by
      rw [heap_setCells_other (hw b (by simp))]
      exact hM.frame r hr fun x hx => hw x (by simp [hx])
    have hwr : ∀ x ∈ b :: S.wr, x < S.nb := fun x hx => by
      rcases List.mem_cons.1 hx with rfl | hx
      · exact h1
      · exact hM.wr x hx
    have hits : ∀ x s p, S.its.get (path x) = some (s, p) -> x < S.nb /\ (w.setCells (c.β b) off (denL c vs)).heap[c.β x]? = some (.stringIter s p) /\ w0.heap.size <= c.β x := fun x s p hx => by
      obtain ⟨g1, g2, g3⟩ := hM.its x s p hx
      refine ⟨g1, ?_, g3⟩
      have hne : c.β b ≠ c.β x := fun e => by rw [e, g2] at h3'; simp at h3'
      rw [heap_setCells_other hne]; exact g2
    have hlens : b ∉ S.al -> ∀ x ∈ S.lens, x.1 < S.nb /\ x.2 < S.nv /\ partAt (Tr.set { blk with cells := setAt blk.cells off vs } (path b) S.mem) x.1 /\ lenRep X c x (w.setCells (c.β b) off (denL c vs)) := fun hal x hx => by
      obtain ⟨g1, g2, ⟨k', g3, g3'⟩, g4⟩ := hM.lens x hx
      have hne : x.1 ≠ b := fun e => by rw [e, hb] at g3; cases g3; rw [hfull] at g3'; cases g3'
      refine ⟨g1, g2, ⟨k', by rw [Tr.get_set, if_neg hne]; exact g3, g3'⟩, g4.heap (heap_setCells_other fun e => ?_)⟩
      rcases hM.inj b x.1 blk k' hb g3 e with e | e
      · exact hne e.symm
      · exact hal e.1
    have hstore : ∀ i o, off = o + i -> (storeCells ⟨c.β b, o, none⟩ (denL c vs) i).run P w = .ok () (w.setCells (c.β b) off (denL c vs)) := by
      intro i o e
      subst e
      refine run_storeCells_cells (c.β b) o (denL c vs) i w (fun j hj => ?_) (fun j hj => ?_) (fun u hu => ?_)
      · rw [heap_cell h3']
        rw [denL_length] at hj
        have : o + i + j < (denL c blk.cells).toArray.size := by simp [denL_length]; omega
        simp [denL_length]; omega
      · simp [World.frozen?, h3']
      · rw [denL_map] at hu
        obtain ⟨v, hv', rfl⟩ := List.mem_map.1 hu
        exact noAgg_one (hn v hv')
    split at h
    · rename_i hal
      have hal' : b ∈ S.al := by simpa using hal
      simp only [Option.some.injEq] at h
      subst h
      refine ⟨⟨fun x k hx => ?_, fun x x' k k' hx hx' e => ?_, hwr, hM.new, hframe, by rw [setCells_size]; exact hM.size, hM.cons, hM.bd, by rw [hrest.1]; exact hM.os, by rw [hrest.2.1]; exact hM.out, by rw [hrest.2.2]; exact hM.tape, hits, fun x hx => (by cases hx)⟩, rfl, rfl, rfl, rfl, hstore⟩
      · obtain ⟨hx1, hx2⟩ := drops_get hx
        rw [Tr.get_set] at hx1
        by_cases hxb : x = b
        · subst hxb
          simp only [if_true, Option.some.injEq] at hx1
          subst hx1
          exact ⟨h1, hok, hblk⟩
        · rw [if_neg hxb] at hx1
          obtain ⟨g1, g2, g3⟩ := hM.mem x k hx1
          refine ⟨g1, g2, hoth x k hx1 fun e => ?_⟩
          rcases hM.inj x b k blk hx1 hb e with e | e
          · exact hxb e
          · exact hxb (hx2 e.1)
      · left
        obtain ⟨hx1, hx2⟩ := drops_get hx
        obtain ⟨hx1', hx2'⟩ := drops_get hx'
        rw [Tr.get_set] at hx1 hx1'
        by_cases hxb : x = b <;> by_cases hxb' : x' = b
        · rw [hxb, hxb']
        · rw [if_neg hxb'] at hx1'
          subst hxb
          rcases hM.inj x x' blk k' hb hx1' e with e | e
          · exact e
          · exact absurd (hx2' e.2) hxb'
        · rw [if_neg hxb] at hx1
          subst hxb'
          rcases hM.inj x x' k blk hx1 hb e with e | e
          · exact e
          · exact absurd (hx2 e.1) hxb
        · rw [if_neg hxb] at hx1; rw [if_neg hxb'] at hx1'
          rcases hM.inj x x' k k' hx1 hx1' e with e | e
          · exact e
          · exact absurd (hx2 e.1) hxb
    · rename_i hal
      have hal' : b ∉ S.al := by simpa using hal
      simp only [Option.some.injEq] at h
      subst h
      refine ⟨⟨fun x k hx => ?_, fun x x' k k' hx hx' e => ?_, hwr, hM.new, hframe, by rw [setCells_size]; exact hM.size, hM.cons, hM.bd, by rw [hrest.1]; exact hM.os, by rw [hrest.2.1]; exact hM.out, by rw [hrest.2.2]; exact hM.tape, hits, hlens hal'⟩, rfl, rfl, rfl, rfl, hstore⟩
      · simp only [] at hx
        rw [Tr.get_set] at hx
        by_cases hxb : x = b
        · subst hxb
          simp only [if_true, Option.some.injEq] at hx
          subst hx
          exact ⟨h1, hok, hblk⟩
        · rw [if_neg hxb] at hx
          obtain ⟨g1, g2, g3⟩ := hM.mem x k hx
          refine ⟨g1, g2, hoth x k hx fun e => ?_⟩
          rcases hM.inj x b k blk hx hb e with e | e
          · exact hxb e
          · exact hal' e.2
      · simp only [] at hx hx' ⊢
        rw [Tr.get_set] at hx hx'
        by_cases hxb : x = b <;> by_cases hxb' : x' = b
        · exact .inl (hxb.trans hxb'.symm)
        · rw [if_neg hxb'] at hx'
          subst hxb
          exact hM.inj x x' blk k' hb hx' e
        · rw [if_neg hxb] at hx
          subst hxb'
          exact hM.inj x x' k blk hx hb e
        · rw [if_neg hxb] at hx; rw [if_neg hxb'] at hx'
          exact hM.inj x x' k k' hx hx' e
  · cases h
end
section
variable {P : Program} {X : Tk} {E : Env} {w : World} {w0 : Base} {c : Ctx} {S : St} {a : Act}
theorem zeros_ok {n m : Nat} {l : List SV} (h : okL 0 0 l) (k : Nat) : okL n m (List.replicate k l).flatten :=
  (okL_iff _ _ _).2 fun v hv => by
    obtain ⟨l', hl', hv⟩ := List.mem_flatten.1 hv
    rw [(List.mem_replicate.1 hl').2] at hv
    exact SV.ok_mono (Nat.zero_le _) (Nat.zero_le _) ((okL_iff _ _ _).1 h v hv)
theorem zeroRow (z : Array Value) (k : Nat) : ((Array.range (k * z.size)).map fun i => z[i % z.size]!).toList = (List.replicate k z.toList).flatten := by
  apply List.ext_getElem?
  intro i
  simp only [Array.toList_map, Array.toList_range, List.getElem?_map]
  by_cases hi : i < k * z.size
  · have hz : 0 < z.size := by
      rcases Nat.eq_zero_or_pos z.size with h | h
      · rw [h] at hi; simp at hi
      · exact h
    rw [List.getElem?_range hi]
    simp only [Option.map_some]
    have hm : i % z.size < z.size := Nat.mod_lt _ hz
    have key : ∀ (k i : Nat), i < k * z.size -> (List.replicate k z.toList).flatten[i]? = some z[i % z.size]! := by
      intro k
      induction k with
      | zero => intro i hi; simp at hi
      | succ k ih =>
        intro i hi
        rw [List.replicate_succ, List.flatten_cons]
        by_cases hlt : i < z.size
        · rw [List.getElem?_append_left (by simpa using hlt), Nat.mod_eq_of_lt hlt]
          simp [hlt]
        · rw [List.getElem?_append_right (by simp; omega)]
          simp only [Array.length_toList]
          rw [ih (i - z.size) (by rw [Nat.succ_mul] at hi; omega)]
          congr 2
          exact (Nat.mod_eq_sub_mod (by omega)).symm
    rw [key k i hi]
  · rw [List.getElem?_eq_none (by simp; omega)]
    simp only [Option.map_none]
    rw [List.getElem?_eq_none]
    simp [List.length_flatten, List.map_replicate]
    omega
theorem denL_zeros (ti : List SV) (k : Nat) : denL c (List.replicate k ti).flatten = (List.replicate k (denL c ti)).flatten := by
  induction k with
  | zero => rfl
  | succ k ih =>
    simp only [List.replicate_succ, List.flatten_cons]
    rw [denL_map, List.map_append, <- denL_map, <- denL_map, ih]
theorem assign_sound (hT : TRep c S.tmps S.nt S.nv S.nb a) (hM : MRep X w0 c S w) {x : Operand} {u : SV} (hu : opd S x = some u) :
    ∃ c', Named X w0 w c c' S (nameV S u).2 /\ (nameV S u).1.den c' = a.eval x /\ (nameV S u).1.ok (nameV S u).2.nv (nameV S u).2.nb := by
  obtain ⟨h1, h2⟩ := opd_sound hT hu
  obtain ⟨c', h3, h4, h5⟩ := nameV_sound hM h2
  exact ⟨c', h3, h4.trans h1.symm, h5⟩
theorem Named.trep {c' : Ctx} {S' : St} (h : Named X w0 w c c' S S') (hT : TRep c S.tmps S.nt S.nv S.nb a) : TRep c' S'.tmps S'.nt S'.nv S'.nb a := by
  rw [h.tmps, h.nt, h.nb]
  exact hT.ext h.ext h.nv (Nat.le_refl _)
theorem opd_eq {S S' : St} (h : S'.tmps = S.tmps) (x : Operand) : opd S' x = opd S x := by
  cases x <;> simp [opd, h]
theorem effBuiltin_sound (hE : EnvOK P X E) (hT : TRep c S.tmps S.nt S.nv S.nb a) (hM : MRep X w0 c S w) {b : Builtin} {args : Array Operand} {argTypes : Array TypeId} {S' : St} {v : SV}
    {type : TypeId} {cs : Array Bool}
    (h : effBuiltin E S b args.toList argTypes.toList = some (v, S')) :
    ∃ c' w', Led X w0 c c' S S' w' v /\ S'.tmps = S.tmps /\ S'.nt = S.nt /\
      (builtin b argTypes type cs (args.map a.eval)).run P w = .ok (.value (v.den c')) w' := by
  have O : ∀ {x : Operand} {u : SV}, opd S x = some u -> a.eval x = u.den c /\ u.ok S.nv S.nb := fun h => opd_sound hT h
  unfold effBuiltin at h
  split at h
  · rename_i d s t ts ha ht
    obtain rfl : args = #[d, s] := by rw [<- Array.toArray_toList (xs := args), ha]
    obtain rfl : argTypes = (t :: ts).toArray := by rw [<- Array.toArray_toList (xs := argTypes), ht]
    split at h
    · rename_i elem _ _ _ b off dl dc b' off' sl sc hty hd hs
      split at h
      · rename_i ei blk hei hblk
        split at h
        · rename_i hle
          simp only [Bool.and_eq_true, decide_eq_true_eq] at hle
          split at h
          · rename_i S1 hw
            simp only [Option.some.injEq, Prod.mk.injEq] at h
            obtain ⟨rfl, rfl⟩ := h
            obtain ⟨g1, g2⟩ := O hd
            obtain ⟨g3, g4⟩ := O hs
            have hu := (hE.ty _ _ hty).d
            simp only [descOK] at hu
            obtain ⟨k1, k2, k3⟩ := hM.mem b' blk hblk
            have hrow := run_loadRow (P := P) (w := w) k3 hle.1 hle.2
            obtain ⟨m1, m2, m3, m4, m5, m6⟩ := write_sound (P := P) hM hw (okL_drop_take k2 _ _)
            refine ⟨c, _, ⟨Ext.refl _ _ _, by omega, by omega, m1, trivial⟩, m4, m5, ?_⟩
            have hst := m6 0 off rfl
            simp [builtin, Builtin.copy_, g1, g3, SV.den, run_underlying hu, Builtin.lenOf, Builtin.firstCells, (hE.ty _ _ hei).run_sizeOf, hrow, hst, goInt, IE.eval]
          · cases h
        · cases h
      · cases h
    · rename_i elem _ _ _ b off dl dc b' off' sl hty hd hs
      split at h
      · rename_i ei blk hei hblk
        split at h
        · rename_i hle
          simp only [Bool.and_eq_true, decide_eq_true_eq, beq_iff_eq, Bool.not_eq_true'] at hle
          obtain ⟨⟨hfull, hsz⟩, hle⟩ := hle
          split at h
          · rename_i S1 hw
            simp only [Option.some.injEq, Prod.mk.injEq] at h
            obtain ⟨rfl, rfl⟩ := h
            obtain ⟨g1, g2⟩ := O hd
            obtain ⟨g3, g4⟩ := O hs
            have hu := (hE.ty _ _ hty).d
            simp only [descOK] at hu
            obtain ⟨k1, k2, k3⟩ := hM.mem b' blk hblk
            have hrow := run_loadPart (P := P) (w := w) k3 hfull hle
            obtain ⟨m1, m2, m3, m4, m5, m6⟩ := write_sound (P := P) hM hw (okL_drop_take k2 _ _)
            refine ⟨c, _, ⟨Ext.refl _ _ _, by omega, by omega, m1, trivial⟩, m4, m5, ?_⟩
            have hst := m6 0 off rfl
            simp [builtin, Builtin.copy_, g1, g3, SV.den, run_underlying hu, Builtin.lenOf, Builtin.firstCells, (hE.ty _ _ hei).run_sizeOf, hsz, hrow, hst, goInt, IE.eval]
          · cases h
        · cases h
      · cases h
    · cases h
  · rename_i x t ts ha ht
    obtain rfl : args = #[x] := by rw [<- Array.toArray_toList (xs := args), ha]
    obtain rfl : argTypes = (t :: ts).toArray := by rw [<- Array.toArray_toList (xs := argTypes), ht]
    split at h
    · rename_i elem _ _ _ b off n cap hty hx
      obtain ⟨g1, g2⟩ := O hx
      have hu := (hE.ty _ _ hty).d
      simp only [descOK] at hu
      split at h
      · rename_i ei hei
        split at h
        · rename_i hn0
          simp only [Option.some.injEq, Prod.mk.injEq] at h
          obtain ⟨rfl, rfl⟩ := h
          subst hn0
          refine ⟨c, w, ⟨Ext.refl _ _ _, Nat.le_refl _, Nat.le_refl _, hM, trivial⟩, rfl, rfl, ?_⟩
          simp [builtin, Builtin.clear_, g1, SV.den, run_underlying hu, denL]
        · rename_i hn0
          split at h
          · rename_i S1 hw
            simp only [Option.some.injEq, Prod.mk.injEq] at h
            obtain ⟨rfl, rfl⟩ := h
            have hz := hE.ty _ _ hei
            obtain ⟨z, hz1, hz2⟩ := hz.run_zero (w := w) c
            obtain ⟨m1, m2, m3, m4, m5, m6⟩ := write_sound (P := P) hM hw (zeros_ok hz.zok n)
            refine ⟨c, _, ⟨Ext.refl _ _ _, by omega, by omega, m1, trivial⟩, m4, m5, ?_⟩
            have hst := m6 0 off rfl
            obtain ⟨n', rfl⟩ : ∃ n', n = n' + 1 := ⟨n - 1, by omega⟩
            have hzc : (Builtin.zeroCells z.cells (n' + 1)).toList = denL c (List.replicate (n' + 1) ei.zero).flatten := by
              unfold Builtin.zeroCells
              rw [zeroRow, hz2, denL_zeros]
            simp [builtin, Builtin.clear_, g1, SV.den, run_underlying hu, hz1, hzc, hst, denL]
          · cases h
      · cases h
    · cases h
  · rename_i d s t t' ha ht
    obtain rfl : args = #[d, s] := by rw [<- Array.toArray_toList (xs := args), ha]
    obtain rfl : argTypes = #[t, t'] := by rw [<- Array.toArray_toList (xs := argTypes), ht]
    split at h
    · rename_i elem _ _ _ elem' _ _ _ b off dl cap b' off' sl sc hty hty' hd hs
      split at h
      · rename_i ei blk hei hblk
        split at h
        · rename_i hle
          simp only [Bool.and_eq_true, decide_eq_true_eq] at hle
          obtain ⟨hfull, hle⟩ := hle
          split at h
          · rename_i S1 hw
            simp only [Option.some.injEq, Prod.mk.injEq] at h
            obtain ⟨rfl, rfl⟩ := h
            obtain ⟨g1, g2⟩ := O hd
            obtain ⟨g3, g4⟩ := O hs
            have hu := (hE.ty _ _ hty).d
            have hu' := (hE.ty _ _ hty').d
            simp only [descOK] at hu hu'
            obtain ⟨k1, k2, k3⟩ := hM.mem b' blk hblk
            have hrow := run_loadRow (P := P) (w := w) k3 hfull hle.2
            obtain ⟨m1, m2, m3, m4, m5, m6⟩ := write_sound (P := P) hM hw (okL_drop_take k2 _ _)
            refine ⟨c, _, ⟨Ext.refl _ _ _, by omega, by omega, m1, ?_⟩, m4, m5, ?_⟩
            · simp only [SV.ok] at g2 ⊢; rw [m3]; exact g2
            have hst := m6 0 (off + dl * ei.size) rfl
            simp [builtin, Builtin.append_, g1, g3, SV.den, run_underlying hu, run_underlying hu', Builtin.lenOf, Builtin.firstCells, (hE.ty _ _ hei).run_sizeOf, hle.1, hrow, add_off, hst]
          · cases h
        · cases h
      · cases h
    · rename_i elem _ _ _ elem' _ _ _ d' b' off' sl hty hty' hd hs
      split at h
      · rename_i ei blk hei hblk
        split at h
        · rename_i hc
          simp only [Bool.and_eq_true, decide_eq_true_eq, beq_iff_eq, Bool.not_eq_true'] at hc
          obtain ⟨⟨⟨⟨⟨⟨⟨htt, hemp⟩, hfull⟩, hsz⟩, hpos⟩, hby⟩, hsl⟩, hle⟩ := hc
          subst htt
          simp only [Option.some.injEq, Prod.mk.injEq] at h
          obtain ⟨rfl, rfl⟩ := h
          obtain ⟨g1, g2⟩ := O hd
          obtain ⟨g3, g4⟩ := O hs
          have hu := (hE.ty _ _ hty).d
          simp only [descOK] at hu
          obtain ⟨k1, k2, k3⟩ := hM.mem b' blk hblk
          obtain ⟨i, hi, hisz, hiby, z, hz, hzc⟩ := (hE.ty _ _ hei).info
          have hisz' : i.size = 1 := hisz.trans hsz
          have hnews := part_cells (w := w) k3 hfull (off := off') (n := sl)
          have hlen : (denL c ((blk.cells.drop off').take sl)).length = sl * i.size := by rw [denL_length, hisz']; simp; omega
          have hok := okL_drop_take k2 off' sl
          have hrun : ∃ cap rest, (Builtin.append_ #[t, t] type #[d'.den c, .slice (some ⟨c.β b', c.o b' + off', none⟩) sl (c.κ b' - off')]).run P w =
              .ok (.slice (some ⟨w.heap.size, 0, none⟩) sl cap) (w.drew.alloc (.cells ((denL c ((blk.cells.drop off').take sl)).toArray ++ rest) elem)) /\ sl <= cap := by
            unfold emptySl at hemp
            split at hemp
            · refine ⟨_, _, run_append_nil w t type elem i z hu hi hz _ sl _ _ hlen (fun j v hv => by rw [add_off]; exact hnews j v hv) hpos (by omega) (by rw [hiby]; omega), grownCap_ge _ _ _ _⟩
            · rename_i b0 o0
              have := run_append_grow (P := P) w t type elem i z hu hi hz ⟨c.β b0, o0, none⟩ 0 0 [] (by simp) (by simp) ⟨c.β b', c.o b' + off', none⟩ sl (c.κ b' - off') _ hlen (fun j v hv => by rw [add_off]; exact hnews j v hv) (by omega) (by omega) (by
                rw [Nat.zero_add, nextslicecap_zero hpos, hiby]; omega)
              simp only [Nat.zero_add] at this
              rw [show (#[] : Array Value) ++ (denL c ((blk.cells.drop off').take sl)).toArray = (denL c ((blk.cells.drop off').take sl)).toArray from Array.empty_append ..] at this
              exact ⟨_, _, this, grownCap_ge w sl 0 elem⟩
            · cases hemp
          obtain ⟨cap, rest, hrun, hcap⟩ := hrun
          obtain ⟨c', e1, e2, e3, e4, e5⟩ := newBlock_sound hM (k := ⟨elem, (blk.cells.drop off').take sl, false⟩) (n := cap) (w' := w.drew.alloc (.cells ((denL c ((blk.cells.drop off').take sl)).toArray ++ rest) elem))
            hok rfl rfl rfl rfl (by
              rw [if_neg (by simp)]
              refine ⟨by simp only [List.length_take]; omega, fun j v hv => ?_⟩
              have : j < (denL c ((blk.cells.drop off').take sl)).toArray.size := by
                rw [List.size_toArray, denL_length]; exact (List.getElem?_eq_some_iff.1 hv).1
              rw [Array.getElem?_append_left this]
              rw [List.getElem?_toArray, denL_map, List.getElem?_map, hv]; rfl)
          refine ⟨c', _, ⟨e1, Nat.le_refl _, Nat.le_succ _, e5, Nat.lt_succ_self _⟩, rfl, rfl, ?_⟩
          simp only [builtin, g1, g3, List.map_toArray, List.map_cons, List.map_nil]
          simp only [SV.den] at hrun ⊢
          simp only [Sem.run_bind]
          rw [hrun]
          simp [e2, e3, e4]
        · cases h
      · cases h
    · rename_i elem _ _ _ elem' _ _ _ d' b' i sc hty hty' hd hs
      split at h
      · rename_i ei blk lo hi hei hblk hbd
        split at h
        · rename_i hc
          simp only [Bool.and_eq_true, decide_eq_true_eq, beq_iff_eq, Bool.not_eq_true', List.any_eq_true] at hc
          obtain ⟨⟨⟨⟨⟨⟨⟨htt, hemp⟩, hfull⟩, hsz⟩, hpos⟩, hby⟩, hsl⟩, xl, hxl, hx1, hx2⟩ := hc
          subst htt
          simp only [Option.some.injEq, Prod.mk.injEq] at h
          obtain ⟨rfl, rfl⟩ := h
          obtain ⟨g1, g2⟩ := O hd
          obtain ⟨g3, g4⟩ := O hs
          have hu := (hE.ty _ _ hty).d
          simp only [descOK] at hu
          obtain ⟨k1, k2, k3⟩ := hM.mem b' blk hblk
          obtain ⟨l1, l2, _, bs, l3, l4, l5, arr, aty, afr, l6, l7⟩ := hM.lens xl hxl
          rw [hx1] at l1 l5 l6 l7
          rw [hx2] at l2 l4
          obtain ⟨r1, r2, r3⟩ := hM.bd i _ hbd
          simp only at r2 r3
          obtain ⟨j, hi', hisz, hiby, z, hz, hzc⟩ := (hE.ty _ _ hei).info
          have hisz' : j.size = 1 := hisz.trans hsz
          generalize hLe : bs.length = L at *
          have hL : (c.ρ i).toNat = L := by omega
          have hLr : (L : Int) = c.ρ i := l4
          have hvl : (bs.map (Value.int .u8)).length = L := by simp [hLe]
          have hlen : (bs.map (Value.int .u8)).length = L * j.size := by rw [hisz', hvl, Nat.mul_one]
          have hnews : ∀ q v, (bs.map (Value.int .u8))[q]? = some v -> w.cell? ⟨c.β b', c.o b' + q, none⟩ = some v := fun q v hv => by
            rw [heap_cell l6]
            rw [List.getElem?_map, Option.map_eq_some_iff] at hv
            obtain ⟨z, hz1, rfl⟩ := hv
            exact l7 q z hz1
          have hbL : L * ei.bytes <= 2 ^ 40 := by
            have q1 : (L : Int) * ei.bytes <= hi * ei.bytes := Int.mul_le_mul_of_nonneg_right (by omega) (by omega)
            have q2 : ((L * ei.bytes : Nat) : Int) <= 2 ^ 40 := by push_cast; exact Int.le_trans q1 hby
            exact Int.ofNat_le.1 q2
          have hrun : ∃ cap rest, (Builtin.append_ #[t, t] type #[d'.den c, .slice (some ⟨c.β b', c.o b' + 0, none⟩) L (c.κ b' - 0)]).run P w =
              .ok (.slice (some ⟨w.heap.size, 0, none⟩) L cap) (w.drew.alloc (.cells ((bs.map (Value.int .u8)).toArray ++ rest) elem)) /\ L <= cap := by
            unfold emptySl at hemp
            split at hemp
            · refine ⟨_, _, run_append_nil w t type elem j z hu hi' hz _ L _ _ hlen (fun q v hv => by rw [add_off]; exact hnews q v hv) (by omega) (by omega) (by rw [hiby]; omega), grownCap_ge _ _ _ _⟩
            · rename_i b0 o0
              have := run_append_grow (P := P) w t type elem j z hu hi' hz ⟨c.β b0, o0, none⟩ 0 0 [] (by simp) (by simp) ⟨c.β b', c.o b' + 0, none⟩ L (c.κ b' - 0) _ hlen (fun q v hv => by rw [add_off]; exact hnews q v hv) (by omega) (by omega) (by
                rw [Nat.zero_add, nextslicecap_zero (by omega), hiby]; omega)
              simp only [Nat.zero_add] at this
              rw [show (#[] : Array Value) ++ (bs.map (Value.int .u8)).toArray = (bs.map (Value.int .u8)).toArray from Array.empty_append ..] at this
              exact ⟨_, _, this, grownCap_ge w L 0 elem⟩
            · cases hemp
          obtain ⟨cap, rest, hrun, hcap⟩ := hrun
          obtain ⟨c', e1, e2, e3, e4, e5⟩ := newBlock_sound hM (k := ⟨elem, [], false⟩) (n := cap) (w' := w.drew.alloc (.cells ((bs.map (Value.int .u8)).toArray ++ rest) elem))
            trivial rfl rfl rfl rfl (by
              rw [if_neg (by simp)]
              exact ⟨Nat.zero_le _, fun q v hv => by simp at hv⟩)
          refine ⟨c', _, ⟨e1, Nat.le_refl _, Nat.le_succ _, { e5 with lens := fun x hx => ?_ }, Nat.lt_succ_self _, l2⟩, rfl, rfl, ?_⟩
          · rcases List.mem_cons.1 hx with rfl | hx
            · refine ⟨Nat.lt_succ_self _, l2, ⟨_, by simp only [St.newPart]; rw [Tr.get_set, if_pos rfl], rfl⟩, bs, l3, ?_, ?_, ((bs.map (Value.int .u8)).toArray ++ rest), elem, (0, 0), ?_, ?_⟩
              · simp only []
                rw [e1.ρ i l2, hLe, hLr]
              · simp only []
                rw [e4, hLe]; exact hcap
              · simp only []
                rw [e2]
                show (w.heap.push (.cells ((bs.map (Value.int .u8)).toArray ++ rest) elem (0, 0)))[w.heap.size]? = _
                simp
              · intro q v hv
                simp only []
                have hq := (List.getElem?_eq_some_iff.1 hv).1
                rw [e3, Nat.zero_add, Array.getElem?_append_left (by simpa using hq)]
                simp [hv]
            · exact e5.lens x hx
          simp only [builtin, g1, g3, List.map_toArray, List.map_cons, List.map_nil]
          simp only [SV.den, IE.eval, hL, if_true] at hrun ⊢
          simp only [Sem.run_bind]
          rw [hrun]
          simp [e2, e3, e4, e1.ρ i l2, hL]
        · cases h
      · cases h
    · cases h
  · cases h
end
end Go.Vm
end
