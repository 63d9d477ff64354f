/- The proof of laws.FnP224Verify, text 22 of 36. Conditions: none. -/
import Derived.Test.YtmogojlijkddpaaGreatT17
import Derived.Test.YtmogojlijkddpaaGreatT20
noncomputable section

set_option maxRecDepth 100000
namespace Go.Vm
def XL (hs : List Int) (tag : Nat) (l : List Int) : Prop := match tag with
  | 57 => l = hs
  | 1 => Go.Proofs.YtmogojlijkddpaaGreat.MulP l
  | 2 => Go.Proofs.YtmogojlijkddpaaGreat.SubP l
  | 3 => Go.Proofs.YtmogojlijkddpaaGreat.AddP l
  | 20 => RedLP l
  | 21 => Red7P l
  | 22 => Red14P l
  | 23 => PlusP l
  | 24 => MinusP l
  | 25 => TimesP l
  | 26 => SameP l
  | 27 => BelowP l
  | 30 => PowLP l
  | 31 => SumBelowP l
  | 32 => OrdLP l
  | 33 => PowP l
  | 34 => OrdTimesP l
  | 35 => InvP l
  | 36 => OInvLP l
  | 37 => OInvP l
  | 40 => RightP l
  | 41 => OnP l
  | 42 => TwiceP l
  | 43 => MoreP l
  | 44 => BitsP l
  | 45 => BytesP l
  | 46 => MultP l
  | 47 => SumP l
  | 48 => BytsP l
  | 49 => NumP l
  | 50 => OrdRestP l
  | 51 => InOrderP l
  | 54 => HashP hs l
  | 55 => VerP hs l
  | 60 => FromBP l
  | 61 => EBytP l
  | 62 => ToBP l
  | 63 => LeBP l
  | 64 => EqBP l
  | 65 => SetBP l
  | 66 => SelzP l
  | 67 => IsZP l
  | 68 => EqEP l
  | 69 => SetNoP l
  | 70 => AddPtP l
  | 71 => DblPtP l
  | 72 => SelPtP' l
  | 73 => CtEqP l
  | 74 => TSelP l
  | 75 => SmLP l
  | 76 => SmP l
  | 77 => SpP l
  | 78 => SpNoP l
  | 79 => InvEP l
  | 80 => BxNoP l
  | 81 => BxP l
  | 82 => GenP l
  | 83 => RowP l
  | 84 => SbP l
  | 89 => okN (l.drop 8) /\ vn (l.drop 8) = vn l * vn (l.drop 4) * Rn
  | 90 => SbyP l
  | 91 => SbnP2 l
  | 92 => NizP l
  | 93 => HtnP hs l
  | 94 => NinP l
  | 95 => NmuP l
  | 96 => NbyP l
  | 97 => SovP l
  | 98 => NeqP l
  | 99 => PvyP hs l
  | 100 => PvnP hs l
  | 101 => ¬ isPt l
  | 102 => nth l 0 = 1
  | _ => False
theorem XL_ok {hs : List Int} (h : ∀ x ∈ hs, 0 <= x /\ x <= 255) : FG (XL hs) hs where
  mul := fun _ => Iff.rfl
  sub := fun _ => Iff.rfl
  add := fun _ => Iff.rfl
  redL := fun _ => Iff.rfl
  red7 := fun _ => Iff.rfl
  red14 := fun _ => Iff.rfl
  plus := fun _ => Iff.rfl
  minus := fun _ => Iff.rfl
  times := fun _ => Iff.rfl
  same := fun _ => Iff.rfl
  below := fun _ => Iff.rfl
  powL := fun _ => Iff.rfl
  sumBelow := fun _ => Iff.rfl
  ordL := fun _ => Iff.rfl
  pow := fun _ => Iff.rfl
  ordTimes := fun _ => Iff.rfl
  inv := fun _ => Iff.rfl
  oinvL := fun _ => Iff.rfl
  oinv := fun _ => Iff.rfl
  right := fun _ => Iff.rfl
  on := fun _ => Iff.rfl
  twice := fun _ => Iff.rfl
  more := fun _ => Iff.rfl
  bits := fun _ => Iff.rfl
  bytes := fun _ => Iff.rfl
  mult := fun _ => Iff.rfl
  sum := fun _ => Iff.rfl
  byts := fun _ => Iff.rfl
  num := fun _ => Iff.rfl
  ordRest := fun _ => Iff.rfl
  inOrder := fun _ => Iff.rfl
  hash := fun _ => Iff.rfl
  ver := fun _ => Iff.rfl
  fromB := fun _ => Iff.rfl
  eByt := fun _ => Iff.rfl
  toB := fun _ => Iff.rfl
  leB := fun _ => Iff.rfl
  eqB := fun _ => Iff.rfl
  setB := fun _ => Iff.rfl
  selz := fun _ => Iff.rfl
  isZ := fun _ => Iff.rfl
  eqE := fun _ => Iff.rfl
  setNo := fun _ => Iff.rfl
  addPt := fun _ => Iff.rfl
  dblPt := fun _ => Iff.rfl
  selPt := fun _ => Iff.rfl
  ctEq := fun _ => Iff.rfl
  tsel := fun _ => Iff.rfl
  smL := fun _ => Iff.rfl
  sm := fun _ => Iff.rfl
  sp := fun _ => Iff.rfl
  spNo := fun _ => Iff.rfl
  invE := fun _ => Iff.rfl
  bxNo := fun _ => Iff.rfl
  bx := fun _ => Iff.rfl
  gen := fun _ => Iff.rfl
  row := fun _ => Iff.rfl
  sb := fun _ => Iff.rfl
  mm := fun _ => Iff.rfl
  sby := fun _ => Iff.rfl
  sbn := fun _ => Iff.rfl
  niz := fun _ => Iff.rfl
  htn := fun _ => Iff.rfl
  nin := fun _ => Iff.rfl
  nmu := fun _ => Iff.rfl
  nby := fun _ => Iff.rfl
  sov := fun _ => Iff.rfl
  neq := fun _ => Iff.rfl
  pvy := fun _ => Iff.rfl
  pvn := fun _ => Iff.rfl
  pvx := fun _ => Iff.rfl
  law := fun _ => Iff.rfl
  long := fun _ h => h
  hby := h
def ArgAny (W : World) (v : Value) : Prop := v = .slice none 0 0 \/ ∃ zs, ArgV W v zs /\ (zs.length : Int) <= bigL
end Go.Vm
namespace Go.Proofs.YtmogojlijkddpaaGreat
open Go.Vm
variable {X : Tk}
theorem specW_ok {hs : List Int} (h : FG X hs) (pv : SpecOK Tryz.prog X 6 pvS.spec) : ∀ f sp, specW f = some sp -> FnOK Tryz.prog f /\ SpecOK Tryz.prog X f sp := fun f sp hh => by
  unfold specW at hh
  split at hh
  · simp only [Option.some.injEq] at hh; subst hh; exact ⟨fn_ok Tryz.func6 (by kernel_rfl) (by kernel_rfl), pv⟩
  · simp only [Option.some.injEq] at hh; subst hh; exact ⟨fn_ok Tryz.func7 (by kernel_rfl) (by kernel_rfl), ver_ok h.toFU⟩
  · exact specT_ok h.toFU f sp hh
theorem EW_ok {hs : List Int} (h : FG X hs) (pv : SpecOK Tryz.prog X 6 pvS.spec) : EnvOK Tryz.prog X EW := mkEnv_ok mixed_ok tys_ok fns_ok names_ok ext0_ok (specW_ok h pv)
def Good (l : List Ar) : Prop := ∀ (W : World) (vs : List Value), FitsAll W l vs -> Calls Tryz.prog 3 vs.toArray W fun e W' => e = .returned (.bool true) /\ Same W W'
theorem good_of {hs : List Int} (h : FG X hs) (pv : SpecOK Tryz.prog X 6 pvS.spec) {x : List Ar × Nat} (hc : caseB x = true) : Good x.1 := fun W vs hf => by
  unfold caseB at hc
  rw [Bool.and_eq_true] at hc
  obtain ⟨h1, h2⟩ := hc
  have hwf : (caseS x.1).wf = true := by
    unfold chkFn at h1
    rw [Bool.and_eq_true] at h1
    exact h1.1
  have sp : SpecOK Tryz.prog X 3 (caseS x.1).spec := fn_sum (EW_ok h pv) h1 fun d hd => by
    obtain ⟨_, rfl⟩ := List.mem_replicate.1 hd
    exact endP_none _ rfl rfl
  split at h2
  · rename_i S hS
    exact case_call sp hS (List.isEmpty_iff.1 h2) hwf hf
  · cases h2
theorem goods {hs : List Int} (h : FG X hs) (pv : SpecOK Tryz.prog X 6 pvS.spec) {L : List (List Ar × Nat)} (hL : L.all caseB = true) {l : List Ar} {n : Nat} (hm : (l, n) ∈ L) : Good l := good_of h pv (List.all_eq_true.1 hL (l, n) hm)
end Go.Proofs.YtmogojlijkddpaaGreat
namespace Go.Vm
def ArgOk (W : World) (v : Value) : Prop := v = .slice none 0 0 \/ ∃ zs, ArgV W v zs /\ (zs.length : Int) <= zz
theorem any_fits {W : World} {v : Value} (h : ArgAny W v) : ∃ a ∈ anyA, Fits W a v := by
  rcases h with rfl | ⟨zs, h, hl⟩
  · exact ⟨.nil, by simp [anyA], rfl⟩
  · exact ⟨.len 0 bigL, by simp [anyA], zs, h, by omega, hl⟩
theorem ok_fits {W : World} {v : Value} (h : ArgOk W v) : ∃ a ∈ okA, Fits W a v := by
  rcases h with rfl | ⟨zs, h, hl⟩
  · exact ⟨.nil, by simp [okA], rfl⟩
  · exact ⟨.len 0 zz, by simp [okA], zs, h, by omega, hl⟩
theorem big_or {W : World} {v : Value} (h : ArgAny W v) : Fits W bigA v \/ ArgOk W v := by
  rcases h with rfl | ⟨zs, h, hl⟩
  · exact .inr (.inl rfl)
  · by_cases hz : (zs.length : Int) <= zz
    · exact .inr (.inr ⟨zs, h, hz⟩)
    · exact .inl ⟨zs, h, by omega, hl⟩
theorem nth_of {l : List Int} {i : Nat} (h : i < l.length) : l[i]? = some (nth l i) := by
  rw [List.getElem?_eq_getElem h, nth_get l i h]
end Go.Vm
namespace Go.Proofs.YtmogojlijkddpaaGreat
open Go.Vm
theorem main_call (pv : ∀ hs : List Int, (∀ x ∈ hs, 0 <= x /\ x <= 255) -> SpecOK Tryz.prog (XL hs) 6 pvS.spec) {W : World} {v0 v1 v2 v3 : Value} {q hs r s : List Int} (h0 : ArgV W v0 q) (h1 : ArgV W v1 hs) (h2 : ArgV W v2 r) (h3 : ArgV W v3 s)
    (lq : q.length = 57) (lh : 1 <= hs.length /\ hs.length <= 200) (lr : r.length = 28) (ls : s.length = 28) : Calls Tryz.prog 3 #[v0, v1, v2, v3] W fun e W' => e = .returned (.bool true) /\ Same W W' := by
  obtain ⟨b0, o0, k0, a0, t0, f0, rfl, c0, d0, e0⟩ := h0
  obtain ⟨b1, o1, k1, a1, t1, f1, rfl, c1, d1, e1⟩ := h1
  obtain ⟨b2, o2, k2, a2, t2, f2, rfl, c2, d2, e2⟩ := h2
  obtain ⟨b3, o3, k3, a3, t3, f3, rfl, c3, d3, e3⟩ := h3
  have hby : ∀ x ∈ hs, 0 <= x /\ x <= 255 := fun x hx => by
    obtain ⟨i, hi⟩ := List.getElem?_of_mem hx
    exact (e1 i x hi).2
  have hG := XL_ok hby
  have sp : SpecOK Tryz.prog (XL hs) 3 lawS.spec := fn_sum (EW_ok hG (pv hs hby)) law_chk (law_ends hG)
  have own := law_own
  split at own
  · rename_i S hS
    rw [Bool.and_eq_true] at own
    obtain ⟨w1, w2⟩ := own
    split at w2
    · rename_i hcons
      let c : Ctx := ⟨fun i => if i < 57 then nth q i else if i < 85 then nth r (i - 57) else if i < 113 then nth s (i - 85) else hs.length,
        fun b => match b with | 0 => b0 | 1 => b1 | 2 => b2 | _ => b3, fun b => match b with | 0 => o0 | 1 => o1 | 2 => o2 | _ => o3, fun b => match b with | 0 => k0 | 1 => k1 | 2 => k2 | _ => k3⟩
      have hwf := law_chk
      unfold chkFn at hwf
      rw [Bool.and_eq_true] at hwf
      obtain ⟨wargs, wmem, _⟩ := Sm.wf_spec hwf.1
      have hM : MRep (XL hs) ⟨W, lawS.mem.length⟩ c lawS.start W := by
        refine start_rep wmem (fun b hb => ?_) (fun b k hk => ?_) (fun i r' hr => ?_) fun x hx => ?_
        · have hb : b < 4 := hb
          have : b = 0 \/ b = 1 \/ b = 2 \/ b = 3 := by omega
          rcases this with rfl | rfl | rfl | rfl <;> simp [lawS, pvS]
        · match b, hk with
          | 0, hk =>
            cases hk
            rw [blkRep_part rfl]
            refine ⟨by show (bytV 0 57).length <= k0; simp [bytV]; omega, a0, t0, f0, d0, fun i u hu => ?_⟩
            obtain ⟨hi, rfl⟩ := bytV_get hu
            show a0[o0 + i]? = some (.int .u8 (if 0 + i < 57 then nth q (0 + i) else _))
            rw [if_pos (by omega), Nat.zero_add]
            exact (e0 i _ (nth_of (by omega))).1
          | 1, hk =>
            cases hk
            rw [blkRep_part rfl]
            exact ⟨Nat.zero_le _, a1, t1, f1, d1, fun i u hu => by simp at hu⟩
          | 2, hk =>
            cases hk
            rw [blkRep_part rfl]
            refine ⟨by show (bytV 57 28).length <= k2; simp [bytV]; omega, a2, t2, f2, d2, fun i u hu => ?_⟩
            obtain ⟨hi, rfl⟩ := bytV_get hu
            show a2[o2 + i]? = some (.int .u8 (if 57 + i < 57 then nth q (57 + i) else if 57 + i < 85 then nth r (57 + i - 57) else _))
            rw [if_neg (by omega), if_pos (by omega), show 57 + i - 57 = i by omega]
            exact (e2 i _ (nth_of (by omega))).1
          | 3, hk =>
            cases hk
            rw [blkRep_part rfl]
            refine ⟨by show (bytV 85 28).length <= k3; simp [bytV]; omega, a3, t3, f3, d3, fun i u hu => ?_⟩
            obtain ⟨hi, rfl⟩ := bytV_get hu
            show a3[o3 + i]? = some (.int .u8 (if 85 + i < 57 then nth q (85 + i) else if 85 + i < 85 then nth r (85 + i - 57) else if 85 + i < 113 then nth s (85 + i - 85) else _))
            rw [if_neg (by omega), if_neg (by omega), if_pos (by omega), show 85 + i - 85 = i by omega]
            exact (e3 i _ (nth_of (by omega))).1
          | n + 4, hk => simp [lawS, pvS] at hk
        · have hr : (List.replicate 113 ((0 : Int), (255 : Int)) ++ [((1 : Int), (200 : Int))])[i]? = some r' := hr
          rw [List.getElem?_append] at hr
          split at hr
          · rename_i hi
            rw [List.length_replicate] at hi
            rw [List.getElem?_replicate, if_pos hi] at hr
            cases hr
            show 0 <= (if i < 57 then nth q i else if i < 85 then nth r (i - 57) else if i < 113 then nth s (i - 85) else (hs.length : Int)) /\ (if i < 57 then nth q i else if i < 85 then nth r (i - 57) else if i < 113 then nth s (i - 85) else (hs.length : Int)) <= 255
            split
            · exact (e0 i _ (nth_of (by omega))).2
            · split
              · exact (e2 (i - 57) _ (nth_of (by omega))).2
              · exact (e3 (i - 85) _ (nth_of (by omega))).2
          · rename_i hi
            rw [List.length_replicate] at hi hr
            have hi0 : i = 113 := by
              rcases Nat.lt_or_ge i 114 with h | h
              · omega
              · rw [List.getElem?_eq_none (by simp; omega)] at hr; cases hr
            subst hi0
            cases hr
            show 1 <= (if 113 < 57 then nth q 113 else if 113 < 85 then nth r (113 - 57) else if 113 < 113 then nth s (113 - 85) else (hs.length : Int)) /\ (if 113 < 57 then nth q 113 else if 113 < 85 then nth r (113 - 57) else if 113 < 113 then nth s (113 - 85) else (hs.length : Int)) <= 200
            simp only [Nat.reduceLT, if_false, Nat.lt_irrefl]
            omega
        · have hx : x ∈ [((1 : Nat), (113 : Nat))] := hx
          simp only [List.mem_singleton] at hx
          subst hx
          refine ⟨by decide, by show 113 < 114; decide, ⟨⟨5, [], false⟩, by kernel_rfl, rfl⟩, hs, rfl, ?_, c1, a1, t1, f1, d1, fun i x hx => (e1 i x hx).1⟩
          show (hs.length : Int) = if 113 < 57 then nth q 113 else if 113 < 85 then nth r (113 - 57) else if 113 < 113 then nth s (113 - 85) else (hs.length : Int)
          simp only [Nat.reduceLT, if_false, Nat.lt_irrefl]
      have wa : okbL lawS.nv lawS.mem.length lawS.args = true := by
        have := hwf.1
        simp only [Sm.wf, okbLF_eq, Bool.and_eq_true] at this
        exact this.1.1
      have key := call_start sp hS (List.isEmpty_iff.1 w1) wa hM (R := fun u => u = .bool true) fun c' w' hr => by
        have hk := (hr.cons (.ext 102 [.var 114]) (by rw [hcons]; simp)).2
        have h1 : c'.ρ 114 = 1 := hk
        show Value.bool (decide (c'.ρ 114 = 1)) = _
        rw [h1]; rfl
      have e : denL c lawS.args = [.slice (some ⟨b0, o0, none⟩) q.length k0, .slice (some ⟨b1, o1, none⟩) hs.length k1, .slice (some ⟨b2, o2, none⟩) r.length k2, .slice (some ⟨b3, o3, none⟩) s.length k3] := by
        rw [lq, lr, ls]
        rfl
      rw [e] at key
      refine Calls.mono key fun e W' hq => ?_
      obtain ⟨⟨u, rfl, rfl⟩, hq⟩ := hq
      exact ⟨rfl, hq⟩
    · cases w2
  · cases own
theorem law_call (pv : ∀ hs : List Int, (∀ x ∈ hs, 0 <= x /\ x <= 255) -> SpecOK Tryz.prog (XL hs) 6 pvS.spec) {W : World} {v0 v1 v2 v3 : Value} (h0 : ArgAny W v0) (h1 : ArgAny W v1) (h2 : ArgAny W v2) (h3 : ArgAny W v3) :
    Calls Tryz.prog 3 #[v0, v1, v2, v3] W fun e W' => e = .returned (.bool true) /\ Same W W' := by
  have e0 : ∀ x ∈ ([] : List Int), 0 <= x /\ x <= 255 := fun x hx => by cases hx
  have hG := XL_ok e0
  have g1 : ∀ {l n}, (l, n) ∈ cases1 -> Good l := fun hm => goods hG (pv [] e0) case_chk1 hm
  have g2 : ∀ {l n}, (l, n) ∈ cases2 -> Good l := fun hm => goods hG (pv [] e0) case_chk2 hm
  have g3 : ∀ {l n}, (l, n) ∈ cases3 -> Good l := fun hm => goods hG (pv [] e0) case_chk3 hm
  have g4 : ∀ {l n}, (l, n) ∈ cases4 -> Good l := fun hm => goods hG (pv [] e0) case_chk4 hm
  have g5 : ∀ {l n}, (l, n) ∈ cases5 -> Good l := fun hm => goods hG (pv [] e0) case_chk5 hm
  have g6 : ∀ {l n}, (l, n) ∈ cases6 -> Good l := fun hm => goods hG (pv [] e0) case_chk6 hm
  have g7 : ∀ {l n}, (l, n) ∈ cases7 -> Good l := fun hm => goods hG (pv [] e0) case_chk7 hm
  have g8 : ∀ {l n}, (l, n) ∈ cases8 -> Good l := fun hm => goods hG (pv [] e0) case_chk8 hm
  obtain ⟨a1, m1, q1⟩ := any_fits h1
  obtain ⟨a2, m2, q2⟩ := any_fits h2
  obtain ⟨a3, m3, q3⟩ := any_fits h3
  rcases big_or h0 with k0 | k0
  · exact g1 (List.mem_flatMap.2 ⟨a1, m1, List.mem_flatMap.2 ⟨a2, m2, List.mem_map.2 ⟨a3, m3, rfl⟩⟩⟩) W [v0, v1, v2, v3] ⟨k0, q1, q2, q3, trivial⟩
  obtain ⟨o0, n0, p0⟩ := ok_fits k0
  rcases big_or h1 with k1 | k1
  · exact g2 (List.mem_flatMap.2 ⟨o0, n0, List.mem_flatMap.2 ⟨a2, m2, List.mem_map.2 ⟨a3, m3, rfl⟩⟩⟩) W [v0, v1, v2, v3] ⟨p0, k1, q2, q3, trivial⟩
  obtain ⟨o1, n1, p1⟩ := ok_fits k1
  rcases big_or h2 with k2 | k2
  · exact g3 (List.mem_flatMap.2 ⟨o0, n0, List.mem_flatMap.2 ⟨o1, n1, List.mem_map.2 ⟨a3, m3, rfl⟩⟩⟩) W [v0, v1, v2, v3] ⟨p0, p1, k2, q3, trivial⟩
  obtain ⟨o2, n2, p2⟩ := ok_fits k2
  rcases big_or h3 with k3 | k3
  · exact g4 (List.mem_flatMap.2 ⟨o0, n0, List.mem_flatMap.2 ⟨o1, n1, List.mem_map.2 ⟨o2, n2, rfl⟩⟩⟩) W [v0, v1, v2, v3] ⟨p0, p1, p2, k3, trivial⟩
  obtain ⟨o3, n3, p3⟩ := ok_fits k3
  have in5 : ∀ {a : Ar} {n : Nat}, (([a, o1, o2, o3], n) : List Ar × Nat) ∈ [([.nil, o1, o2, o3], 1), ([.len 0 0, o1, o2, o3], 1), ([.view 1, o1, o2, o3], 2), ([.len 2 56, o1, o2, o3], 1), ([.len 58 zz, o1, o2, o3], 1)] -> Fits W a v0 -> Calls Tryz.prog 3 #[v0, v1, v2, v3] W fun e W' => e = .returned (.bool true) /\ Same W W' := fun hm hf =>
    g5 (List.mem_flatMap.2 ⟨o1, n1, List.mem_flatMap.2 ⟨o2, n2, List.mem_flatMap.2 ⟨o3, n3, hm⟩⟩⟩) W [v0, v1, v2, v3] ⟨hf, p1, p2, p3, trivial⟩
  rcases k0 with e | ⟨z0, f0, l0⟩
  · exact in5 (a := .nil) (n := 1) (by simp) e
  rcases (by omega : z0.length = 0 \/ z0.length = 1 \/ (2 <= z0.length /\ z0.length <= 56) \/ z0.length = 57 \/ 58 <= z0.length) with c | c | c | c | c
  · exact in5 (a := .len 0 0) (n := 1) (by simp) ⟨z0, f0, by omega, by omega⟩
  · exact in5 (a := .view 1) (n := 2) (by simp) ⟨z0, f0, c⟩
  · exact in5 (a := .len 2 56) (n := 1) (by simp) ⟨z0, f0, by omega, by omega⟩
  · have v57 : Fits W (.view 57) v0 := ⟨z0, f0, c⟩
    have in6 : ∀ {a : Ar} {n : Nat}, (([.view 57, a, o2, o3], n) : List Ar × Nat) ∈ [([.view 57, .nil, o2, o3], 13), ([.view 57, .len 0 0, o2, o3], 13), ([.view 57, .len 201 zz, o2, o3], 13)] -> Fits W a v1 -> Calls Tryz.prog 3 #[v0, v1, v2, v3] W fun e W' => e = .returned (.bool true) /\ Same W W' := fun hm hf =>
      g6 (List.mem_flatMap.2 ⟨o2, n2, List.mem_flatMap.2 ⟨o3, n3, hm⟩⟩) W [v0, v1, v2, v3] ⟨v57, hf, p2, p3, trivial⟩
    rcases k1 with e | ⟨z1, f1, l1⟩
    · exact in6 (a := .nil) (n := 13) (by simp) e
    rcases (by omega : z1.length = 0 \/ (1 <= z1.length /\ z1.length <= 200) \/ 201 <= z1.length) with d | d | d
    · exact in6 (a := .len 0 0) (n := 13) (by simp) ⟨z1, f1, by omega, by omega⟩
    · have hh : Fits W (.len 1 200) v1 := ⟨z1, f1, by omega, by omega⟩
      have in7 : ∀ {a : Ar} {n : Nat}, (([.view 57, .len 1 200, a, o3], n) : List Ar × Nat) ∈ [([.view 57, .len 1 200, .nil, o3], 13), ([.view 57, .len 1 200, .len 0 27, o3], 13), ([.view 57, .len 1 200, .len 29 zz, o3], 13)] -> Fits W a v2 -> Calls Tryz.prog 3 #[v0, v1, v2, v3] W fun e W' => e = .returned (.bool true) /\ Same W W' := fun hm hf =>
        g7 (List.mem_flatMap.2 ⟨o3, n3, hm⟩) W [v0, v1, v2, v3] ⟨v57, hh, hf, p3, trivial⟩
      rcases k2 with e | ⟨z2, f2, l2⟩
      · exact in7 (a := .nil) (n := 13) (by simp) e
      rcases (by omega : z2.length <= 27 \/ z2.length = 28 \/ 29 <= z2.length) with x | x | x
      · exact in7 (a := .len 0 27) (n := 13) (by simp) ⟨z2, f2, by omega, by omega⟩
      · have v28 : Fits W (.view 28) v2 := ⟨z2, f2, x⟩
        have in8 : ∀ {a : Ar} {n : Nat}, (([.view 57, .len 1 200, .view 28, a], n) : List Ar × Nat) ∈ cases8 -> Fits W a v3 -> Calls Tryz.prog 3 #[v0, v1, v2, v3] W fun e W' => e = .returned (.bool true) /\ Same W W' := fun hm hf =>
          g8 hm W [v0, v1, v2, v3] ⟨v57, hh, v28, hf, trivial⟩
        rcases k3 with e | ⟨z3, f3, l3⟩
        · exact in8 (a := .nil) (n := 13) (by simp [cases8]) e
        rcases (by omega : z3.length <= 27 \/ z3.length = 28 \/ 29 <= z3.length) with y | y | y
        · exact in8 (a := .len 0 27) (n := 13) (by simp [cases8]) ⟨z3, f3, by omega, by omega⟩
        · exact main_call pv f0 f1 f2 f3 c d x y
        · exact in8 (a := .len 29 zz) (n := 13) (by simp [cases8]) ⟨z3, f3, by omega, l3⟩
      · exact in7 (a := .len 29 zz) (n := 13) (by simp) ⟨z2, f2, by omega, l2⟩
    · exact in6 (a := .len 201 zz) (n := 13) (by simp) ⟨z1, f1, by omega, l1⟩
  · exact in5 (a := .len 58 zz) (n := 1) (by simp) ⟨z0, f0, by omega, l0⟩
end Go.Proofs.YtmogojlijkddpaaGreat
namespace Go.Vm
section
variable {P : Program} {X : Tk} {E : Env}
def RunSp (P : Program) (X : Tk) (b : Code) (R : Bs) : Prop :=
  ∀ S ls, R S = some ls -> ∀ w0 c a w, TRep c S.tmps S.nt S.nv S.nb a -> MRep X w0 c S w ->
    ∀ Q, (∀ o S', (o, S') ∈ ls -> ∀ c' a' w', Ext S.nv S.nb c c' -> S.nv <= S'.nv -> S.nb <= S'.nb -> TRep c' S'.tmps S'.nt S'.nv S'.nb a' -> MRep X w0 c' S' w' -> Exit.then (LoopWp P b Q) Q o.toExit a' w') -> LoopWp P b Q a w
def thenR (R sp : Bs) (S : St) : Option (List (Out × St)) :=
  match R S with
  | none => none
  | some ls => bindL ls fun x => match x.1 with | .normal => sp x.2 | o => some [(o, x.2)]
theorem runs_exec (hE : EnvOK P X E) {n : Nat} {B : BSp} {b : Code} (hB : BOK P X B b) : RunSp P X b (exec E n B b) := fun S ls hs w0 c a w hT hM _ hQ =>
  LoopWp.round (CodeWp.wp (code_sound hE n B b S ls hs hB w0 c a w hT hM _ fun o S' hm c' a' w' hx hnv hnb hT' hM' => hQ o S' hm c' a' w' hx hnv hnb hT' hM'))
theorem runs_seq {b : Code} {R R' : Bs} (h1 : RunSp P X b R) (h2 : RunSp P X b R') : RunSp P X b (thenR R R') := by
  intro S ls hs w0 c a w hT hM Q hQ
  unfold thenR at hs
  split at hs
  · cases hs
  rename_i ls1 hls1
  refine h1 S ls1 hls1 w0 c a w hT hM Q fun o S' hm c' a' w' hx hnv hnb hT' hM' => ?_
  obtain ⟨rx, g1, g2⟩ := bindL_mem hs (o, S') hm
  have stop : ∀ {o : Out}, rx = [(o, S')] -> Exit.then (LoopWp P b Q) Q o.toExit a' w' := fun {o} e => hQ o S' (g2 _ (by rw [e]; simp)) c' a' w' hx hnv hnb hT' hM'
  cases o with
  | normal => exact h2 S' rx g1 w0 c' a' w' hT' hM' Q fun o S'' hm' c'' a'' w'' hx' hnv' hnb' hT'' hM'' => hQ o S'' (g2 _ hm') c'' a'' w'' (hx.trans hx' hnv hnb) (Nat.le_trans hnv hnv') (Nat.le_trans hnb hnb') hT'' hM''
  | ret => exact stop (o := .ret) (by simpa using g1.symm)
  | exit id => exact stop (o := .exit id) (by simpa using g1.symm)
theorem runs_loop {b : Code} {R sp : Bs} (h1 : RunSp P X b R) (h2 : LoopSp P X b sp) : LoopSp P X b (thenR R sp) := by
  intro S ls hs w0 c a w hT hM Q hQ
  unfold thenR at hs
  split at hs
  · cases hs
  rename_i ls1 hls1
  refine h1 S ls1 hls1 w0 c a w hT hM Q fun o S' hm c' a' w' hx hnv hnb hT' hM' => ?_
  obtain ⟨rx, g1, g2⟩ := bindL_mem hs (o, S') hm
  have stop : ∀ {o : Out}, rx = [(o, S')] -> Q o.toExit a' w' := fun {o} e => hQ o S' (g2 _ (by rw [e]; simp)) c' a' w' hx hnv hnb hT' hM'
  cases o with
  | normal => exact h2 S' rx g1 w0 c' a' w' hT' hM' Q fun o S'' hm' c'' a'' w'' hx' hnv' hnb' hT'' hM'' => hQ o S'' (g2 _ hm') c'' a'' w'' (hx.trans hx' hnv hnb) (Nat.le_trans hnv hnv') (Nat.le_trans hnb hnb') hT'' hM''
  | ret => exact stop (o := .ret) (by simpa using g1.symm)
  | exit id => exact stop (o := .exit id) (by simpa using g1.symm)
theorem runs_sum {b : Code} {s : CSm} {R : Bs} (h : RunSp P X b R) {ds : List (Nat × Look)} (hc : chkCode (R s.start) s ds = true) (hp : ∀ d ∈ ds, EndP X s.core d.1 d.2) : RunSp P X b s.spec := by
  simp only [chkCode, Bool.and_eq_true] at hc
  obtain ⟨hwf, hc⟩ := hc
  split at hc
  · rename_i ls hls
    intro S ls' hs w0 c a w hT hM Q hQ
    obtain ⟨_, m, _, _, _, hT0, hM0, hfit⟩ := csm_fit_m hs hwf hT hM
    refine h s.start ls hls _ _ a w hT0 hM0 Q fun o S' hm c' a' w' hx hnv hnb hT' hM' => ?_
    obtain ⟨d, hd, he⟩ := chkEnds_spec hc (o, S') hm
    obtain ⟨i, kd, out, v, M, k1, k2, rfl, k4, k5, k6, k7⟩ := chkEnd_spec (X := X) he (hp d hd)
    obtain ⟨S'', h1, c'', h2, h3, h4, h5, h6⟩ := hfit i kd out k1 k2 S' v c' a' w' k4 hx hnv hnb hT' k5 hM' M k6 k7
    exact hQ kd.1 S'' h1 c'' a' w' h2 h3 h4 h5 h6
  · cases hc
theorem loop_none {b : Code} : LoopSp P X b (fun _ => none) := fun _ _ hs => by cases hs
def leaveL (id : Nat) (sp : Bs) (S : St) : Option (List (Out × St)) := match sp S with | some ls => some (ls.map fun x => (leave id x.1, x.2)) | none => none
theorem block_loop {id : Nat} {b : Code} {sp : Bs} (h : LoopSp P X b sp) : CodeSp P X (.block id (.loop b)) (leaveL id sp) := by
  intro S ls hs w0 c a w hT hM Q hQ
  refine wp_block (LoopWp.wp ?_)
  unfold leaveL at hs
  split at hs
  · rename_i ls0 h1
    simp only [Option.some.injEq] at hs
    subst hs
    refine h S ls0 h1 w0 c a w hT hM _ fun o S' hm c' a' w' hx hnv hnb hT' hM' => ?_
    have := hQ _ S' (List.mem_map.2 ⟨(o, S'), hm, rfl⟩) c' a' w' hx hnv hnb hT' hM'
    have e : o.toExit.inBlock id Q a' w' ↔ Q (leave id o).toExit a' w' := by
      cases o with
      | normal => exact Iff.rfl
      | ret => exact Iff.rfl
      | exit i =>
        simp only [Out.toExit, Exit.inBlock, leave]
        by_cases hi : i = id
        · subst hi; simp
        · simp [hi]
    exact e.2 this
  · cases hs
theorem endP_vars {s : Sm} {k n : Nat} {L : Look} {o : SmO} (hn : L.nums = vars s.nv n) (ho : s.outs[k]? = some o) (hk : ∀ x ∈ o.post, Con.ext x.1 x.2 ∈ L.ks) (hb : (o.post.all fun x => x.2.all (·.okb (s.nv + n))) = true) : EndP X s k L := fun o' ho' ρ hs x hx => by
  rw [ho] at ho'
  simp only [Option.some.injEq] at ho'
  subst ho'
  have := hs.ks _ (hk x hx)
  simp only [Con.holds] at this
  rw [List.map_congr_left fun e he => ?_]
  · exact this
  · refine IE.eval_ext (n := s.nv + n) (fun i hi => ?_) (IE.ok_of (List.all_eq_true.1 (List.all_eq_true.1 hb x hx) e he))
    unfold numsOf
    split
    · rfl
    · rw [hn]
      unfold vars
      rw [List.getElem?_map, List.getElem?_range (by omega)]
      simp only [Option.map_some, Option.getD_some, IE.eval]
      congr 1; omega
theorem run_spec (hE : EnvOK P X E) {f : FuncId} {fn : Func} (hf : P.funcs[f]? = some fn) (hn : (fn.name == "runtime.NumGoroutine") = false) {n : Nat} {B : BSp} (hB : ∀ body, fn.body = some body -> BOK P X B body) : SpecOK P X f (fun args S => execFn E n B fn args S) :=
  fun _ _ _ hs _ _ _ hM hargs R hR => (execFn_sound hE hf hn hB hs hM hargs).2 R hR
end
def grpS (i : Nat) : Sm := { bd := List.replicate 12 W64, args := [.ptr 0 0, .ptr 1 0, .int .i64 (.const i)], mem := (rowS i).mem, al := [], outs := [{ nbd := List.replicate 1260 W64, val := .tup [.ptr 0 0, .ptr 1 0, .int .i64 (.const ((i : Int) + 7))], writes := [(0, (List.range (15 * i)).map (fun j => .ptr (5 + j) 0) ++ (List.range 105).map (fun j => .ptr (5 + 15 * i + 4 * j) 0) ++ List.replicate (735 - 15 * i) .nilp)] ++ el3 2 1260, news := (List.range 7).flatMap fun d => rowNews (5 + 15 * i + 60 * d) (180 * d), post := (List.range 7).map fun d => (83, vars (180 * d) 192) }] }
def grpC (i : Nat) : CSm := { core := grpS i, nt := 56, tin := [3, 4, 5], kinds := [(.normal, [3, 4, 5])] }
def grpLk : Look := ⟨vars 12 1260, [], (List.range 7).map fun d => .ext 83 (vars (180 * d) 192), []⟩
theorem grp_okb : ((List.range 7).all fun d => (vars (180 * d) 192).all (·.okb 1272)) = true := by kernel_rfl
theorem grp_end {X : Tk} (i : Nat) : EndP X (grpC i).core 0 grpLk := by
  refine endP_vars (s := (grpC i).core) (n := 1260) rfl rfl (fun x hx => ?_) ?_
  · obtain ⟨d, hd, rfl⟩ := List.mem_map.1 hx
    exact List.mem_map.2 ⟨d, hd, rfl⟩
  · rw [List.all_map]; exact grp_okb
end Go.Vm
namespace Go.Proofs.YtmogojlijkddpaaGreat
open Go.Vm
variable {X : Tk}
def genB : Code := loopIn Tryz.f141 0
def oneR (S : St) : Option (List (Out × St)) := exec EJ' 3000 (blockB 1 rowsSp) genB S
def sevenR : Bs := thenR oneR (thenR oneR (thenR oneR (thenR oneR (thenR oneR (thenR oneR oneR)))))
def loopAll : Bs := thenR (grpC 0).spec (thenR (grpC 7).spec (thenR (grpC 14).spec (thenR (grpC 21).spec (thenR (grpC 28).spec (thenR (grpC 35).spec (thenR (grpC 42).spec (thenR (grpC 49).spec (thenR oneR fun _ => none))))))))
def sp141 (args : List SV) (S : St) : Option (List (SV × St)) := execFn EJ' 3000 (blockB 0 (leaveL 0 loopAll)) Tryz.f141 args S
def specK' (f : FuncId) : Option (Fs) := match f with | 141 => some sp141 | f => specJ' f
def EK' : Env := mkEnv Tryz.prog tyTree2 fnTree ext0 specK'
theorem gloop_nodup : nodupB ((blocksOf genB).map (·.1)) = true := by kernel_rfl
theorem gloop_at : loopAt (bodyOf Tryz.f141) 0 = some genB := by kernel_rfl
theorem gblk_eq : blkAt (bodyOf Tryz.f141) 1 = blkAt genB 1 := by kernel_rfl
theorem gblk0_eq : blkAt (bodyOf Tryz.f141) 0 = .block 0 (.loop genB) := by kernel_rfl
theorem gt_nodup : nodupB ((blocksOf (bodyOf Tryz.f141)).map (·.1)) = true := by kernel_rfl
end Go.Proofs.YtmogojlijkddpaaGreat
namespace Go.Vm
def grqS (i : Nat) : Sm := { bd := List.replicate 12 W64, args := [.ptr 0 0, .ptr 1 0, .int .i64 (.const i)], mem := (rowS i).mem, al := [], outs := [{ nbd := List.replicate 2520 W64, val := .tup [.ptr 0 0, .ptr 1 0, .int .i64 (.const ((i : Int) + 14))], writes := [(0, (List.range (15 * i)).map (fun j => .ptr (5 + j) 0) ++ (List.range 210).map (fun j => .ptr (5 + 15 * i + 4 * j) 0) ++ List.replicate (630 - 15 * i) .nilp)] ++ el3 2 2520, news := (List.range 14).flatMap fun d => rowNews (5 + 15 * i + 60 * d) (180 * d), post := (List.range 14).map fun d => (83, vars (180 * d) 192) }] }
def grqC (i : Nat) : CSm := { core := grqS i, nt := 56, tin := [3, 4, 5], kinds := [(.normal, [3, 4, 5])] }
def grqLk : Look := ⟨vars 12 2520, [], (List.range 14).map fun d => .ext 83 (vars (180 * d) 192), []⟩
theorem grq_okb : ((List.range 14).all fun d => (vars (180 * d) 192).all (·.okb 2532)) = true := by kernel_rfl
theorem grq_end {X : Tk} (i : Nat) : EndP X (grqC i).core 0 grqLk := by
  refine endP_vars (s := (grqC i).core) (n := 2520) rfl rfl (fun x hx => ?_) ?_
  · obtain ⟨d, hd, rfl⟩ := List.mem_map.1 hx
    exact List.mem_map.2 ⟨d, hd, rfl⟩
  · rw [List.all_map]; exact grq_okb
end Go.Vm
namespace Go.Proofs.YtmogojlijkddpaaGreat
open Go.Vm
def twoG (i : Nat) : Bs := thenR (grpC i).spec (grpC (i + 7)).spec
def loopAll2 : Bs := thenR (grqC 0).spec (thenR (grqC 14).spec (thenR (grqC 28).spec (thenR (grqC 42).spec (thenR oneR fun _ => none))))
def sp141b (args : List SV) (S : St) : Option (List (SV × St)) := execFn EJ' 3000 (blockB 0 (leaveL 0 loopAll2)) Tryz.f141 args S
def specK2 (f : FuncId) : Option (Fs) := match f with | 141 => some sp141b | 129 => some (orSp addQS.spec addPS.spec) | f => specJ' f
def EK2 : Env := mkEnv Tryz.prog tyTree2 fnTree ext0 specK2
end Go.Proofs.YtmogojlijkddpaaGreat
end
