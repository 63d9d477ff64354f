/- The proof of laws.FnP224Verify, text 10 of 36. Conditions: none. -/
import Derived.Test.YtmogojlijkddpaaGreatT08
noncomputable section

set_option maxRecDepth 100000
namespace Go.Vm
def fT (a b : Int) : Int := (a * b) % p224
def fP (a b : Int) : Int := (a + b) % p224
def fM (a b : Int) : Int := (a - b) % p224
def fI (a : Int) : Int := ipw a pm2 % p224
def bB : Int := 18958286285566608000408668544493926415504680968679321075787234672564
def fR (x : Int) : Int := fP (fM (fT (fT x x) x) (fT 3 x)) bB
structure Tri where
  x : Int
  y : Int
  z : Int
def twF (t : Tri) : Tri :=
  let delta := fT t.z t.z
  let gamma := fT t.y t.y
  let beta := fT t.x gamma
  let alpha := fT 3 (fT (fM t.x delta) (fP t.x delta))
  let four := fT 4 beta
  let x := fM (fT alpha alpha) (fP four four)
  ⟨x, fM (fT alpha (fM four x)) (fT 8 (fT gamma gamma)), fT 2 (fT t.y t.z)⟩
def moF (t : Tri) (a b : Int) : Tri :=
  if t.z = 0 then ⟨a, b, 1⟩ else
  let zz := fT t.z t.z
  let h := fM (fT a zz) t.x
  let r := fM (fT b (fT t.z zz)) t.y
  if h = 0 /\ r = 0 then twF t else
  let hh := fT h h
  let hhh := fT h hh
  let v := fT t.x hh
  let x := fM (fM (fT r r) hhh) (fP v v)
  ⟨x, fM (fT r (fM v x)) (fT t.y hhh), fT t.z h⟩
def stepF (a b : Int) (t : Tri) (bit : Bool) : Tri := if bit then moF (twF t) a b else twF t
def bitsF (a b : Int) (k : Nat) : Nat -> Tri -> Tri
  | 0, t => t
  | n + 1, t => bitsF a b k n (stepF a b t (k / 2 ^ n % 2 == 1))
def bytesF (a b : Int) (l : List Int) (t : Tri) : Tri := l.foldl (fun t k => bitsF a b k.toNat 8 t) t
def multF (a b : Int) (l : List Int) : Option (Int × Int) :=
  let t := bytesF a b l ⟨1, 1, 0⟩
  if t.z = 0 then none else
  let back := fI t.z
  let square := fT back back
  some (fT t.x square, fT t.y (fT square back))
def W7 (ρ : Nat -> Int) (i : Nat) : List Int := [ρ i, ρ (i + 1), ρ (i + 2), ρ (i + 3), ρ (i + 4), ρ (i + 5), ρ (i + 6)]
def triAt (l : List Int) (i : Nat) : Tri := ⟨wv l i, wv l (i + 7), wv l (i + 14)⟩
def wok3 (l : List Int) (i : Nat) : Prop := wok l i /\ wok l (i + 7) /\ wok l (i + 14)
theorem nth_app_l : ∀ (a b : List Int) {i : Nat}, i < a.length -> nth (a ++ b) i = nth a i
  | [], _, _, h => absurd h (Nat.not_lt_zero _)
  | _ :: _, _, 0, _ => rfl
  | _ :: a, b, _ + 1, h => nth_app_l a b (Nat.lt_of_succ_lt_succ h)
theorem nth_app_r : ∀ (a b : List Int) (i : Nat), nth (a ++ b) (a.length + i) = nth b i
  | [], b, i => by rw [List.nil_append, List.length_nil, Nat.zero_add]
  | _ :: a, b, i => by rw [List.length_cons, Nat.add_right_comm]; exact nth_app_r a b i
theorem wv_app_l {a b : List Int} {i : Nat} (h : i + 6 < a.length) : wv (a ++ b) i = wv a i := by
  unfold wv
  rw [nth_app_l _ _ (by omega), nth_app_l _ _ (by omega), nth_app_l _ _ (by omega), nth_app_l _ _ (by omega), nth_app_l _ _ (by omega), nth_app_l _ _ (by omega), nth_app_l _ _ (by omega)]
theorem wv_app_r {a b : List Int} (i : Nat) : wv (a ++ b) (a.length + i) = wv b i := by
  unfold wv
  simp only [Nat.add_assoc, nth_app_r]
theorem wok_app_r {a b : List Int} (i : Nat) : wok (a ++ b) (a.length + i) = wok b i := by
  unfold wok
  simp only [Nat.add_assoc, nth_app_r]
def RightP (l : List Int) : Prop := wok l 7 /\ wv l 7 = fR (wv l 0)
def OnP (l : List Int) : Prop := (nth l 14 = 0 \/ nth l 14 = 1) /\ (nth l 14 = 1 ↔ fT (wv l 7) (wv l 7) = fR (wv l 0))
def TwiceP (l : List Int) : Prop := wok3 l 21 /\ triAt l 21 = twF (triAt l 0)
def MoreP (l : List Int) : Prop := wok3 l 35 /\ triAt l 35 = moF (triAt l 0) (wv l 21) (wv l 28)
def BitsP (l : List Int) : Prop := wok3 l 37 /\ triAt l 37 = bitsF (wv l 21) (wv l 28) (nth l 35).toNat (nth l 36 + 1).toNat (triAt l 0)
def BytesP (l : List Int) : Prop := wok3 l 64 /\ triAt l 64 = bytesF (wv l 21) (wv l 28) (((l.drop 36).take 28).drop (nth l 35).toNat) (triAt l 0)
def MultP (l : List Int) : Prop := wok l 43 /\ wok l 50 /\ (nth l 42 = 0 \/ nth l 42 = 1) /\ multF (wv l 0) (wv l 7) ((l.drop 14).take 28) = if nth l 42 = 1 then none else some (wv l 43, wv l 50)
structure FW (X : Tk) : Prop extends FZ X where
  right : ∀ l, X 40 l ↔ RightP l
  on : ∀ l, X 41 l ↔ OnP l
  twice : ∀ l, X 42 l ↔ TwiceP l
  more : ∀ l, X 43 l ↔ MoreP l
  bits : ∀ l, X 44 l ↔ BitsP l
  bytes : ∀ l, X 45 l ↔ BytesP l
  mult : ∀ l, X 46 l ↔ MultP l
section
variable {X : Tk} {L : Look} {ρ : Nat -> Int}
def conVal (ρ : Nat -> Int) : Con -> Option (Nat × List Int)
  | .ext t es => some (t, es.map (·.eval ρ))
  | _ => none
theorem tokAt (hs : Seen X L ρ) (i : Nat) {tag : Nat} {l : List Int} (e : (L.ks[i]?).bind (conVal ρ) = some (tag, l)) : X tag l := by
  cases h : L.ks[i]? with
  | none => rw [h] at e; cases e
  | some k =>
    rw [h] at e
    have hk := hs.ks k (List.mem_of_getElem? h)
    cases k <;> simp [conVal] at e
    obtain ⟨rfl, rfl⟩ := e
    exact hk
theorem testAt (hs : Seen X L ρ) (i : Nat) {e : BE} {b : Bool} (h : L.ks[i]? = some (.test e b)) : e.eval ρ = b := hs.ks _ (List.mem_of_getElem? h)
theorem oneAt (hs : Seen X L ρ) (i : Nat) {d : Nat} {b : Bool} (h : L.ks[i]? = some (.test (.cmp .eql (.var d) (.const 1)) b)) : (ρ d = 1) = (b = true) := by
  have := testAt hs i h
  rw [<- this]
  simp [BE.eval, intCmp, IE.eval]
theorem eqAt (hs : Seen X L ρ) (i : Nat) {d : Nat} {e : IE} (h : L.ks[i]? = some (.eq d e)) : ρ d = e.eval ρ := hs.ks _ (List.mem_of_getElem? h)
theorem of7 {a : List Int} (h : a.length = 7) : ∃ ρ, a = W7 ρ 0 := ⟨fun i => nth a i, by
  match a, h with
  | [_, _, _, _, _, _, _], _ => rfl⟩
theorem times_of (h : FX X) {a b c : List Int} (ha : a.length = 7) (hb : b.length = 7) (hc : c.length = 7) (t : X 25 (a ++ b ++ c)) : wok c 0 /\ wv c 0 = fT (wv a 0) (wv b 0) := by
  obtain ⟨ρ, rfl⟩ := of7 ha
  obtain ⟨σ, rfl⟩ := of7 hb
  obtain ⟨τ, rfl⟩ := of7 hc
  exact Eq.mp (by kernel_rfl) ((h.times _).1 t)
theorem plus_of (h : FX X) {a b c : List Int} (ha : a.length = 7) (hb : b.length = 7) (hc : c.length = 7) (t : X 23 (a ++ b ++ c)) : wok c 0 /\ wv c 0 = fP (wv a 0) (wv b 0) := by
  obtain ⟨ρ, rfl⟩ := of7 ha
  obtain ⟨σ, rfl⟩ := of7 hb
  obtain ⟨τ, rfl⟩ := of7 hc
  exact Eq.mp (by kernel_rfl) ((h.plus _).1 t)
theorem minus_of (h : FX X) {a b c : List Int} (ha : a.length = 7) (hb : b.length = 7) (hc : c.length = 7) (t : X 24 (a ++ b ++ c)) : wok c 0 /\ wv c 0 = fM (wv a 0) (wv b 0) := by
  obtain ⟨ρ, rfl⟩ := of7 ha
  obtain ⟨σ, rfl⟩ := of7 hb
  obtain ⟨τ, rfl⟩ := of7 hc
  exact Eq.mp (by kernel_rfl) ((h.minus _).1 t)
theorem same_of (h : FX X) {a b c : List Int} (ha : a.length = 7) (hb : b.length = 7) {x : Int} (hc : c = [x]) (t : X 26 (a ++ b ++ c)) : (x = 0 \/ x = 1) /\ (x = 1 ↔ wv a 0 = wv b 0) := by
  obtain ⟨ρ, rfl⟩ := of7 ha
  obtain ⟨σ, rfl⟩ := of7 hb
  subst hc
  exact Eq.mp (by kernel_rfl) ((h.same _).1 t)
theorem below_of (h : FX X) {a b c : List Int} (ha : a.length = 7) (hb : b.length = 7) {x : Int} (hc : c = [x]) (t : X 27 (a ++ b ++ c)) : (x = 0 \/ x = 1) /\ (x = 1 ↔ wv a 0 < wv b 0) := by
  obtain ⟨ρ, rfl⟩ := of7 ha
  obtain ⟨σ, rfl⟩ := of7 hb
  subst hc
  exact Eq.mp (by kernel_rfl) ((h.below _).1 t)
theorem inv_of (h : FZ X) {a c : List Int} (ha : a.length = 7) (hc : c.length = 7) (t : X 35 (a ++ c)) : wok c 0 /\ wv c 0 = fI (wv a 0) := by
  obtain ⟨ρ, rfl⟩ := of7 ha
  obtain ⟨τ, rfl⟩ := of7 hc
  obtain ⟨q1, q2, q3⟩ := (h.inv _).1 t
  refine ⟨q1, ?_⟩
  have h0 := (wv_range q1).1
  have e := Int.emod_eq_of_lt h0 q2
  unfold fI
  exact e.symm.trans q3
theorem right_of (h : FW X) {a c : List Int} (ha : a.length = 7) (hc : c.length = 7) (t : X 40 (a ++ c)) : wok c 0 /\ wv c 0 = fR (wv a 0) := by
  obtain ⟨ρ, rfl⟩ := of7 ha
  obtain ⟨τ, rfl⟩ := of7 hc
  exact Eq.mp (by kernel_rfl) ((h.right _).1 t)
theorem on_of (h : FW X) {a b c : List Int} (ha : a.length = 7) (hb : b.length = 7) {x : Int} (hc : c = [x]) (t : X 41 (a ++ b ++ c)) : (x = 0 \/ x = 1) /\ (x = 1 ↔ fT (wv b 0) (wv b 0) = fR (wv a 0)) := by
  obtain ⟨ρ, rfl⟩ := of7 ha
  obtain ⟨σ, rfl⟩ := of7 hb
  subst hc
  exact Eq.mp (by kernel_rfl) ((h.on _).1 t)
theorem twice_of (h : FW X) {a b c d e f : List Int} (ha : a.length = 7) (hb : b.length = 7) (hc : c.length = 7) (hd : d.length = 7) (he : e.length = 7) (hf : f.length = 7) (t : X 42 (a ++ b ++ c ++ d ++ e ++ f)) :
    (wok d 0 /\ wok e 0 /\ wok f 0) /\ (⟨wv d 0, wv e 0, wv f 0⟩ : Tri) = twF ⟨wv a 0, wv b 0, wv c 0⟩ := by
  obtain ⟨ρ, rfl⟩ := of7 ha
  obtain ⟨σ, rfl⟩ := of7 hb
  obtain ⟨τ, rfl⟩ := of7 hc
  obtain ⟨ρ', rfl⟩ := of7 hd
  obtain ⟨σ', rfl⟩ := of7 he
  obtain ⟨τ', rfl⟩ := of7 hf
  exact Eq.mp (by kernel_rfl) ((h.twice _).1 t)
theorem more_of (h : FW X) {a b c p q d e f : List Int} (ha : a.length = 7) (hb : b.length = 7) (hc : c.length = 7) (hp : p.length = 7) (hq : q.length = 7) (hd : d.length = 7) (he : e.length = 7) (hf : f.length = 7) (t : X 43 (a ++ b ++ c ++ p ++ q ++ d ++ e ++ f)) :
    (wok d 0 /\ wok e 0 /\ wok f 0) /\ (⟨wv d 0, wv e 0, wv f 0⟩ : Tri) = moF ⟨wv a 0, wv b 0, wv c 0⟩ (wv p 0) (wv q 0) := by
  obtain ⟨ρ, rfl⟩ := of7 ha
  obtain ⟨σ, rfl⟩ := of7 hb
  obtain ⟨τ, rfl⟩ := of7 hc
  obtain ⟨ρ1, rfl⟩ := of7 hp
  obtain ⟨σ1, rfl⟩ := of7 hq
  obtain ⟨ρ', rfl⟩ := of7 hd
  obtain ⟨σ', rfl⟩ := of7 he
  obtain ⟨τ', rfl⟩ := of7 hf
  exact Eq.mp (by kernel_rfl) ((h.more _).1 t)
theorem bits_of (h : FW X) {a b c p q d e f : List Int} {k i : Int} (ha : a.length = 7) (hb : b.length = 7) (hc : c.length = 7) (hp : p.length = 7) (hq : q.length = 7) (hd : d.length = 7) (he : e.length = 7) (hf : f.length = 7) (t : X 44 (a ++ b ++ c ++ p ++ q ++ [k, i] ++ d ++ e ++ f)) :
    (wok d 0 /\ wok e 0 /\ wok f 0) /\ (⟨wv d 0, wv e 0, wv f 0⟩ : Tri) = bitsF (wv p 0) (wv q 0) k.toNat (i + 1).toNat ⟨wv a 0, wv b 0, wv c 0⟩ := by
  obtain ⟨ρ, rfl⟩ := of7 ha
  obtain ⟨σ, rfl⟩ := of7 hb
  obtain ⟨τ, rfl⟩ := of7 hc
  obtain ⟨ρ1, rfl⟩ := of7 hp
  obtain ⟨σ1, rfl⟩ := of7 hq
  obtain ⟨ρ', rfl⟩ := of7 hd
  obtain ⟨σ', rfl⟩ := of7 he
  obtain ⟨τ', rfl⟩ := of7 hf
  exact Eq.mp (by kernel_rfl) ((h.bits _).1 t)
def bW (n : Nat) : List (Nat × Int × Int) := (List.range n).map fun i => (i, W32)
theorem bW_spec {n : Nat} (hs : Seen X L ρ) (hb : ∀ b ∈ bW n, b ∈ L.bds) (i : Nat) (hi : i < n) : wd (ρ i) := by
  have := hs.bds (i, W32) (hb _ (List.mem_map.2 ⟨i, List.mem_range.2 hi, rfl⟩))
  exact this
theorem wok_W7 {n : Nat} (hw : ∀ i, i < n -> wd (ρ i)) (i : Nat) (hi : i + 6 < n) : wok (W7 ρ i) 0 :=
  ⟨hw i (by omega), hw (i + 1) (by omega), hw (i + 2) (by omega), hw (i + 3) (by omega), hw (i + 4) (by omega), hw (i + 5) (by omega), hw (i + 6) (by omega)⟩
def pickE (i b k : Nat) : Nat -> IE
  | 0 => .var (b + k)
  | n + 1 => .pick (.var i) k (.var (b + k)) (pickE i b (k + 1) n)
theorem pickE_eval (i b : Nat) : ∀ (n k m : Nat), ρ i = (m : Int) -> k <= m -> m <= k + n -> (pickE i b k n).eval ρ = ρ (b + m)
  | 0, k, m, _, h1, h2 => by
    have : k = m := by omega
    subst this; rfl
  | n + 1, k, m, h, h1, h2 => by
    show (if ρ i = (k : Int) then ρ (b + k) else (pickE i b (k + 1) n).eval ρ) = ρ (b + m)
    by_cases e : k = m
    · subst e; exact if_pos h
    · have e' : ¬ ρ i = (k : Int) := by omega
      exact (if_neg e').trans (pickE_eval i b n (k + 1) m h (by omega) (by omega))
theorem bit8_all : ((List.range 256).all fun x => (List.range 8).all fun i => (intBin .and .u8 (intBin .shr .u8 (x : Int) (i : Int)) 1 == 1) == (x / 2 ^ i % 2 == 1)) = true := by kernel_rfl
theorem bit8 {x i : Int} (hx : 0 <= x /\ x <= 255) (hi : 0 <= i /\ i <= 7) : (intBin .and .u8 (intBin .shr .u8 x i) 1 == 1) = (x.toNat / 2 ^ i.toNat % 2 == 1) := by
  have h := List.all_eq_true.1 bit8_all x.toNat (List.mem_range.2 (by omega))
  have h := List.all_eq_true.1 h i.toNat (List.mem_range.2 (by omega))
  rw [Int.toNat_of_nonneg hx.1, Int.toNat_of_nonneg hi.1] at h
  exact beq_iff_eq.1 h
theorem bits_step {a b : Int} {t t2 o : Tri} {k i i' : Int} {bit : Bool} (hi : 0 <= i) (hi' : i' = i - 1) (hb : (k.toNat / 2 ^ i.toNat % 2 == 1) = bit) (ht : t2 = stepF a b t bit)
    (ho : o = bitsF a b k.toNat (i' + 1).toNat t2) : o = bitsF a b k.toNat (i + 1).toNat t := by
  have e1 : (i + 1).toNat = i.toNat + 1 := by omega
  have e2 : (i' + 1).toNat = i.toNat := by omega
  rw [ho, e1, e2, ht, <- hb]
  rfl
theorem bytes_step {a b : Int} {l : List Int} {t t2 o : Tri} {k : Int} {m : Nat} (hm : l[m]? = some k) (ht : t2 = bitsF a b k.toNat 8 t) (ho : o = bytesF a b (l.drop (m + 1)) t2) : o = bytesF a b (l.drop m) t := by
  obtain ⟨hl, e⟩ := List.getElem?_eq_some_iff.1 hm
  rw [ho, List.drop_eq_getElem_cons hl, e, ht]
  rfl
end
def rightS : Sm := { bd := List.replicate 7 W32, args := [curveV 0, .view 1 0 7], mem := [foldsB, elB 0], al := [1], outs := [{ nbd := List.replicate 7 W32, val := .slice 2 0 7 7, writes := [], news := [⟨2, wordsV 7 7, true⟩], post := [(40, vars 0 14)] }] }
def onS : Sm := { bd := List.replicate 14 W32, args := [curveV 0, .view 1 0 7, .view 2 0 7], mem := [foldsB, elB 0, elB 7], al := [1, 2], outs := [{ nbd := [(0, 1)], val := .bexp (.cmp .eql (.var 14) (.const 1)), writes := [], news := [], post := [(41, vars 0 15)] }] }
def scV (b : Nat) : SV := .agg [.view b 0 7, .view (b + 1) 0 7, .view (b + 2) 0 7]
def scB (a b c : Nat) : Blk := ⟨77, [.view a 0 7, .view b 0 7, .view c 0 7], true⟩
def ptB (a b : Nat) : Blk := ⟨30, [.bool false, .view a 0 7, .view b 0 7], true⟩
def twiceS : Sm := { bd := List.replicate 21 W32, args := [curveV 0, scV 1], mem := [foldsB, elB 0, elB 7, elB 14], al := [1, 2, 3], outs := [{ nbd := List.replicate 21 W32, val := scV 4, writes := [], news := [elB 21, elB 28, elB 35], post := [(42, vars 0 42)] }] }
def moreS : Sm := { bd := List.replicate 35 W32, args := [curveV 0, scV 1, .agg [.bool false, .view 4 0 7, .view 5 0 7]], mem := [foldsB, elB 0, elB 7, elB 14, elB 21, elB 28], al := [1, 2, 3, 4, 5], outs := [{ nbd := List.replicate 7 W32, val := .agg [.view 4 0 7, .view 5 0 7, .view 6 0 7], writes := [], news := [elB 35], post := [(43, vars 0 35 ++ vars 21 14 ++ vars 35 7)] }, { nbd := List.replicate 21 W32, val := scV 6, writes := [], news := [elB 35, elB 42, elB 49], post := [(43, vars 0 56)] }] }
def bytesV (i n : Nat) : List SV := (List.range n).map fun j => .int .u8 (.var (i + j))
def byB (i : Nat) : Blk := ⟨5, bytesV i 28, false⟩
def mulBit : CSm :=
  let args := fun (k : Nat) => [SV.ptr 0 0, .ptr 2 0, .ptr 3 0, .ptr 4 0, .view 10 0 28, .int .i64 (.const 28), .int .i64 (.var k)]
  { core := { bd := List.replicate 35 W32 ++ [(0, 255), (-1, 7), (0, 27)] ++ List.replicate 28 (0, 255), args := args 37 ++ [.int .u8 (.var 35), .int .i64 (.var 36)],
              mem := [curveB 1, foldsB, ptB 8 9, ⟨30, [.bool false, .nils, .nils], true⟩, scB 5 6 7, elB 0, elB 7, elB 14, elB 21, elB 28, byB 38], al := [5, 6, 7, 8, 9, 10],
              outs := [{ nbd := [], val := .tup (args 37), writes := [], news := [], post := [(44, vars 0 37 ++ vars 0 21)] },
                       { nbd := List.replicate 7 W32, val := .tup (args 37), writes := [(4, [.view 8 0 7, .view 9 0 7, .view 11 0 7])], news := [elB 66], post := [(44, vars 0 37 ++ vars 21 14 ++ vars 66 7)] },
                       { nbd := List.replicate 21 W32, val := .tup (args 37), writes := [(4, [.view 11 0 7, .view 12 0 7, .view 13 0 7])], news := [elB 66, elB 73, elB 80], post := [(44, vars 0 37 ++ vars 66 21)] }] },
    nt := 74, tin := [3, 5, 6, 7, 23, 24, 25, 9, 10], kinds := List.replicate 3 (.exit 2, [3, 5, 6, 7, 23, 24, 25]) }
def mulByte : CSm :=
  let args := fun (i : IE) => [SV.ptr 0 0, .ptr 2 0, .ptr 3 0, .ptr 4 0, .view 10 0 28, .int .i64 (.const 28), .int .i64 i]
  { core := { bd := List.replicate 35 W32 ++ [(0, 28)] ++ List.replicate 28 (0, 255), args := args (.var 35),
              mem := [curveB 1, foldsB, ptB 8 9, ⟨30, [.bool false, .nils, .nils], true⟩, scB 5 6 7, elB 0, elB 7, elB 14, elB 21, elB 28, byB 36], al := [5, 6, 7, 8, 9, 10],
              outs := [{ nbd := [], val := .tup [.ptr 0 0, .ptr 3 0, .ptr 4 0], writes := [], news := [], post := [(45, vars 0 64 ++ vars 0 21)] },
                       { nbd := List.replicate 7 W32, val := .tup [.ptr 0 0, .ptr 3 0, .ptr 4 0], writes := [(4, [.view 8 0 7, .view 9 0 7, .view 11 0 7])], news := [elB 64], post := [(45, vars 0 64 ++ vars 21 14 ++ vars 64 7)] },
                       { nbd := List.replicate 21 W32, val := .tup [.ptr 0 0, .ptr 3 0, .ptr 4 0], writes := [(4, [.view 11 0 7, .view 12 0 7, .view 13 0 7])], news := [elB 64, elB 71, elB 78], post := [(45, vars 0 64 ++ vars 64 21)] }] },
    nt := 74, tin := [3, 5, 6, 7, 23, 24, 25], kinds := List.replicate 3 (.exit 0, [3, 6, 7]) }
def multS : Sm :=
  { bd := List.replicate 14 W32 ++ List.replicate 28 (0, 255), args := [curveV 0, .view 3 0 28, .agg [.bool false, .view 1 0 7, .view 2 0 7]], mem := [foldsB, elB 0, elB 7, byB 14], al := [1, 2, 3],
    outs := [{ nbd := [], val := .agg [.bool true, .nils, .nils], writes := [], news := [], post := [(46, vars 0 42 ++ [.const 1] ++ List.replicate 14 (.const 0))] },
             { nbd := List.replicate 14 W32, val := .agg [.bool false, .view 4 0 7, .view 5 0 7], writes := [], news := [elB 42, elB 49], post := [(46, vars 0 42 ++ [.const 0] ++ vars 42 14)] }] }
end Go.Vm
namespace Go.Proofs.YtmogojlijkddpaaGreat
open Go.Vm
variable {X : Tk}
def rightDs : List (Nat × Look) := [(0, ⟨vars 35 7, [], [.ext 25 (vars 0 7 ++ vars 0 14),
    .ext 25 (vars 7 7 ++ vars 0 7 ++ vars 14 7),
    .ext 25 ([.const 3, .const 0, .const 0, .const 0, .const 0, .const 0, .const 0] ++ vars 0 7 ++ vars 21 7),
    .ext 24 (vars 14 21),
    .ext 23 (vars 28 7 ++ [.const 592838580, .const 655046979, .const 3619674298, .const 1346678967, .const 4114690646, .const 201634731, .const 3020229253] ++ vars 35 7)], []⟩)]
theorem right_chk : chkFn (execCall EL 3000 27 rightS.args rightS.start) rightS rightDs = true := by kernel_rfl
theorem right_ok (h : FW X) : SpecOK Tryz.prog X 27 rightS.spec := by
  refine fn_sum (EL_ok h.toFZ) right_chk fun d hd => ?_
  simp only [rightDs, List.mem_cons, List.not_mem_nil, or_false] at hd
  rcases hd with rfl
  · refine endP_of _ 40 _ rfl rfl (fun ρ => W7 ρ 0 ++ (W7 ρ 35)) (fun ρ => by kernel_rfl) fun ρ hs => (h.right _).2 ?_
    have hZ : FZ X := h.toFZ
    have hX : FX X := hZ.toFY.toFX
    have t0 := times_of hX (a := (W7 ρ 0)) (b := (W7 ρ 0)) (c := (W7 ρ 7)) rfl rfl rfl (tokAt hs 0 (by kernel_rfl))
    have t1 := times_of hX (a := (W7 ρ 7)) (b := (W7 ρ 0)) (c := (W7 ρ 14)) rfl rfl rfl (tokAt hs 1 (by kernel_rfl))
    have t2 := times_of hX (a := [3, 0, 0, 0, 0, 0, 0]) (b := (W7 ρ 0)) (c := (W7 ρ 21)) rfl rfl rfl (tokAt hs 2 (by kernel_rfl))
    have t3 := minus_of hX (a := (W7 ρ 14)) (b := (W7 ρ 21)) (c := (W7 ρ 28)) rfl rfl rfl (tokAt hs 3 (by kernel_rfl))
    have t4 := plus_of hX (a := (W7 ρ 28)) (b := [592838580, 655046979, 3619674298, 1346678967, 4114690646, 201634731, 3020229253]) (c := (W7 ρ 35)) rfl rfl rfl (tokAt hs 4 (by kernel_rfl))
    have k0 : wv [3, 0, 0, 0, 0, 0, 0] 0 = 3 := by kernel_rfl
    have k1 : wv [592838580, 655046979, 3619674298, 1346678967, 4114690646, 201634731, 3020229253] 0 = 18958286285566608000408668544493926415504680968679321075787234672564 := by kernel_rfl
    refine Eq.mp (by kernel_rfl : (wok (W7 ρ 35) 0 /\ wv (W7 ρ 35) 0 = fR (wv (W7 ρ 0) 0)) = _) ?_
    exact ⟨t4.1, by simp only [fR, bB, t0.2, t1.2, t2.2, t3.2, t4.2, k0, k1]⟩
def specM (f : FuncId) : Option (Fs) := match f with | 27 => some rightS.spec | f => specL f
theorem specM_ok (h : FW X) : ∀ f sp, specM f = some sp -> FnOK Tryz.prog f /\ SpecOK Tryz.prog X f sp := fun f sp hs => by
  unfold specM at hs
  split at hs
  · simp only [Option.some.injEq] at hs; subst hs
    exact ⟨fn_ok Tryz.func27 (by kernel_rfl) (by kernel_rfl), right_ok h⟩
  · exact specL_ok h.toFZ _ _ hs
def EM : Env := mkEnv Tryz.prog tyTree fnTree ext0 specM
theorem EM_ok (h : FW X) : EnvOK Tryz.prog X EM := mkEnv_ok mixed_ok tys_ok fns_ok names_ok ext0_ok (specM_ok h)
def onDs : List (Nat × Look) := [(0, ⟨[.const 1], [], [.ext 25 (vars 7 7 ++ vars 7 14),
    .ext 40 (vars 0 7 ++ vars 21 7),
    .ext 26 (vars 14 15),
    .test (.cmp .eql (.var 28) (.const 1)) true], []⟩),
  (0, ⟨[.const 0], [], [.ext 25 (vars 7 7 ++ vars 7 14),
    .ext 40 (vars 0 7 ++ vars 21 7),
    .ext 26 (vars 14 15),
    .test (.cmp .eql (.var 28) (.const 1)) false], []⟩)]
theorem on_chk : chkFn (execCall EM 3000 11 onS.args onS.start) onS onDs = true := by kernel_rfl
theorem on_ok (h : FW X) : SpecOK Tryz.prog X 11 onS.spec := by
  refine fn_sum (EM_ok h) on_chk fun d hd => ?_
  simp only [onDs, List.mem_cons, List.not_mem_nil, or_false] at hd
  rcases hd with rfl | rfl
  · refine endP_of _ 41 _ rfl rfl (fun ρ => W7 ρ 0 ++ W7 ρ 7 ++ [1]) (fun ρ => by kernel_rfl) fun ρ hs => (h.on _).2 ?_
    have hZ : FZ X := h.toFZ
    have hX : FX X := hZ.toFY.toFX
    have t0 := times_of hX (a := (W7 ρ 7)) (b := (W7 ρ 7)) (c := (W7 ρ 14)) rfl rfl rfl (tokAt hs 0 (by kernel_rfl))
    have t1 := right_of h (a := (W7 ρ 0)) (c := (W7 ρ 21)) rfl rfl (tokAt hs 1 (by kernel_rfl))
    have t2 := same_of hX (a := (W7 ρ 14)) (b := (W7 ρ 21)) (c := [ρ 28]) rfl rfl rfl (tokAt hs 2 (by kernel_rfl))
    have o3 := oneAt hs 3 (d := 28) (b := true) rfl
    refine Eq.mp (by kernel_rfl : (((1 : Int) = 0 \/ (1 : Int) = 1) /\ ((1 : Int) = 1 ↔ fT (wv (W7 ρ 7) 0) (wv (W7 ρ 7) 0) = fR (wv (W7 ρ 0) 0))) = _) ?_
    have q := t2.2.1 (o3.symm ▸ rfl)
    rw [t0.2, t1.2] at q
    exact ⟨Or.inr rfl, fun _ => q, fun _ => rfl⟩
  · refine endP_of _ 41 _ rfl rfl (fun ρ => W7 ρ 0 ++ W7 ρ 7 ++ [0]) (fun ρ => by kernel_rfl) fun ρ hs => (h.on _).2 ?_
    have hZ : FZ X := h.toFZ
    have hX : FX X := hZ.toFY.toFX
    have t0 := times_of hX (a := (W7 ρ 7)) (b := (W7 ρ 7)) (c := (W7 ρ 14)) rfl rfl rfl (tokAt hs 0 (by kernel_rfl))
    have t1 := right_of h (a := (W7 ρ 0)) (c := (W7 ρ 21)) rfl rfl (tokAt hs 1 (by kernel_rfl))
    have t2 := same_of hX (a := (W7 ρ 14)) (b := (W7 ρ 21)) (c := [ρ 28]) rfl rfl rfl (tokAt hs 2 (by kernel_rfl))
    have o3 := oneAt hs 3 (d := 28) (b := false) rfl
    refine Eq.mp (by kernel_rfl : (((0 : Int) = 0 \/ (0 : Int) = 1) /\ ((0 : Int) = 1 ↔ fT (wv (W7 ρ 7) 0) (wv (W7 ρ 7) 0) = fR (wv (W7 ρ 0) 0))) = _) ?_
    refine ⟨Or.inl rfl, fun hc => absurd hc (by decide), fun hc => ?_⟩
    rw [<- t0.2, <- t1.2] at hc
    have q := t2.2.2 hc
    rw [o3] at q
    cases q
def twiceDs : List (Nat × Look) := [(0, ⟨vars 91 7 ++ vars 126 7 ++ vars 140 7, [], [.ext 25 (vars 14 7 ++ vars 14 14),
    .ext 25 (vars 7 7 ++ vars 7 7 ++ vars 28 7),
    .ext 25 (vars 0 7 ++ vars 28 14),
    .ext 24 (vars 0 7 ++ vars 21 7 ++ vars 42 7),
    .ext 23 (vars 0 7 ++ vars 21 7 ++ vars 49 7),
    .ext 25 (vars 42 21),
    .ext 25 ([.const 3, .const 0, .const 0, .const 0, .const 0, .const 0, .const 0] ++ vars 56 14),
    .ext 25 ([.const 4, .const 0, .const 0, .const 0, .const 0, .const 0, .const 0] ++ vars 35 7 ++ vars 70 7),
    .ext 25 (vars 63 7 ++ vars 63 7 ++ vars 77 7),
    .ext 23 (vars 70 7 ++ vars 70 7 ++ vars 84 7),
    .ext 24 (vars 77 21),
    .ext 24 (vars 70 7 ++ vars 91 14),
    .ext 25 (vars 63 7 ++ vars 98 14),
    .ext 25 (vars 28 7 ++ vars 28 7 ++ vars 112 7),
    .ext 25 ([.const 8, .const 0, .const 0, .const 0, .const 0, .const 0, .const 0] ++ vars 112 14),
    .ext 24 (vars 105 7 ++ vars 119 14),
    .ext 25 (vars 7 14 ++ vars 133 7),
    .ext 25 ([.const 2, .const 0, .const 0, .const 0, .const 0, .const 0, .const 0] ++ vars 133 14)], []⟩)]
theorem twice_chk : chkFn (execCall EM 3000 41 twiceS.args twiceS.start) twiceS twiceDs = true := by kernel_rfl
theorem twice_ok (h : FW X) : SpecOK Tryz.prog X 41 twiceS.spec := by
  refine fn_sum (EM_ok h) twice_chk fun d hd => ?_
  simp only [twiceDs, List.mem_cons, List.not_mem_nil, or_false] at hd
  rcases hd with rfl
  · refine endP_of _ 42 _ rfl rfl (fun ρ => (W7 ρ 0) ++ (W7 ρ 7) ++ (W7 ρ 14) ++ (W7 ρ 91) ++ (W7 ρ 126) ++ (W7 ρ 140)) (fun ρ => by kernel_rfl) fun ρ hs => (h.twice _).2 ?_
    have hZ : FZ X := h.toFZ
    have hX : FX X := hZ.toFY.toFX
    have t0 := times_of hX (a := (W7 ρ 14)) (b := (W7 ρ 14)) (c := (W7 ρ 21)) rfl rfl rfl (tokAt hs 0 (by kernel_rfl))
    have t1 := times_of hX (a := (W7 ρ 7)) (b := (W7 ρ 7)) (c := (W7 ρ 28)) rfl rfl rfl (tokAt hs 1 (by kernel_rfl))
    have t2 := times_of hX (a := (W7 ρ 0)) (b := (W7 ρ 28)) (c := (W7 ρ 35)) rfl rfl rfl (tokAt hs 2 (by kernel_rfl))
    have t3 := minus_of hX (a := (W7 ρ 0)) (b := (W7 ρ 21)) (c := (W7 ρ 42)) rfl rfl rfl (tokAt hs 3 (by kernel_rfl))
    have t4 := plus_of hX (a := (W7 ρ 0)) (b := (W7 ρ 21)) (c := (W7 ρ 49)) rfl rfl rfl (tokAt hs 4 (by kernel_rfl))
    have t5 := times_of hX (a := (W7 ρ 42)) (b := (W7 ρ 49)) (c := (W7 ρ 56)) rfl rfl rfl (tokAt hs 5 (by kernel_rfl))
    have t6 := times_of hX (a := [3, 0, 0, 0, 0, 0, 0]) (b := (W7 ρ 56)) (c := (W7 ρ 63)) rfl rfl rfl (tokAt hs 6 (by kernel_rfl))
    have t7 := times_of hX (a := [4, 0, 0, 0, 0, 0, 0]) (b := (W7 ρ 35)) (c := (W7 ρ 70)) rfl rfl rfl (tokAt hs 7 (by kernel_rfl))
    have t8 := times_of hX (a := (W7 ρ 63)) (b := (W7 ρ 63)) (c := (W7 ρ 77)) rfl rfl rfl (tokAt hs 8 (by kernel_rfl))
    have t9 := plus_of hX (a := (W7 ρ 70)) (b := (W7 ρ 70)) (c := (W7 ρ 84)) rfl rfl rfl (tokAt hs 9 (by kernel_rfl))
    have t10 := minus_of hX (a := (W7 ρ 77)) (b := (W7 ρ 84)) (c := (W7 ρ 91)) rfl rfl rfl (tokAt hs 10 (by kernel_rfl))
    have t11 := minus_of hX (a := (W7 ρ 70)) (b := (W7 ρ 91)) (c := (W7 ρ 98)) rfl rfl rfl (tokAt hs 11 (by kernel_rfl))
    have t12 := times_of hX (a := (W7 ρ 63)) (b := (W7 ρ 98)) (c := (W7 ρ 105)) rfl rfl rfl (tokAt hs 12 (by kernel_rfl))
    have t13 := times_of hX (a := (W7 ρ 28)) (b := (W7 ρ 28)) (c := (W7 ρ 112)) rfl rfl rfl (tokAt hs 13 (by kernel_rfl))
    have t14 := times_of hX (a := [8, 0, 0, 0, 0, 0, 0]) (b := (W7 ρ 112)) (c := (W7 ρ 119)) rfl rfl rfl (tokAt hs 14 (by kernel_rfl))
    have t15 := minus_of hX (a := (W7 ρ 105)) (b := (W7 ρ 119)) (c := (W7 ρ 126)) rfl rfl rfl (tokAt hs 15 (by kernel_rfl))
    have t16 := times_of hX (a := (W7 ρ 7)) (b := (W7 ρ 14)) (c := (W7 ρ 133)) rfl rfl rfl (tokAt hs 16 (by kernel_rfl))
    have t17 := times_of hX (a := [2, 0, 0, 0, 0, 0, 0]) (b := (W7 ρ 133)) (c := (W7 ρ 140)) rfl rfl rfl (tokAt hs 17 (by kernel_rfl))
    have k0 : wv [2, 0, 0, 0, 0, 0, 0] 0 = 2 := by kernel_rfl
    have k1 : wv [3, 0, 0, 0, 0, 0, 0] 0 = 3 := by kernel_rfl
    have k2 : wv [4, 0, 0, 0, 0, 0, 0] 0 = 4 := by kernel_rfl
    have k3 : wv [8, 0, 0, 0, 0, 0, 0] 0 = 8 := by kernel_rfl
    refine Eq.mp (by kernel_rfl : ((wok (W7 ρ 91) 0 /\ wok (W7 ρ 126) 0 /\ wok (W7 ρ 140) 0) /\ (⟨wv (W7 ρ 91) 0, wv (W7 ρ 126) 0, wv (W7 ρ 140) 0⟩ : Tri) = twF (⟨wv (W7 ρ 0) 0, wv (W7 ρ 7) 0, wv (W7 ρ 14) 0⟩ : Tri)) = _) ?_
    exact ⟨⟨t10.1, t15.1, t17.1⟩, by simp only [twF, t0.2, t1.2, t2.2, t3.2, t4.2, t5.2, t6.2, t7.2, t8.2, t9.2, t10.2, t11.2, t12.2, t13.2, t14.2, t15.2, t16.2, t17.2, k0, k1, k2, k3]⟩
def specN (f : FuncId) : Option (Fs) := match f with | 11 => some onS.spec | 41 => some twiceS.spec | f => specM f
theorem specN_ok (h : FW X) : ∀ f sp, specN f = some sp -> FnOK Tryz.prog f /\ SpecOK Tryz.prog X f sp := fun f sp hs => by
  unfold specN at hs
  split at hs
  · simp only [Option.some.injEq] at hs; subst hs
    exact ⟨fn_ok Tryz.func11 (by kernel_rfl) (by kernel_rfl), on_ok h⟩
  · simp only [Option.some.injEq] at hs; subst hs
    exact ⟨fn_ok Tryz.func41 (by kernel_rfl) (by kernel_rfl), twice_ok h⟩
  · exact specM_ok h _ _ hs
def EN : Env := mkEnv Tryz.prog tyTree fnTree ext0 specN
theorem EN_ok (h : FW X) : EnvOK Tryz.prog X EN := mkEnv_ok mixed_ok tys_ok fns_ok names_ok ext0_ok (specN_ok h)
open Go.Vm
variable {X : Tk}
def moreDs : List (Nat × Look) := [(0, ⟨[.const 1, .const 0, .const 0, .const 0, .const 0, .const 0, .const 0], bW 35, [.ext 26 (vars 14 7 ++ [.const 0, .const 0, .const 0, .const 0, .const 0, .const 0, .const 0, .var 35]),
    .test (.cmp .eql (.var 35) (.const 1)) true], []⟩),
  (1, ⟨vars 80 21, bW 35, [.ext 26 (vars 14 7 ++ [.const 0, .const 0, .const 0, .const 0, .const 0, .const 0, .const 0, .var 35]),
    .test (.cmp .eql (.var 35) (.const 1)) false,
    .ext 25 (vars 14 7 ++ vars 14 7 ++ vars 36 7),
    .ext 25 (vars 21 7 ++ vars 36 14),
    .ext 24 (vars 43 7 ++ vars 0 7 ++ vars 50 7),
    .ext 25 (vars 14 7 ++ vars 36 7 ++ vars 57 7),
    .ext 25 (vars 28 7 ++ vars 57 14),
    .ext 24 (vars 64 7 ++ vars 7 7 ++ vars 71 7),
    .ext 26 (vars 50 7 ++ [.const 0, .const 0, .const 0, .const 0, .const 0, .const 0, .const 0, .var 78]),
    .test (.cmp .eql (.var 78) (.const 1)) true,
    .ext 26 (vars 71 7 ++ [.const 0, .const 0, .const 0, .const 0, .const 0, .const 0, .const 0, .var 79]),
    .test (.cmp .eql (.var 79) (.const 1)) true,
    .ext 42 (vars 0 21 ++ vars 80 21)], []⟩),
  (1, ⟨vars 122 7 ++ vars 150 14, bW 35, [.ext 26 (vars 14 7 ++ [.const 0, .const 0, .const 0, .const 0, .const 0, .const 0, .const 0, .var 35]),
    .test (.cmp .eql (.var 35) (.const 1)) false,
    .ext 25 (vars 14 7 ++ vars 14 7 ++ vars 36 7),
    .ext 25 (vars 21 7 ++ vars 36 14),
    .ext 24 (vars 43 7 ++ vars 0 7 ++ vars 50 7),
    .ext 25 (vars 14 7 ++ vars 36 7 ++ vars 57 7),
    .ext 25 (vars 28 7 ++ vars 57 14),
    .ext 24 (vars 64 7 ++ vars 7 7 ++ vars 71 7),
    .ext 26 (vars 50 7 ++ [.const 0, .const 0, .const 0, .const 0, .const 0, .const 0, .const 0, .var 78]),
    .test (.cmp .eql (.var 78) (.const 1)) true,
    .ext 26 (vars 71 7 ++ [.const 0, .const 0, .const 0, .const 0, .const 0, .const 0, .const 0, .var 79]),
    .test (.cmp .eql (.var 79) (.const 1)) false,
    .ext 25 (vars 50 7 ++ vars 50 7 ++ vars 80 7),
    .ext 25 (vars 50 7 ++ vars 80 14),
    .ext 25 (vars 0 7 ++ vars 80 7 ++ vars 94 7),
    .ext 25 (vars 71 7 ++ vars 71 7 ++ vars 101 7),
    .ext 24 (vars 101 7 ++ vars 87 7 ++ vars 108 7),
    .ext 23 (vars 94 7 ++ vars 94 7 ++ vars 115 7),
    .ext 24 (vars 108 21),
    .ext 24 (vars 94 7 ++ vars 122 14),
    .ext 25 (vars 71 7 ++ vars 129 14),
    .ext 25 (vars 7 7 ++ vars 87 7 ++ vars 143 7),
    .ext 24 (vars 136 21),
    .ext 25 (vars 14 7 ++ vars 50 7 ++ vars 157 7)], []⟩),
  (1, ⟨vars 121 7 ++ vars 149 14, bW 35, [.ext 26 (vars 14 7 ++ [.const 0, .const 0, .const 0, .const 0, .const 0, .const 0, .const 0, .var 35]),
    .test (.cmp .eql (.var 35) (.const 1)) false,
    .ext 25 (vars 14 7 ++ vars 14 7 ++ vars 36 7),
    .ext 25 (vars 21 7 ++ vars 36 14),
    .ext 24 (vars 43 7 ++ vars 0 7 ++ vars 50 7),
    .ext 25 (vars 14 7 ++ vars 36 7 ++ vars 57 7),
    .ext 25 (vars 28 7 ++ vars 57 14),
    .ext 24 (vars 64 7 ++ vars 7 7 ++ vars 71 7),
    .ext 26 (vars 50 7 ++ [.const 0, .const 0, .const 0, .const 0, .const 0, .const 0, .const 0, .var 78]),
    .test (.cmp .eql (.var 78) (.const 1)) false,
    .ext 25 (vars 50 7 ++ vars 50 7 ++ vars 79 7),
    .ext 25 (vars 50 7 ++ vars 79 14),
    .ext 25 (vars 0 7 ++ vars 79 7 ++ vars 93 7),
    .ext 25 (vars 71 7 ++ vars 71 7 ++ vars 100 7),
    .ext 24 (vars 100 7 ++ vars 86 7 ++ vars 107 7),
    .ext 23 (vars 93 7 ++ vars 93 7 ++ vars 114 7),
    .ext 24 (vars 107 21),
    .ext 24 (vars 93 7 ++ vars 121 14),
    .ext 25 (vars 71 7 ++ vars 128 14),
    .ext 25 (vars 7 7 ++ vars 86 7 ++ vars 142 7),
    .ext 24 (vars 135 21),
    .ext 25 (vars 14 7 ++ vars 50 7 ++ vars 156 7)], []⟩)]
theorem more_chk : chkFn (execCall EN 3000 42 moreS.args moreS.start) moreS moreDs = true := by kernel_rfl
theorem more_ok (h : FW X) : SpecOK Tryz.prog X 42 moreS.spec := by
  refine fn_sum (EN_ok h) more_chk fun d hd => ?_
  simp only [moreDs, List.mem_cons, List.not_mem_nil, or_false] at hd
  rcases hd with rfl | rfl | rfl | rfl
  · refine endP_of _ 43 _ rfl rfl (fun ρ => (W7 ρ 0) ++ (W7 ρ 7) ++ (W7 ρ 14) ++ (W7 ρ 21) ++ (W7 ρ 28) ++ (W7 ρ 21) ++ (W7 ρ 28) ++ [1, 0, 0, 0, 0, 0, 0]) (fun ρ => by kernel_rfl) fun ρ hs => (h.more _).2 ?_
    have hZ : FZ X := h.toFZ
    have hX : FX X := hZ.toFY.toFX
    have t0 := same_of hX (a := (W7 ρ 14)) (b := [0, 0, 0, 0, 0, 0, 0]) (c := [ρ 35]) rfl rfl rfl (tokAt hs 0 (by kernel_rfl))
    have o1 := oneAt hs 1 (d := 35) (b := true) rfl
    have k0 : wv [0, 0, 0, 0, 0, 0, 0] 0 = 0 := by kernel_rfl
    have k1 : wv [1, 0, 0, 0, 0, 0, 0] 0 = 1 := by kernel_rfl
    refine Eq.mp (by kernel_rfl : ((wok (W7 ρ 21) 0 /\ wok (W7 ρ 28) 0 /\ wok [1, 0, 0, 0, 0, 0, 0] 0) /\ (⟨wv (W7 ρ 21) 0, wv (W7 ρ 28) 0, wv [1, 0, 0, 0, 0, 0, 0] 0⟩ : Tri) = moF (⟨wv (W7 ρ 0) 0, wv (W7 ρ 7) 0, wv (W7 ρ 14) 0⟩ : Tri) (wv (W7 ρ 21) 0) (wv (W7 ρ 28) 0)) = _) ?_
    have hw := bW_spec (n := 35) hs fun b hb => hb
    have z0 : wv (W7 ρ 14) 0 = 0 := k0 ▸ t0.2.1 (o1.symm ▸ rfl)
    refine ⟨⟨wok_W7 hw 21 (by decide), wok_W7 hw 28 (by decide), by unfold wok wd nth nth; decide⟩, ?_⟩
    unfold moF
    simp only [if_pos z0, k1]
  · refine endP_of _ 43 _ rfl rfl (fun ρ => (W7 ρ 0) ++ (W7 ρ 7) ++ (W7 ρ 14) ++ (W7 ρ 21) ++ (W7 ρ 28) ++ (W7 ρ 80) ++ (W7 ρ 87) ++ (W7 ρ 94)) (fun ρ => by kernel_rfl) fun ρ hs => (h.more _).2 ?_
    have hZ : FZ X := h.toFZ
    have hX : FX X := hZ.toFY.toFX
    have t0 := same_of hX (a := (W7 ρ 14)) (b := [0, 0, 0, 0, 0, 0, 0]) (c := [ρ 35]) rfl rfl rfl (tokAt hs 0 (by kernel_rfl))
    have o1 := oneAt hs 1 (d := 35) (b := false) rfl
    have t2 := times_of hX (a := (W7 ρ 14)) (b := (W7 ρ 14)) (c := (W7 ρ 36)) rfl rfl rfl (tokAt hs 2 (by kernel_rfl))
    have t3 := times_of hX (a := (W7 ρ 21)) (b := (W7 ρ 36)) (c := (W7 ρ 43)) rfl rfl rfl (tokAt hs 3 (by kernel_rfl))
    have t4 := minus_of hX (a := (W7 ρ 43)) (b := (W7 ρ 0)) (c := (W7 ρ 50)) rfl rfl rfl (tokAt hs 4 (by kernel_rfl))
    have t5 := times_of hX (a := (W7 ρ 14)) (b := (W7 ρ 36)) (c := (W7 ρ 57)) rfl rfl rfl (tokAt hs 5 (by kernel_rfl))
    have t6 := times_of hX (a := (W7 ρ 28)) (b := (W7 ρ 57)) (c := (W7 ρ 64)) rfl rfl rfl (tokAt hs 6 (by kernel_rfl))
    have t7 := minus_of hX (a := (W7 ρ 64)) (b := (W7 ρ 7)) (c := (W7 ρ 71)) rfl rfl rfl (tokAt hs 7 (by kernel_rfl))
    have t8 := same_of hX (a := (W7 ρ 50)) (b := [0, 0, 0, 0, 0, 0, 0]) (c := [ρ 78]) rfl rfl rfl (tokAt hs 8 (by kernel_rfl))
    have o9 := oneAt hs 9 (d := 78) (b := true) rfl
    have t10 := same_of hX (a := (W7 ρ 71)) (b := [0, 0, 0, 0, 0, 0, 0]) (c := [ρ 79]) rfl rfl rfl (tokAt hs 10 (by kernel_rfl))
    have o11 := oneAt hs 11 (d := 79) (b := true) rfl
    have t12 := twice_of h (a := (W7 ρ 0)) (b := (W7 ρ 7)) (c := (W7 ρ 14)) (d := (W7 ρ 80)) (e := (W7 ρ 87)) (f := (W7 ρ 94)) rfl rfl rfl rfl rfl rfl (tokAt hs 12 (by kernel_rfl))
    have k0 : wv [0, 0, 0, 0, 0, 0, 0] 0 = 0 := by kernel_rfl
    have k1 : wv [1, 0, 0, 0, 0, 0, 0] 0 = 1 := by kernel_rfl
    refine Eq.mp (by kernel_rfl : ((wok (W7 ρ 80) 0 /\ wok (W7 ρ 87) 0 /\ wok (W7 ρ 94) 0) /\ (⟨wv (W7 ρ 80) 0, wv (W7 ρ 87) 0, wv (W7 ρ 94) 0⟩ : Tri) = moF (⟨wv (W7 ρ 0) 0, wv (W7 ρ 7) 0, wv (W7 ρ 14) 0⟩ : Tri) (wv (W7 ρ 21) 0) (wv (W7 ρ 28) 0)) = _) ?_
    have hw := bW_spec (n := 35) hs fun b hb => hb
    have z0 : ¬ wv (W7 ρ 14) 0 = 0 := fun hc => absurd (o1.mp (t0.2.2 (hc.trans k0.symm))) (by decide)
    have z1 : wv (W7 ρ 50) 0 = 0 := k0 ▸ t8.2.1 (o9.symm ▸ rfl)
    have z2 : wv (W7 ρ 71) 0 = 0 := k0 ▸ t10.2.1 (o11.symm ▸ rfl)
    simp only [t2.2, t3.2, t4.2, t5.2, t6.2, t7.2] at z0 z1 z2
    refine ⟨t12.1, t12.2.trans ?_⟩
    unfold moF
    simp only [if_neg z0]
    exact (if_pos ⟨z1, z2⟩).symm
  · refine endP_of _ 43 _ rfl rfl (fun ρ => (W7 ρ 0) ++ (W7 ρ 7) ++ (W7 ρ 14) ++ (W7 ρ 21) ++ (W7 ρ 28) ++ (W7 ρ 122) ++ (W7 ρ 150) ++ (W7 ρ 157)) (fun ρ => by kernel_rfl) fun ρ hs => (h.more _).2 ?_
    have hZ : FZ X := h.toFZ
    have hX : FX X := hZ.toFY.toFX
    have t0 := same_of hX (a := (W7 ρ 14)) (b := [0, 0, 0, 0, 0, 0, 0]) (c := [ρ 35]) rfl rfl rfl (tokAt hs 0 (by kernel_rfl))
    have o1 := oneAt hs 1 (d := 35) (b := false) rfl
    have t2 := times_of hX (a := (W7 ρ 14)) (b := (W7 ρ 14)) (c := (W7 ρ 36)) rfl rfl rfl (tokAt hs 2 (by kernel_rfl))
    have t3 := times_of hX (a := (W7 ρ 21)) (b := (W7 ρ 36)) (c := (W7 ρ 43)) rfl rfl rfl (tokAt hs 3 (by kernel_rfl))
    have t4 := minus_of hX (a := (W7 ρ 43)) (b := (W7 ρ 0)) (c := (W7 ρ 50)) rfl rfl rfl (tokAt hs 4 (by kernel_rfl))
    have t5 := times_of hX (a := (W7 ρ 14)) (b := (W7 ρ 36)) (c := (W7 ρ 57)) rfl rfl rfl (tokAt hs 5 (by kernel_rfl))
    have t6 := times_of hX (a := (W7 ρ 28)) (b := (W7 ρ 57)) (c := (W7 ρ 64)) rfl rfl rfl (tokAt hs 6 (by kernel_rfl))
    have t7 := minus_of hX (a := (W7 ρ 64)) (b := (W7 ρ 7)) (c := (W7 ρ 71)) rfl rfl rfl (tokAt hs 7 (by kernel_rfl))
    have t8 := same_of hX (a := (W7 ρ 50)) (b := [0, 0, 0, 0, 0, 0, 0]) (c := [ρ 78]) rfl rfl rfl (tokAt hs 8 (by kernel_rfl))
    have o9 := oneAt hs 9 (d := 78) (b := true) rfl
    have t10 := same_of hX (a := (W7 ρ 71)) (b := [0, 0, 0, 0, 0, 0, 0]) (c := [ρ 79]) rfl rfl rfl (tokAt hs 10 (by kernel_rfl))
    have o11 := oneAt hs 11 (d := 79) (b := false) rfl
    have t12 := times_of hX (a := (W7 ρ 50)) (b := (W7 ρ 50)) (c := (W7 ρ 80)) rfl rfl rfl (tokAt hs 12 (by kernel_rfl))
    have t13 := times_of hX (a := (W7 ρ 50)) (b := (W7 ρ 80)) (c := (W7 ρ 87)) rfl rfl rfl (tokAt hs 13 (by kernel_rfl))
    have t14 := times_of hX (a := (W7 ρ 0)) (b := (W7 ρ 80)) (c := (W7 ρ 94)) rfl rfl rfl (tokAt hs 14 (by kernel_rfl))
    have t15 := times_of hX (a := (W7 ρ 71)) (b := (W7 ρ 71)) (c := (W7 ρ 101)) rfl rfl rfl (tokAt hs 15 (by kernel_rfl))
    have t16 := minus_of hX (a := (W7 ρ 101)) (b := (W7 ρ 87)) (c := (W7 ρ 108)) rfl rfl rfl (tokAt hs 16 (by kernel_rfl))
    have t17 := plus_of hX (a := (W7 ρ 94)) (b := (W7 ρ 94)) (c := (W7 ρ 115)) rfl rfl rfl (tokAt hs 17 (by kernel_rfl))
    have t18 := minus_of hX (a := (W7 ρ 108)) (b := (W7 ρ 115)) (c := (W7 ρ 122)) rfl rfl rfl (tokAt hs 18 (by kernel_rfl))
    have t19 := minus_of hX (a := (W7 ρ 94)) (b := (W7 ρ 122)) (c := (W7 ρ 129)) rfl rfl rfl (tokAt hs 19 (by kernel_rfl))
    have t20 := times_of hX (a := (W7 ρ 71)) (b := (W7 ρ 129)) (c := (W7 ρ 136)) rfl rfl rfl (tokAt hs 20 (by kernel_rfl))
    have t21 := times_of hX (a := (W7 ρ 7)) (b := (W7 ρ 87)) (c := (W7 ρ 143)) rfl rfl rfl (tokAt hs 21 (by kernel_rfl))
    have t22 := minus_of hX (a := (W7 ρ 136)) (b := (W7 ρ 143)) (c := (W7 ρ 150)) rfl rfl rfl (tokAt hs 22 (by kernel_rfl))
    have t23 := times_of hX (a := (W7 ρ 14)) (b := (W7 ρ 50)) (c := (W7 ρ 157)) rfl rfl rfl (tokAt hs 23 (by kernel_rfl))
    have k0 : wv [0, 0, 0, 0, 0, 0, 0] 0 = 0 := by kernel_rfl
    have k1 : wv [1, 0, 0, 0, 0, 0, 0] 0 = 1 := by kernel_rfl
    refine Eq.mp (by kernel_rfl : ((wok (W7 ρ 122) 0 /\ wok (W7 ρ 150) 0 /\ wok (W7 ρ 157) 0) /\ (⟨wv (W7 ρ 122) 0, wv (W7 ρ 150) 0, wv (W7 ρ 157) 0⟩ : Tri) = moF (⟨wv (W7 ρ 0) 0, wv (W7 ρ 7) 0, wv (W7 ρ 14) 0⟩ : Tri) (wv (W7 ρ 21) 0) (wv (W7 ρ 28) 0)) = _) ?_
    have hw := bW_spec (n := 35) hs fun b hb => hb
    have z0 : ¬ wv (W7 ρ 14) 0 = 0 := fun hc => absurd (o1.mp (t0.2.2 (hc.trans k0.symm))) (by decide)
    have z1 : wv (W7 ρ 50) 0 = 0 := k0 ▸ t8.2.1 (o9.symm ▸ rfl)
    have z2 : ¬ wv (W7 ρ 71) 0 = 0 := fun hc => absurd (o11.mp (t10.2.2 (hc.trans k0.symm))) (by decide)
    simp only [t2.2, t3.2, t4.2, t5.2, t6.2, t7.2] at z0 z1 z2
    refine ⟨⟨t18.1, t22.1, t23.1⟩, ?_⟩
    unfold moF
    simp only [if_neg z0]
    rw [if_neg (fun hc => z2 hc.2)]
    simp only [t2.2, t3.2, t4.2, t5.2, t6.2, t7.2, t12.2, t13.2, t14.2, t15.2, t16.2, t17.2, t18.2, t19.2, t20.2, t21.2, t22.2, t23.2]
  · refine endP_of _ 43 _ rfl rfl (fun ρ => (W7 ρ 0) ++ (W7 ρ 7) ++ (W7 ρ 14) ++ (W7 ρ 21) ++ (W7 ρ 28) ++ (W7 ρ 121) ++ (W7 ρ 149) ++ (W7 ρ 156)) (fun ρ => by kernel_rfl) fun ρ hs => (h.more _).2 ?_
    have hZ : FZ X := h.toFZ
    have hX : FX X := hZ.toFY.toFX
    have t0 := same_of hX (a := (W7 ρ 14)) (b := [0, 0, 0, 0, 0, 0, 0]) (c := [ρ 35]) rfl rfl rfl (tokAt hs 0 (by kernel_rfl))
    have o1 := oneAt hs 1 (d := 35) (b := false) rfl
    have t2 := times_of hX (a := (W7 ρ 14)) (b := (W7 ρ 14)) (c := (W7 ρ 36)) rfl rfl rfl (tokAt hs 2 (by kernel_rfl))
    have t3 := times_of hX (a := (W7 ρ 21)) (b := (W7 ρ 36)) (c := (W7 ρ 43)) rfl rfl rfl (tokAt hs 3 (by kernel_rfl))
    have t4 := minus_of hX (a := (W7 ρ 43)) (b := (W7 ρ 0)) (c := (W7 ρ 50)) rfl rfl rfl (tokAt hs 4 (by kernel_rfl))
    have t5 := times_of hX (a := (W7 ρ 14)) (b := (W7 ρ 36)) (c := (W7 ρ 57)) rfl rfl rfl (tokAt hs 5 (by kernel_rfl))
    have t6 := times_of hX (a := (W7 ρ 28)) (b := (W7 ρ 57)) (c := (W7 ρ 64)) rfl rfl rfl (tokAt hs 6 (by kernel_rfl))
    have t7 := minus_of hX (a := (W7 ρ 64)) (b := (W7 ρ 7)) (c := (W7 ρ 71)) rfl rfl rfl (tokAt hs 7 (by kernel_rfl))
    have t8 := same_of hX (a := (W7 ρ 50)) (b := [0, 0, 0, 0, 0, 0, 0]) (c := [ρ 78]) rfl rfl rfl (tokAt hs 8 (by kernel_rfl))
    have o9 := oneAt hs 9 (d := 78) (b := false) rfl
    have t10 := times_of hX (a := (W7 ρ 50)) (b := (W7 ρ 50)) (c := (W7 ρ 79)) rfl rfl rfl (tokAt hs 10 (by kernel_rfl))
    have t11 := times_of hX (a := (W7 ρ 50)) (b := (W7 ρ 79)) (c := (W7 ρ 86)) rfl rfl rfl (tokAt hs 11 (by kernel_rfl))
    have t12 := times_of hX (a := (W7 ρ 0)) (b := (W7 ρ 79)) (c := (W7 ρ 93)) rfl rfl rfl (tokAt hs 12 (by kernel_rfl))
    have t13 := times_of hX (a := (W7 ρ 71)) (b := (W7 ρ 71)) (c := (W7 ρ 100)) rfl rfl rfl (tokAt hs 13 (by kernel_rfl))
    have t14 := minus_of hX (a := (W7 ρ 100)) (b := (W7 ρ 86)) (c := (W7 ρ 107)) rfl rfl rfl (tokAt hs 14 (by kernel_rfl))
    have t15 := plus_of hX (a := (W7 ρ 93)) (b := (W7 ρ 93)) (c := (W7 ρ 114)) rfl rfl rfl (tokAt hs 15 (by kernel_rfl))
    have t16 := minus_of hX (a := (W7 ρ 107)) (b := (W7 ρ 114)) (c := (W7 ρ 121)) rfl rfl rfl (tokAt hs 16 (by kernel_rfl))
    have t17 := minus_of hX (a := (W7 ρ 93)) (b := (W7 ρ 121)) (c := (W7 ρ 128)) rfl rfl rfl (tokAt hs 17 (by kernel_rfl))
    have t18 := times_of hX (a := (W7 ρ 71)) (b := (W7 ρ 128)) (c := (W7 ρ 135)) rfl rfl rfl (tokAt hs 18 (by kernel_rfl))
    have t19 := times_of hX (a := (W7 ρ 7)) (b := (W7 ρ 86)) (c := (W7 ρ 142)) rfl rfl rfl (tokAt hs 19 (by kernel_rfl))
    have t20 := minus_of hX (a := (W7 ρ 135)) (b := (W7 ρ 142)) (c := (W7 ρ 149)) rfl rfl rfl (tokAt hs 20 (by kernel_rfl))
    have t21 := times_of hX (a := (W7 ρ 14)) (b := (W7 ρ 50)) (c := (W7 ρ 156)) rfl rfl rfl (tokAt hs 21 (by kernel_rfl))
    have k0 : wv [0, 0, 0, 0, 0, 0, 0] 0 = 0 := by kernel_rfl
    have k1 : wv [1, 0, 0, 0, 0, 0, 0] 0 = 1 := by kernel_rfl
    refine Eq.mp (by kernel_rfl : ((wok (W7 ρ 121) 0 /\ wok (W7 ρ 149) 0 /\ wok (W7 ρ 156) 0) /\ (⟨wv (W7 ρ 121) 0, wv (W7 ρ 149) 0, wv (W7 ρ 156) 0⟩ : Tri) = moF (⟨wv (W7 ρ 0) 0, wv (W7 ρ 7) 0, wv (W7 ρ 14) 0⟩ : Tri) (wv (W7 ρ 21) 0) (wv (W7 ρ 28) 0)) = _) ?_
    have hw := bW_spec (n := 35) hs fun b hb => hb
    have z0 : ¬ wv (W7 ρ 14) 0 = 0 := fun hc => absurd (o1.mp (t0.2.2 (hc.trans k0.symm))) (by decide)
    have z1 : ¬ wv (W7 ρ 50) 0 = 0 := fun hc => absurd (o9.mp (t8.2.2 (hc.trans k0.symm))) (by decide)
    simp only [t2.2, t3.2, t4.2] at z0 z1
    refine ⟨⟨t16.1, t20.1, t21.1⟩, ?_⟩
    unfold moF
    simp only [if_neg z0]
    rw [if_neg (fun hc => z1 hc.1)]
    simp only [t2.2, t3.2, t4.2, t5.2, t6.2, t7.2, t10.2, t11.2, t12.2, t13.2, t14.2, t15.2, t16.2, t17.2, t18.2, t19.2, t20.2, t21.2]
def specO (f : FuncId) : Option (Fs) := match f with | 42 => some moreS.spec | f => specN f
theorem specO_ok (h : FW X) : ∀ f sp, specO f = some sp -> FnOK Tryz.prog f /\ SpecOK Tryz.prog X f sp := fun f sp hs => by
  unfold specO at hs
  split at hs
  · simp only [Option.some.injEq] at hs; subst hs
    exact ⟨fn_ok Tryz.func42 (by kernel_rfl) (by kernel_rfl), more_ok h⟩
  · exact specN_ok h _ _ hs
def EO : Env := mkEnv Tryz.prog tyTree fnTree ext0 specO
theorem EO_ok (h : FW X) : EnvOK Tryz.prog X EO := mkEnv_ok mixed_ok tys_ok fns_ok names_ok ext0_ok (specO_ok h)
end Go.Proofs.YtmogojlijkddpaaGreat
namespace Go.Vm
def W28 (ρ : Nat -> Int) (i : Nat) : List Int := (List.range 28).map fun j => ρ (i + j)
theorem W28_get (ρ : Nat -> Int) (i m : Nat) (h : m < 28) : (W28 ρ i)[m]? = some (ρ (i + m)) := by
  unfold W28
  rw [List.getElem?_map, List.getElem?_range h]
  rfl
theorem nth_get : ∀ (l : List Int) (i : Nat) (h : i < l.length), nth l i = l[i]
  | _ :: _, 0, _ => rfl
  | _ :: l, i + 1, h => nth_get l i (Nat.lt_of_succ_lt_succ h)
theorem of28 {l : List Int} (h : l.length = 28) : ∃ ρ, l = W28 ρ 0 := ⟨fun i => nth l i, by
  refine List.ext_getElem (by simp [W28, h]) fun i h1 h2 => ?_
  simp [W28, nth_get l i h1]⟩
section
variable {X : Tk} {L : Look} {ρ : Nat -> Int}
theorem bytes_of (h : FW X) {a b c p q d e f ks : List Int} {i : Int} (ha : a.length = 7) (hb : b.length = 7) (hc : c.length = 7) (hp : p.length = 7) (hq : q.length = 7) (hk : ks.length = 28) (hd : d.length = 7) (he : e.length = 7) (hf : f.length = 7) (t : X 45 (a ++ b ++ c ++ p ++ q ++ [i] ++ ks ++ d ++ e ++ f)) :
    (wok d 0 /\ wok e 0 /\ wok f 0) /\ (⟨wv d 0, wv e 0, wv f 0⟩ : Tri) = bytesF (wv p 0) (wv q 0) (ks.drop i.toNat) ⟨wv a 0, wv b 0, wv c 0⟩ := by
  obtain ⟨ρ, rfl⟩ := of7 ha
  obtain ⟨σ, rfl⟩ := of7 hb
  obtain ⟨τ, rfl⟩ := of7 hc
  obtain ⟨ρ1, rfl⟩ := of7 hp
  obtain ⟨σ1, rfl⟩ := of7 hq
  obtain ⟨κ, rfl⟩ := of28 hk
  obtain ⟨ρ', rfl⟩ := of7 hd
  obtain ⟨σ', rfl⟩ := of7 he
  obtain ⟨τ', rfl⟩ := of7 hf
  exact Eq.mp (by kernel_rfl) ((h.bytes _).1 t)
theorem bytes_end {a b : Int} {l : List Int} {i : Int} (h : l.length <= i.toNat) (t : Tri) : t = bytesF a b (l.drop i.toNat) t := by
  rw [List.drop_eq_nil_of_le h]; rfl
end
end Go.Vm
namespace Go.Proofs.YtmogojlijkddpaaGreat
open Go.Vm
variable {X : Tk}
def mbB : List (Nat × Int × Int) := bW 35 ++ [(35, (0, 255)), (36, (0, 7))]
def mbB0 : List (Nat × Int × Int) := bW 35 ++ [(36, (-1, 7))]
def mulBitDs : List RoundD :=
  [.go (vars 21 14 ++ vars 87 7 ++ vars 21 15 ++ [.var 94] ++ vars 37 29) ⟨[], mbB, [.test (.cmp .geq (.var 36) (.const 0)) true,
    .ext 42 (vars 0 21 ++ vars 66 21),
    .test (.cmp .eql (.bin .and .u8 (.bin .shr .u8 (.var 35) (.var 36)) (.const 1)) (.const 1)) true,
    .ext 43 (vars 66 21 ++ vars 21 14 ++ vars 21 14 ++ vars 87 7),
    .eq 94 (.sub (.var 36) (.const 1))], []⟩ [(1, ⟨vars 87 7, mbB, [.test (.cmp .geq (.var 36) (.const 0)) true,
    .ext 42 (vars 0 21 ++ vars 66 21),
    .test (.cmp .eql (.bin .and .u8 (.bin .shr .u8 (.var 35) (.var 36)) (.const 1)) (.const 1)) true,
    .ext 43 (vars 66 21 ++ vars 21 14 ++ vars 21 14 ++ vars 87 7),
    .eq 94 (.sub (.var 36) (.const 1)),
    .ext 44 (vars 21 14 ++ vars 87 7 ++ vars 21 15 ++ [.var 94] ++ vars 21 14 ++ vars 87 7)], []⟩),
    (1, ⟨vars 95 7, mbB, [.test (.cmp .geq (.var 36) (.const 0)) true,
    .ext 42 (vars 0 21 ++ vars 66 21),
    .test (.cmp .eql (.bin .and .u8 (.bin .shr .u8 (.var 35) (.var 36)) (.const 1)) (.const 1)) true,
    .ext 43 (vars 66 21 ++ vars 21 14 ++ vars 21 14 ++ vars 87 7),
    .eq 94 (.sub (.var 36) (.const 1)),
    .ext 44 (vars 21 14 ++ vars 87 7 ++ vars 21 15 ++ [.var 94] ++ vars 21 14 ++ vars 95 7)], []⟩),
    (2, ⟨vars 95 21, mbB, [.test (.cmp .geq (.var 36) (.const 0)) true,
    .ext 42 (vars 0 21 ++ vars 66 21),
    .test (.cmp .eql (.bin .and .u8 (.bin .shr .u8 (.var 35) (.var 36)) (.const 1)) (.const 1)) true,
    .ext 43 (vars 66 21 ++ vars 21 14 ++ vars 21 14 ++ vars 87 7),
    .eq 94 (.sub (.var 36) (.const 1)),
    .ext 44 (vars 21 14 ++ vars 87 7 ++ vars 21 15 ++ vars 94 22)], []⟩)],
   .go (vars 87 21 ++ vars 21 15 ++ [.var 108] ++ vars 37 29) ⟨[], mbB, [.test (.cmp .geq (.var 36) (.const 0)) true,
    .ext 42 (vars 0 21 ++ vars 66 21),
    .test (.cmp .eql (.bin .and .u8 (.bin .shr .u8 (.var 35) (.var 36)) (.const 1)) (.const 1)) true,
    .ext 43 (vars 66 21 ++ vars 21 14 ++ vars 87 21),
    .eq 108 (.sub (.var 36) (.const 1))], []⟩ [(2, ⟨vars 87 21, mbB, [.test (.cmp .geq (.var 36) (.const 0)) true,
    .ext 42 (vars 0 21 ++ vars 66 21),
    .test (.cmp .eql (.bin .and .u8 (.bin .shr .u8 (.var 35) (.var 36)) (.const 1)) (.const 1)) true,
    .ext 43 (vars 66 21 ++ vars 21 14 ++ vars 87 21),
    .eq 108 (.sub (.var 36) (.const 1)),
    .ext 44 (vars 87 21 ++ vars 21 15 ++ [.var 108] ++ vars 87 21)], []⟩),
    (1, ⟨vars 109 7, mbB, [.test (.cmp .geq (.var 36) (.const 0)) true,
    .ext 42 (vars 0 21 ++ vars 66 21),
    .test (.cmp .eql (.bin .and .u8 (.bin .shr .u8 (.var 35) (.var 36)) (.const 1)) (.const 1)) true,
    .ext 43 (vars 66 21 ++ vars 21 14 ++ vars 87 21),
    .eq 108 (.sub (.var 36) (.const 1)),
    .ext 44 (vars 87 21 ++ vars 21 15 ++ [.var 108] ++ vars 21 14 ++ vars 109 7)], []⟩),
    (2, ⟨vars 109 21, mbB, [.test (.cmp .geq (.var 36) (.const 0)) true,
    .ext 42 (vars 0 21 ++ vars 66 21),
    .test (.cmp .eql (.bin .and .u8 (.bin .shr .u8 (.var 35) (.var 36)) (.const 1)) (.const 1)) true,
    .ext 43 (vars 66 21 ++ vars 21 14 ++ vars 87 21),
    .eq 108 (.sub (.var 36) (.const 1)),
    .ext 44 (vars 87 21 ++ vars 21 15 ++ vars 108 22)], []⟩)],
   .go (vars 66 21 ++ vars 21 15 ++ [.var 87] ++ vars 37 29) ⟨[], mbB, [.test (.cmp .geq (.var 36) (.const 0)) true,
    .ext 42 (vars 0 21 ++ vars 66 21),
    .test (.cmp .eql (.bin .and .u8 (.bin .shr .u8 (.var 35) (.var 36)) (.const 1)) (.const 1)) false,
    .eq 87 (.sub (.var 36) (.const 1))], []⟩ [(2, ⟨vars 66 21, mbB, [.test (.cmp .geq (.var 36) (.const 0)) true,
    .ext 42 (vars 0 21 ++ vars 66 21),
    .test (.cmp .eql (.bin .and .u8 (.bin .shr .u8 (.var 35) (.var 36)) (.const 1)) (.const 1)) false,
    .eq 87 (.sub (.var 36) (.const 1)),
    .ext 44 (vars 66 21 ++ vars 21 15 ++ [.var 87] ++ vars 66 21)], []⟩),
    (1, ⟨vars 88 7, mbB, [.test (.cmp .geq (.var 36) (.const 0)) true,
    .ext 42 (vars 0 21 ++ vars 66 21),
    .test (.cmp .eql (.bin .and .u8 (.bin .shr .u8 (.var 35) (.var 36)) (.const 1)) (.const 1)) false,
    .eq 87 (.sub (.var 36) (.const 1)),
    .ext 44 (vars 66 21 ++ vars 21 15 ++ [.var 87] ++ vars 21 14 ++ vars 88 7)], []⟩),
    (2, ⟨vars 88 21, mbB, [.test (.cmp .geq (.var 36) (.const 0)) true,
    .ext 42 (vars 0 21 ++ vars 66 21),
    .test (.cmp .eql (.bin .and .u8 (.bin .shr .u8 (.var 35) (.var 36)) (.const 1)) (.const 1)) false,
    .eq 87 (.sub (.var 36) (.const 1)),
    .ext 44 (vars 66 21 ++ vars 21 15 ++ vars 87 22)], []⟩)],
   .stop 0 ⟨[], mbB0, [.test (.cmp .geq (.var 36) (.const 0)) false], []⟩]
theorem mulBit_chk : chkLoop (exec EO 3000 (fun _ => none) (loopIn Tryz.f21 2) mulBit.start) mulBit mulBitDs = true := by kernel_rfl
def mulBitM (ρ : Nat -> Int) : Nat := (ρ 36 + 1).toNat
theorem mulBit_ok (h : FW X) : LoopSp Tryz.prog X (loopIn Tryz.f21 2) mulBit.spec := by
  refine loop_by (EO_ok h) (BOK_none _) mulBit_chk mulBitM (fun ρ ρ' hh => ?_) fun d hd => ?_
  · have hnv : mulBit.core.nv = 66 := rfl
    rw [hnv] at hh
    unfold mulBitM
    rw [hh 36 (by decide)]
  simp only [mulBitDs, List.mem_cons, List.not_mem_nil, or_false] at hd
  rcases hd with rfl | rfl | rfl | rfl
  · refine ⟨fun ρ hs => ?_, fun d hd => ?_⟩
    · have te := eqAt hs 4 (d := 94) (e := .sub (.var 36) (.const 1)) rfl
      have hi := hs.bds (36, (0, 7)) (List.mem_append_right _ (by simp))
      simp only [IE.eval] at te hi
      show (ρ 94 + 1).toNat < (ρ 36 + 1).toNat
      omega
    · simp only [List.mem_cons, List.not_mem_nil, or_false] at hd
      rcases hd with rfl | rfl | rfl
      · refine endP_of _ 44 _ rfl rfl (fun ρ => (W7 ρ 0) ++ (W7 ρ 7) ++ (W7 ρ 14) ++ (W7 ρ 21) ++ (W7 ρ 28) ++ [ρ 35, ρ 36] ++ (W7 ρ 21) ++ (W7 ρ 28) ++ (W7 ρ 87)) (fun ρ => by kernel_rfl) fun ρ hs => (h.bits _).2 ?_
        have hk := hs.bds (35, (0, 255)) (List.mem_append_right _ (by simp))
        have hi := hs.bds (36, (0, 7)) (List.mem_append_right _ (by simp))
        have o0 := testAt hs 0 (e := .cmp .geq (.var 36) (.const 0)) (b := true) rfl
        have t1 := twice_of h (a := (W7 ρ 0)) (b := (W7 ρ 7)) (c := (W7 ρ 14)) (d := (W7 ρ 66)) (e := (W7 ρ 73)) (f := (W7 ρ 80)) rfl rfl rfl rfl rfl rfl (tokAt hs 1 (by kernel_rfl))
        have o2 := testAt hs 2 (e := .cmp .eql (.bin .and .u8 (.bin .shr .u8 (.var 35) (.var 36)) (.const 1)) (.const 1)) (b := true) rfl
        have t3 := more_of h (a := (W7 ρ 66)) (b := (W7 ρ 73)) (c := (W7 ρ 80)) (p := (W7 ρ 21)) (q := (W7 ρ 28)) (d := (W7 ρ 21)) (e := (W7 ρ 28)) (f := (W7 ρ 87)) rfl rfl rfl rfl rfl rfl rfl rfl (tokAt hs 3 (by kernel_rfl))
        have o4 := eqAt hs 4 (d := 94) (e := .sub (.var 36) (.const 1)) rfl
        have t5 := bits_of h (a := (W7 ρ 21)) (b := (W7 ρ 28)) (c := (W7 ρ 87)) (p := (W7 ρ 21)) (q := (W7 ρ 28)) (d := (W7 ρ 21)) (e := (W7 ρ 28)) (f := (W7 ρ 87)) (k := ρ 35) (i := ρ 94) rfl rfl rfl rfl rfl rfl rfl rfl (tokAt hs 5 (by kernel_rfl))
        have hb := (bit8 hk hi).symm.trans o2
        refine Eq.mp (by kernel_rfl : ((wok (W7 ρ 21) 0 /\ wok (W7 ρ 28) 0 /\ wok (W7 ρ 87) 0) /\ (⟨wv (W7 ρ 21) 0, wv (W7 ρ 28) 0, wv (W7 ρ 87) 0⟩ : Tri) = bitsF (wv (W7 ρ 21) 0) (wv (W7 ρ 28) 0) (ρ 35).toNat (ρ 36 + 1).toNat (⟨wv (W7 ρ 0) 0, wv (W7 ρ 7) 0, wv (W7 ρ 14) 0⟩ : Tri)) = _) ?_
        refine ⟨t5.1, bits_step hi.1 o4 hb ?_ t5.2⟩
        rw [t3.2, t1.2]; rfl
      · refine endP_of _ 44 _ rfl rfl (fun ρ => (W7 ρ 0) ++ (W7 ρ 7) ++ (W7 ρ 14) ++ (W7 ρ 21) ++ (W7 ρ 28) ++ [ρ 35, ρ 36] ++ (W7 ρ 21) ++ (W7 ρ 28) ++ (W7 ρ 95)) (fun ρ => by kernel_rfl) fun ρ hs => (h.bits _).2 ?_
        have hk := hs.bds (35, (0, 255)) (List.mem_append_right _ (by simp))
        have hi := hs.bds (36, (0, 7)) (List.mem_append_right _ (by simp))
        have o0 := testAt hs 0 (e := .cmp .geq (.var 36) (.const 0)) (b := true) rfl
        have t1 := twice_of h (a := (W7 ρ 0)) (b := (W7 ρ 7)) (c := (W7 ρ 14)) (d := (W7 ρ 66)) (e := (W7 ρ 73)) (f := (W7 ρ 80)) rfl rfl rfl rfl rfl rfl (tokAt hs 1 (by kernel_rfl))
        have o2 := testAt hs 2 (e := .cmp .eql (.bin .and .u8 (.bin .shr .u8 (.var 35) (.var 36)) (.const 1)) (.const 1)) (b := true) rfl
        have t3 := more_of h (a := (W7 ρ 66)) (b := (W7 ρ 73)) (c := (W7 ρ 80)) (p := (W7 ρ 21)) (q := (W7 ρ 28)) (d := (W7 ρ 21)) (e := (W7 ρ 28)) (f := (W7 ρ 87)) rfl rfl rfl rfl rfl rfl rfl rfl (tokAt hs 3 (by kernel_rfl))
        have o4 := eqAt hs 4 (d := 94) (e := .sub (.var 36) (.const 1)) rfl
        have t5 := bits_of h (a := (W7 ρ 21)) (b := (W7 ρ 28)) (c := (W7 ρ 87)) (p := (W7 ρ 21)) (q := (W7 ρ 28)) (d := (W7 ρ 21)) (e := (W7 ρ 28)) (f := (W7 ρ 95)) (k := ρ 35) (i := ρ 94) rfl rfl rfl rfl rfl rfl rfl rfl (tokAt hs 5 (by kernel_rfl))
        have hb := (bit8 hk hi).symm.trans o2
        refine Eq.mp (by kernel_rfl : ((wok (W7 ρ 21) 0 /\ wok (W7 ρ 28) 0 /\ wok (W7 ρ 95) 0) /\ (⟨wv (W7 ρ 21) 0, wv (W7 ρ 28) 0, wv (W7 ρ 95) 0⟩ : Tri) = bitsF (wv (W7 ρ 21) 0) (wv (W7 ρ 28) 0) (ρ 35).toNat (ρ 36 + 1).toNat (⟨wv (W7 ρ 0) 0, wv (W7 ρ 7) 0, wv (W7 ρ 14) 0⟩ : Tri)) = _) ?_
        refine ⟨t5.1, bits_step hi.1 o4 hb ?_ t5.2⟩
        rw [t3.2, t1.2]; rfl
      · refine endP_of _ 44 _ rfl rfl (fun ρ => (W7 ρ 0) ++ (W7 ρ 7) ++ (W7 ρ 14) ++ (W7 ρ 21) ++ (W7 ρ 28) ++ [ρ 35, ρ 36] ++ (W7 ρ 95) ++ (W7 ρ 102) ++ (W7 ρ 109)) (fun ρ => by kernel_rfl) fun ρ hs => (h.bits _).2 ?_
        have hk := hs.bds (35, (0, 255)) (List.mem_append_right _ (by simp))
        have hi := hs.bds (36, (0, 7)) (List.mem_append_right _ (by simp))
        have o0 := testAt hs 0 (e := .cmp .geq (.var 36) (.const 0)) (b := true) rfl
        have t1 := twice_of h (a := (W7 ρ 0)) (b := (W7 ρ 7)) (c := (W7 ρ 14)) (d := (W7 ρ 66)) (e := (W7 ρ 73)) (f := (W7 ρ 80)) rfl rfl rfl rfl rfl rfl (tokAt hs 1 (by kernel_rfl))
        have o2 := testAt hs 2 (e := .cmp .eql (.bin .and .u8 (.bin .shr .u8 (.var 35) (.var 36)) (.const 1)) (.const 1)) (b := true) rfl
        have t3 := more_of h (a := (W7 ρ 66)) (b := (W7 ρ 73)) (c := (W7 ρ 80)) (p := (W7 ρ 21)) (q := (W7 ρ 28)) (d := (W7 ρ 21)) (e := (W7 ρ 28)) (f := (W7 ρ 87)) rfl rfl rfl rfl rfl rfl rfl rfl (tokAt hs 3 (by kernel_rfl))
        have o4 := eqAt hs 4 (d := 94) (e := .sub (.var 36) (.const 1)) rfl
        have t5 := bits_of h (a := (W7 ρ 21)) (b := (W7 ρ 28)) (c := (W7 ρ 87)) (p := (W7 ρ 21)) (q := (W7 ρ 28)) (d := (W7 ρ 95)) (e := (W7 ρ 102)) (f := (W7 ρ 109)) (k := ρ 35) (i := ρ 94) rfl rfl rfl rfl rfl rfl rfl rfl (tokAt hs 5 (by kernel_rfl))
        have hb := (bit8 hk hi).symm.trans o2
        refine Eq.mp (by kernel_rfl : ((wok (W7 ρ 95) 0 /\ wok (W7 ρ 102) 0 /\ wok (W7 ρ 109) 0) /\ (⟨wv (W7 ρ 95) 0, wv (W7 ρ 102) 0, wv (W7 ρ 109) 0⟩ : Tri) = bitsF (wv (W7 ρ 21) 0) (wv (W7 ρ 28) 0) (ρ 35).toNat (ρ 36 + 1).toNat (⟨wv (W7 ρ 0) 0, wv (W7 ρ 7) 0, wv (W7 ρ 14) 0⟩ : Tri)) = _) ?_
        refine ⟨t5.1, bits_step hi.1 o4 hb ?_ t5.2⟩
        rw [t3.2, t1.2]; rfl
  · refine ⟨fun ρ hs => ?_, fun d hd => ?_⟩
    · have te := eqAt hs 4 (d := 108) (e := .sub (.var 36) (.const 1)) rfl
      have hi := hs.bds (36, (0, 7)) (List.mem_append_right _ (by simp))
      simp only [IE.eval] at te hi
      show (ρ 108 + 1).toNat < (ρ 36 + 1).toNat
      omega
    · simp only [List.mem_cons, List.not_mem_nil, or_false] at hd
      rcases hd with rfl | rfl | rfl
      · refine endP_of _ 44 _ rfl rfl (fun ρ => (W7 ρ 0) ++ (W7 ρ 7) ++ (W7 ρ 14) ++ (W7 ρ 21) ++ (W7 ρ 28) ++ [ρ 35, ρ 36] ++ (W7 ρ 87) ++ (W7 ρ 94) ++ (W7 ρ 101)) (fun ρ => by kernel_rfl) fun ρ hs => (h.bits _).2 ?_
        have hk := hs.bds (35, (0, 255)) (List.mem_append_right _ (by simp))
        have hi := hs.bds (36, (0, 7)) (List.mem_append_right _ (by simp))
        have o0 := testAt hs 0 (e := .cmp .geq (.var 36) (.const 0)) (b := true) rfl
        have t1 := twice_of h (a := (W7 ρ 0)) (b := (W7 ρ 7)) (c := (W7 ρ 14)) (d := (W7 ρ 66)) (e := (W7 ρ 73)) (f := (W7 ρ 80)) rfl rfl rfl rfl rfl rfl (tokAt hs 1 (by kernel_rfl))
        have o2 := testAt hs 2 (e := .cmp .eql (.bin .and .u8 (.bin .shr .u8 (.var 35) (.var 36)) (.const 1)) (.const 1)) (b := true) rfl
        have t3 := more_of h (a := (W7 ρ 66)) (b := (W7 ρ 73)) (c := (W7 ρ 80)) (p := (W7 ρ 21)) (q := (W7 ρ 28)) (d := (W7 ρ 87)) (e := (W7 ρ 94)) (f := (W7 ρ 101)) rfl rfl rfl rfl rfl rfl rfl rfl (tokAt hs 3 (by kernel_rfl))
        have o4 := eqAt hs 4 (d := 108) (e := .sub (.var 36) (.const 1)) rfl
        have t5 := bits_of h (a := (W7 ρ 87)) (b := (W7 ρ 94)) (c := (W7 ρ 101)) (p := (W7 ρ 21)) (q := (W7 ρ 28)) (d := (W7 ρ 87)) (e := (W7 ρ 94)) (f := (W7 ρ 101)) (k := ρ 35) (i := ρ 108) rfl rfl rfl rfl rfl rfl rfl rfl (tokAt hs 5 (by kernel_rfl))
        have hb := (bit8 hk hi).symm.trans o2
        refine Eq.mp (by kernel_rfl : ((wok (W7 ρ 87) 0 /\ wok (W7 ρ 94) 0 /\ wok (W7 ρ 101) 0) /\ (⟨wv (W7 ρ 87) 0, wv (W7 ρ 94) 0, wv (W7 ρ 101) 0⟩ : Tri) = bitsF (wv (W7 ρ 21) 0) (wv (W7 ρ 28) 0) (ρ 35).toNat (ρ 36 + 1).toNat (⟨wv (W7 ρ 0) 0, wv (W7 ρ 7) 0, wv (W7 ρ 14) 0⟩ : Tri)) = _) ?_
        refine ⟨t5.1, bits_step hi.1 o4 hb ?_ t5.2⟩
        rw [t3.2, t1.2]; rfl
      · refine endP_of _ 44 _ rfl rfl (fun ρ => (W7 ρ 0) ++ (W7 ρ 7) ++ (W7 ρ 14) ++ (W7 ρ 21) ++ (W7 ρ 28) ++ [ρ 35, ρ 36] ++ (W7 ρ 21) ++ (W7 ρ 28) ++ (W7 ρ 109)) (fun ρ => by kernel_rfl) fun ρ hs => (h.bits _).2 ?_
        have hk := hs.bds (35, (0, 255)) (List.mem_append_right _ (by simp))
        have hi := hs.bds (36, (0, 7)) (List.mem_append_right _ (by simp))
        have o0 := testAt hs 0 (e := .cmp .geq (.var 36) (.const 0)) (b := true) rfl
        have t1 := twice_of h (a := (W7 ρ 0)) (b := (W7 ρ 7)) (c := (W7 ρ 14)) (d := (W7 ρ 66)) (e := (W7 ρ 73)) (f := (W7 ρ 80)) rfl rfl rfl rfl rfl rfl (tokAt hs 1 (by kernel_rfl))
        have o2 := testAt hs 2 (e := .cmp .eql (.bin .and .u8 (.bin .shr .u8 (.var 35) (.var 36)) (.const 1)) (.const 1)) (b := true) rfl
        have t3 := more_of h (a := (W7 ρ 66)) (b := (W7 ρ 73)) (c := (W7 ρ 80)) (p := (W7 ρ 21)) (q := (W7 ρ 28)) (d := (W7 ρ 87)) (e := (W7 ρ 94)) (f := (W7 ρ 101)) rfl rfl rfl rfl rfl rfl rfl rfl (tokAt hs 3 (by kernel_rfl))
        have o4 := eqAt hs 4 (d := 108) (e := .sub (.var 36) (.const 1)) rfl
        have t5 := bits_of h (a := (W7 ρ 87)) (b := (W7 ρ 94)) (c := (W7 ρ 101)) (p := (W7 ρ 21)) (q := (W7 ρ 28)) (d := (W7 ρ 21)) (e := (W7 ρ 28)) (f := (W7 ρ 109)) (k := ρ 35) (i := ρ 108) rfl rfl rfl rfl rfl rfl rfl rfl (tokAt hs 5 (by kernel_rfl))
        have hb := (bit8 hk hi).symm.trans o2
        refine Eq.mp (by kernel_rfl : ((wok (W7 ρ 21) 0 /\ wok (W7 ρ 28) 0 /\ wok (W7 ρ 109) 0) /\ (⟨wv (W7 ρ 21) 0, wv (W7 ρ 28) 0, wv (W7 ρ 109) 0⟩ : Tri) = bitsF (wv (W7 ρ 21) 0) (wv (W7 ρ 28) 0) (ρ 35).toNat (ρ 36 + 1).toNat (⟨wv (W7 ρ 0) 0, wv (W7 ρ 7) 0, wv (W7 ρ 14) 0⟩ : Tri)) = _) ?_
        refine ⟨t5.1, bits_step hi.1 o4 hb ?_ t5.2⟩
        rw [t3.2, t1.2]; rfl
      · refine endP_of _ 44 _ rfl rfl (fun ρ => (W7 ρ 0) ++ (W7 ρ 7) ++ (W7 ρ 14) ++ (W7 ρ 21) ++ (W7 ρ 28) ++ [ρ 35, ρ 36] ++ (W7 ρ 109) ++ (W7 ρ 116) ++ (W7 ρ 123)) (fun ρ => by kernel_rfl) fun ρ hs => (h.bits _).2 ?_
        have hk := hs.bds (35, (0, 255)) (List.mem_append_right _ (by simp))
        have hi := hs.bds (36, (0, 7)) (List.mem_append_right _ (by simp))
        have o0 := testAt hs 0 (e := .cmp .geq (.var 36) (.const 0)) (b := true) rfl
        have t1 := twice_of h (a := (W7 ρ 0)) (b := (W7 ρ 7)) (c := (W7 ρ 14)) (d := (W7 ρ 66)) (e := (W7 ρ 73)) (f := (W7 ρ 80)) rfl rfl rfl rfl rfl rfl (tokAt hs 1 (by kernel_rfl))
        have o2 := testAt hs 2 (e := .cmp .eql (.bin .and .u8 (.bin .shr .u8 (.var 35) (.var 36)) (.const 1)) (.const 1)) (b := true) rfl
        have t3 := more_of h (a := (W7 ρ 66)) (b := (W7 ρ 73)) (c := (W7 ρ 80)) (p := (W7 ρ 21)) (q := (W7 ρ 28)) (d := (W7 ρ 87)) (e := (W7 ρ 94)) (f := (W7 ρ 101)) rfl rfl rfl rfl rfl rfl rfl rfl (tokAt hs 3 (by kernel_rfl))
        have o4 := eqAt hs 4 (d := 108) (e := .sub (.var 36) (.const 1)) rfl
        have t5 := bits_of h (a := (W7 ρ 87)) (b := (W7 ρ 94)) (c := (W7 ρ 101)) (p := (W7 ρ 21)) (q := (W7 ρ 28)) (d := (W7 ρ 109)) (e := (W7 ρ 116)) (f := (W7 ρ 123)) (k := ρ 35) (i := ρ 108) rfl rfl rfl rfl rfl rfl rfl rfl (tokAt hs 5 (by kernel_rfl))
        have hb := (bit8 hk hi).symm.trans o2
        refine Eq.mp (by kernel_rfl : ((wok (W7 ρ 109) 0 /\ wok (W7 ρ 116) 0 /\ wok (W7 ρ 123) 0) /\ (⟨wv (W7 ρ 109) 0, wv (W7 ρ 116) 0, wv (W7 ρ 123) 0⟩ : Tri) = bitsF (wv (W7 ρ 21) 0) (wv (W7 ρ 28) 0) (ρ 35).toNat (ρ 36 + 1).toNat (⟨wv (W7 ρ 0) 0, wv (W7 ρ 7) 0, wv (W7 ρ 14) 0⟩ : Tri)) = _) ?_
        refine ⟨t5.1, bits_step hi.1 o4 hb ?_ t5.2⟩
        rw [t3.2, t1.2]; rfl
  · refine ⟨fun ρ hs => ?_, fun d hd => ?_⟩
    · have te := eqAt hs 3 (d := 87) (e := .sub (.var 36) (.const 1)) rfl
      have hi := hs.bds (36, (0, 7)) (List.mem_append_right _ (by simp))
      simp only [IE.eval] at te hi
      show (ρ 87 + 1).toNat < (ρ 36 + 1).toNat
      omega
    · simp only [List.mem_cons, List.not_mem_nil, or_false] at hd
      rcases hd with rfl | rfl | rfl
      · refine endP_of _ 44 _ rfl rfl (fun ρ => (W7 ρ 0) ++ (W7 ρ 7) ++ (W7 ρ 14) ++ (W7 ρ 21) ++ (W7 ρ 28) ++ [ρ 35, ρ 36] ++ (W7 ρ 66) ++ (W7 ρ 73) ++ (W7 ρ 80)) (fun ρ => by kernel_rfl) fun ρ hs => (h.bits _).2 ?_
        have hk := hs.bds (35, (0, 255)) (List.mem_append_right _ (by simp))
        have hi := hs.bds (36, (0, 7)) (List.mem_append_right _ (by simp))
        have o0 := testAt hs 0 (e := .cmp .geq (.var 36) (.const 0)) (b := true) rfl
        have t1 := twice_of h (a := (W7 ρ 0)) (b := (W7 ρ 7)) (c := (W7 ρ 14)) (d := (W7 ρ 66)) (e := (W7 ρ 73)) (f := (W7 ρ 80)) rfl rfl rfl rfl rfl rfl (tokAt hs 1 (by kernel_rfl))
        have o2 := testAt hs 2 (e := .cmp .eql (.bin .and .u8 (.bin .shr .u8 (.var 35) (.var 36)) (.const 1)) (.const 1)) (b := false) rfl
        have o3 := eqAt hs 3 (d := 87) (e := .sub (.var 36) (.const 1)) rfl
        have t4 := bits_of h (a := (W7 ρ 66)) (b := (W7 ρ 73)) (c := (W7 ρ 80)) (p := (W7 ρ 21)) (q := (W7 ρ 28)) (d := (W7 ρ 66)) (e := (W7 ρ 73)) (f := (W7 ρ 80)) (k := ρ 35) (i := ρ 87) rfl rfl rfl rfl rfl rfl rfl rfl (tokAt hs 4 (by kernel_rfl))
        have hb := (bit8 hk hi).symm.trans o2
        refine Eq.mp (by kernel_rfl : ((wok (W7 ρ 66) 0 /\ wok (W7 ρ 73) 0 /\ wok (W7 ρ 80) 0) /\ (⟨wv (W7 ρ 66) 0, wv (W7 ρ 73) 0, wv (W7 ρ 80) 0⟩ : Tri) = bitsF (wv (W7 ρ 21) 0) (wv (W7 ρ 28) 0) (ρ 35).toNat (ρ 36 + 1).toNat (⟨wv (W7 ρ 0) 0, wv (W7 ρ 7) 0, wv (W7 ρ 14) 0⟩ : Tri)) = _) ?_
        refine ⟨t4.1, bits_step hi.1 o3 hb ?_ t4.2⟩
        rw [t1.2]; rfl
      · refine endP_of _ 44 _ rfl rfl (fun ρ => (W7 ρ 0) ++ (W7 ρ 7) ++ (W7 ρ 14) ++ (W7 ρ 21) ++ (W7 ρ 28) ++ [ρ 35, ρ 36] ++ (W7 ρ 21) ++ (W7 ρ 28) ++ (W7 ρ 88)) (fun ρ => by kernel_rfl) fun ρ hs => (h.bits _).2 ?_
        have hk := hs.bds (35, (0, 255)) (List.mem_append_right _ (by simp))
        have hi := hs.bds (36, (0, 7)) (List.mem_append_right _ (by simp))
        have o0 := testAt hs 0 (e := .cmp .geq (.var 36) (.const 0)) (b := true) rfl
        have t1 := twice_of h (a := (W7 ρ 0)) (b := (W7 ρ 7)) (c := (W7 ρ 14)) (d := (W7 ρ 66)) (e := (W7 ρ 73)) (f := (W7 ρ 80)) rfl rfl rfl rfl rfl rfl (tokAt hs 1 (by kernel_rfl))
        have o2 := testAt hs 2 (e := .cmp .eql (.bin .and .u8 (.bin .shr .u8 (.var 35) (.var 36)) (.const 1)) (.const 1)) (b := false) rfl
        have o3 := eqAt hs 3 (d := 87) (e := .sub (.var 36) (.const 1)) rfl
        have t4 := bits_of h (a := (W7 ρ 66)) (b := (W7 ρ 73)) (c := (W7 ρ 80)) (p := (W7 ρ 21)) (q := (W7 ρ 28)) (d := (W7 ρ 21)) (e := (W7 ρ 28)) (f := (W7 ρ 88)) (k := ρ 35) (i := ρ 87) rfl rfl rfl rfl rfl rfl rfl rfl (tokAt hs 4 (by kernel_rfl))
        have hb := (bit8 hk hi).symm.trans o2
        refine Eq.mp (by kernel_rfl : ((wok (W7 ρ 21) 0 /\ wok (W7 ρ 28) 0 /\ wok (W7 ρ 88) 0) /\ (⟨wv (W7 ρ 21) 0, wv (W7 ρ 28) 0, wv (W7 ρ 88) 0⟩ : Tri) = bitsF (wv (W7 ρ 21) 0) (wv (W7 ρ 28) 0) (ρ 35).toNat (ρ 36 + 1).toNat (⟨wv (W7 ρ 0) 0, wv (W7 ρ 7) 0, wv (W7 ρ 14) 0⟩ : Tri)) = _) ?_
        refine ⟨t4.1, bits_step hi.1 o3 hb ?_ t4.2⟩
        rw [t1.2]; rfl
      · refine endP_of _ 44 _ rfl rfl (fun ρ => (W7 ρ 0) ++ (W7 ρ 7) ++ (W7 ρ 14) ++ (W7 ρ 21) ++ (W7 ρ 28) ++ [ρ 35, ρ 36] ++ (W7 ρ 88) ++ (W7 ρ 95) ++ (W7 ρ 102)) (fun ρ => by kernel_rfl) fun ρ hs => (h.bits _).2 ?_
        have hk := hs.bds (35, (0, 255)) (List.mem_append_right _ (by simp))
        have hi := hs.bds (36, (0, 7)) (List.mem_append_right _ (by simp))
        have o0 := testAt hs 0 (e := .cmp .geq (.var 36) (.const 0)) (b := true) rfl
        have t1 := twice_of h (a := (W7 ρ 0)) (b := (W7 ρ 7)) (c := (W7 ρ 14)) (d := (W7 ρ 66)) (e := (W7 ρ 73)) (f := (W7 ρ 80)) rfl rfl rfl rfl rfl rfl (tokAt hs 1 (by kernel_rfl))
        have o2 := testAt hs 2 (e := .cmp .eql (.bin .and .u8 (.bin .shr .u8 (.var 35) (.var 36)) (.const 1)) (.const 1)) (b := false) rfl
        have o3 := eqAt hs 3 (d := 87) (e := .sub (.var 36) (.const 1)) rfl
        have t4 := bits_of h (a := (W7 ρ 66)) (b := (W7 ρ 73)) (c := (W7 ρ 80)) (p := (W7 ρ 21)) (q := (W7 ρ 28)) (d := (W7 ρ 88)) (e := (W7 ρ 95)) (f := (W7 ρ 102)) (k := ρ 35) (i := ρ 87) rfl rfl rfl rfl rfl rfl rfl rfl (tokAt hs 4 (by kernel_rfl))
        have hb := (bit8 hk hi).symm.trans o2
        refine Eq.mp (by kernel_rfl : ((wok (W7 ρ 88) 0 /\ wok (W7 ρ 95) 0 /\ wok (W7 ρ 102) 0) /\ (⟨wv (W7 ρ 88) 0, wv (W7 ρ 95) 0, wv (W7 ρ 102) 0⟩ : Tri) = bitsF (wv (W7 ρ 21) 0) (wv (W7 ρ 28) 0) (ρ 35).toNat (ρ 36 + 1).toNat (⟨wv (W7 ρ 0) 0, wv (W7 ρ 7) 0, wv (W7 ρ 14) 0⟩ : Tri)) = _) ?_
        refine ⟨t4.1, bits_step hi.1 o3 hb ?_ t4.2⟩
        rw [t1.2]; rfl
  · refine endP_of _ 44 _ rfl rfl (fun ρ => (W7 ρ 0) ++ (W7 ρ 7) ++ (W7 ρ 14) ++ (W7 ρ 21) ++ (W7 ρ 28) ++ [ρ 35, ρ 36] ++ (W7 ρ 0) ++ (W7 ρ 7) ++ (W7 ρ 14)) (fun ρ => by kernel_rfl) fun ρ hs => (h.bits _).2 ?_
    have hw := bW_spec (n := 35) hs fun b hb => List.mem_append_left _ hb
    have hi := hs.bds (36, (-1, 7)) (List.mem_append_right _ (by simp))
    have ht := testAt hs 0 (e := .cmp .geq (.var 36) (.const 0)) (b := false) rfl
    simp only [BE.eval, IE.eval, intCmp, ge_iff_le, decide_eq_false_iff_not] at ht hi
    have e0 : (ρ 36 + 1).toNat = 0 := by omega
    refine Eq.mp (by kernel_rfl : ((wok (W7 ρ 0) 0 /\ wok (W7 ρ 7) 0 /\ wok (W7 ρ 14) 0) /\ (⟨wv (W7 ρ 0) 0, wv (W7 ρ 7) 0, wv (W7 ρ 14) 0⟩ : Tri) = bitsF (wv (W7 ρ 21) 0) (wv (W7 ρ 28) 0) (ρ 35).toNat (ρ 36 + 1).toNat (⟨wv (W7 ρ 0) 0, wv (W7 ρ 7) 0, wv (W7 ρ 14) 0⟩ : Tri)) = _) ?_
    rw [e0]
    exact ⟨⟨wok_W7 hw 0 (by decide), wok_W7 hw 7 (by decide), wok_W7 hw 14 (by decide)⟩, rfl⟩
def myB : List (Nat × Int × Int) := bW 35 ++ [(35, (0, 27))]
def myB0 : List (Nat × Int × Int) := bW 35 ++ [(35, (0, 28))]
def mulByteDs : List RoundD :=
  [.go (vars 0 35 ++ [.add (.var 35) (.const 1)] ++ vars 36 28) ⟨[], myB, [.test (.cmp .lss (.var 35) (.const 28)) true,
    .eq 64 (pickE 35 36 0 27),
    .ext 44 (vars 0 35 ++ [.var 64, .const 7] ++ vars 0 21)], []⟩ [(0, ⟨[], myB, [.test (.cmp .lss (.var 35) (.const 28)) true,
    .eq 64 (pickE 35 36 0 27),
    .ext 44 (vars 0 35 ++ [.var 64, .const 7] ++ vars 0 21),
    .ext 45 (vars 0 35 ++ [.add (.var 35) (.const 1)] ++ vars 36 28 ++ vars 0 21)], []⟩),
    (1, ⟨vars 65 7, myB, [.test (.cmp .lss (.var 35) (.const 28)) true,
    .eq 64 (pickE 35 36 0 27),
    .ext 44 (vars 0 35 ++ [.var 64, .const 7] ++ vars 0 21),
    .ext 45 (vars 0 35 ++ [.add (.var 35) (.const 1)] ++ vars 36 28 ++ vars 21 14 ++ vars 65 7)], []⟩),
    (2, ⟨vars 65 21, myB, [.test (.cmp .lss (.var 35) (.const 28)) true,
    .eq 64 (pickE 35 36 0 27),
    .ext 44 (vars 0 35 ++ [.var 64, .const 7] ++ vars 0 21),
    .ext 45 (vars 0 35 ++ [.add (.var 35) (.const 1)] ++ vars 36 28 ++ vars 65 21)], []⟩)],
   .go (vars 21 14 ++ vars 65 7 ++ vars 21 14 ++ [.add (.var 35) (.const 1)] ++ vars 36 28) ⟨[], myB, [.test (.cmp .lss (.var 35) (.const 28)) true,
    .eq 64 (pickE 35 36 0 27),
    .ext 44 (vars 0 35 ++ [.var 64, .const 7] ++ vars 21 14 ++ vars 65 7)], []⟩ [(1, ⟨vars 65 7, myB, [.test (.cmp .lss (.var 35) (.const 28)) true,
    .eq 64 (pickE 35 36 0 27),
    .ext 44 (vars 0 35 ++ [.var 64, .const 7] ++ vars 21 14 ++ vars 65 7),
    .ext 45 (vars 21 14 ++ vars 65 7 ++ vars 21 14 ++ [.add (.var 35) (.const 1)] ++ vars 36 28 ++ vars 21 14 ++ vars 65 7)], []⟩),
    (1, ⟨vars 72 7, myB, [.test (.cmp .lss (.var 35) (.const 28)) true,
    .eq 64 (pickE 35 36 0 27),
    .ext 44 (vars 0 35 ++ [.var 64, .const 7] ++ vars 21 14 ++ vars 65 7),
    .ext 45 (vars 21 14 ++ vars 65 7 ++ vars 21 14 ++ [.add (.var 35) (.const 1)] ++ vars 36 28 ++ vars 21 14 ++ vars 72 7)], []⟩),
    (2, ⟨vars 72 21, myB, [.test (.cmp .lss (.var 35) (.const 28)) true,
    .eq 64 (pickE 35 36 0 27),
    .ext 44 (vars 0 35 ++ [.var 64, .const 7] ++ vars 21 14 ++ vars 65 7),
    .ext 45 (vars 21 14 ++ vars 65 7 ++ vars 21 14 ++ [.add (.var 35) (.const 1)] ++ vars 36 28 ++ vars 72 21)], []⟩)],
   .go (vars 65 21 ++ vars 21 14 ++ [.add (.var 35) (.const 1)] ++ vars 36 28) ⟨[], myB, [.test (.cmp .lss (.var 35) (.const 28)) true,
    .eq 64 (pickE 35 36 0 27),
    .ext 44 (vars 0 35 ++ [.var 64, .const 7] ++ vars 65 21)], []⟩ [(2, ⟨vars 65 21, myB, [.test (.cmp .lss (.var 35) (.const 28)) true,
    .eq 64 (pickE 35 36 0 27),
    .ext 44 (vars 0 35 ++ [.var 64, .const 7] ++ vars 65 21),
    .ext 45 (vars 65 21 ++ vars 21 14 ++ [.add (.var 35) (.const 1)] ++ vars 36 28 ++ vars 65 21)], []⟩),
    (1, ⟨vars 86 7, myB, [.test (.cmp .lss (.var 35) (.const 28)) true,
    .eq 64 (pickE 35 36 0 27),
    .ext 44 (vars 0 35 ++ [.var 64, .const 7] ++ vars 65 21),
    .ext 45 (vars 65 21 ++ vars 21 14 ++ [.add (.var 35) (.const 1)] ++ vars 36 28 ++ vars 21 14 ++ vars 86 7)], []⟩),
    (2, ⟨vars 86 21, myB, [.test (.cmp .lss (.var 35) (.const 28)) true,
    .eq 64 (pickE 35 36 0 27),
    .ext 44 (vars 0 35 ++ [.var 64, .const 7] ++ vars 65 21),
    .ext 45 (vars 65 21 ++ vars 21 14 ++ [.add (.var 35) (.const 1)] ++ vars 36 28 ++ vars 86 21)], []⟩)],
   .stop 0 ⟨[], myB0, [.test (.cmp .lss (.var 35) (.const 28)) false], []⟩]
theorem mulBits_nodup : nodupB ((blocksOf (loopIn Tryz.f21 0)).map (·.1)) = true := by kernel_rfl
theorem mulBits_loop : loopAt (loopIn Tryz.f21 0) 2 = some (loopIn Tryz.f21 2) := by kernel_rfl
theorem mulByte_bok (h : FW X) : BOK Tryz.prog X (blockB 2 (mulBit.asBlock 2).spec) (loopIn Tryz.f21 0) := by
  refine BOK_loops (nodupB_spec mulBits_nodup) fun i sp' hs' => ?_
  unfold blockB at hs'
  split at hs'
  · rename_i hi
    simp only [Option.some.injEq] at hs'
    subst hi hs'
    exact ⟨_, mulBits_loop, block_sum (mulBit_ok h)⟩
  · cases hs'
theorem mulByte_chk : chkLoop (exec EO 3000 (blockB 2 (mulBit.asBlock 2).spec) (loopIn Tryz.f21 0) mulByte.start) mulByte mulByteDs = true := by kernel_rfl
def mulByteM (ρ : Nat -> Int) : Nat := (28 - ρ 35).toNat
theorem mulByte_ok (h : FW X) : LoopSp Tryz.prog X (loopIn Tryz.f21 0) mulByte.spec := by
  refine loop_by (EO_ok h) (mulByte_bok h) mulByte_chk mulByteM (fun ρ ρ' hh => ?_) fun d hd => ?_
  · have hnv : mulByte.core.nv = 64 := rfl
    rw [hnv] at hh
    unfold mulByteM
    rw [hh 35 (by decide)]
  simp only [mulByteDs, List.mem_cons, List.not_mem_nil, or_false] at hd
  rcases hd with rfl | rfl | rfl | rfl
  · refine ⟨fun ρ hs => ?_, fun d hd => ?_⟩
    · have hi := hs.bds (35, (0, 27)) (List.mem_append_right _ (by simp))
      simp only at hi
      show (28 - (ρ 35 + 1)).toNat < (28 - ρ 35).toNat
      omega
    · simp only [List.mem_cons, List.not_mem_nil, or_false] at hd
      rcases hd with rfl | rfl | rfl
      · refine endP_of _ 45 _ rfl rfl (fun ρ => (W7 ρ 0) ++ (W7 ρ 7) ++ (W7 ρ 14) ++ (W7 ρ 21) ++ (W7 ρ 28) ++ [ρ 35] ++ (W28 ρ 36) ++ (W7 ρ 0) ++ (W7 ρ 7) ++ (W7 ρ 14)) (fun ρ => by kernel_rfl) fun ρ hs => (h.bytes _).2 ?_
        have hi := hs.bds (35, (0, 27)) (List.mem_append_right _ (by simp))
        simp only at hi
        obtain ⟨m, hm⟩ : ∃ m : Nat, ρ 35 = (m : Int) := Int.eq_ofNat_of_zero_le hi.1
        have o := (eqAt hs 1 (d := 64) (e := pickE 35 36 0 27) rfl).trans (pickE_eval 35 36 27 0 m hm (by omega) (by omega))
        have t2 := bits_of h (a := (W7 ρ 0)) (b := (W7 ρ 7)) (c := (W7 ρ 14)) (p := (W7 ρ 21)) (q := (W7 ρ 28)) (d := (W7 ρ 0)) (e := (W7 ρ 7)) (f := (W7 ρ 14)) (k := ρ 64) (i := 7) rfl rfl rfl rfl rfl rfl rfl rfl (tokAt hs 2 (by kernel_rfl))
        have t3 := bytes_of h (a := (W7 ρ 0)) (b := (W7 ρ 7)) (c := (W7 ρ 14)) (p := (W7 ρ 21)) (q := (W7 ρ 28)) (d := (W7 ρ 0)) (e := (W7 ρ 7)) (f := (W7 ρ 14)) (i := ρ 35 + 1) (ks := (W28 ρ 36)) rfl rfl rfl rfl rfl rfl rfl rfl rfl (tokAt hs 3 (by kernel_rfl))
        have e1 : (ρ 35 + 1).toNat = m + 1 := by omega
        have e0 : (ρ 35).toNat = m := by omega
        rw [e1] at t3
        refine Eq.mp (by kernel_rfl : ((wok (W7 ρ 0) 0 /\ wok (W7 ρ 7) 0 /\ wok (W7 ρ 14) 0) /\ (⟨wv (W7 ρ 0) 0, wv (W7 ρ 7) 0, wv (W7 ρ 14) 0⟩ : Tri) = bytesF (wv (W7 ρ 21) 0) (wv (W7 ρ 28) 0) ((W28 ρ 36).drop (ρ 35).toNat) (⟨wv (W7 ρ 0) 0, wv (W7 ρ 7) 0, wv (W7 ρ 14) 0⟩ : Tri)) = _) ?_
        rw [e0]
        exact ⟨t3.1, bytes_step (k := ρ 64) ((W28_get ρ 36 m (by omega)).trans (congrArg some o.symm)) t2.2 t3.2⟩
      · refine endP_of _ 45 _ rfl rfl (fun ρ => (W7 ρ 0) ++ (W7 ρ 7) ++ (W7 ρ 14) ++ (W7 ρ 21) ++ (W7 ρ 28) ++ [ρ 35] ++ (W28 ρ 36) ++ (W7 ρ 21) ++ (W7 ρ 28) ++ (W7 ρ 65)) (fun ρ => by kernel_rfl) fun ρ hs => (h.bytes _).2 ?_
        have hi := hs.bds (35, (0, 27)) (List.mem_append_right _ (by simp))
        simp only at hi
        obtain ⟨m, hm⟩ : ∃ m : Nat, ρ 35 = (m : Int) := Int.eq_ofNat_of_zero_le hi.1
        have o := (eqAt hs 1 (d := 64) (e := pickE 35 36 0 27) rfl).trans (pickE_eval 35 36 27 0 m hm (by omega) (by omega))
        have t2 := bits_of h (a := (W7 ρ 0)) (b := (W7 ρ 7)) (c := (W7 ρ 14)) (p := (W7 ρ 21)) (q := (W7 ρ 28)) (d := (W7 ρ 0)) (e := (W7 ρ 7)) (f := (W7 ρ 14)) (k := ρ 64) (i := 7) rfl rfl rfl rfl rfl rfl rfl rfl (tokAt hs 2 (by kernel_rfl))
        have t3 := bytes_of h (a := (W7 ρ 0)) (b := (W7 ρ 7)) (c := (W7 ρ 14)) (p := (W7 ρ 21)) (q := (W7 ρ 28)) (d := (W7 ρ 21)) (e := (W7 ρ 28)) (f := (W7 ρ 65)) (i := ρ 35 + 1) (ks := (W28 ρ 36)) rfl rfl rfl rfl rfl rfl rfl rfl rfl (tokAt hs 3 (by kernel_rfl))
        have e1 : (ρ 35 + 1).toNat = m + 1 := by omega
        have e0 : (ρ 35).toNat = m := by omega
        rw [e1] at t3
        refine Eq.mp (by kernel_rfl : ((wok (W7 ρ 21) 0 /\ wok (W7 ρ 28) 0 /\ wok (W7 ρ 65) 0) /\ (⟨wv (W7 ρ 21) 0, wv (W7 ρ 28) 0, wv (W7 ρ 65) 0⟩ : Tri) = bytesF (wv (W7 ρ 21) 0) (wv (W7 ρ 28) 0) ((W28 ρ 36).drop (ρ 35).toNat) (⟨wv (W7 ρ 0) 0, wv (W7 ρ 7) 0, wv (W7 ρ 14) 0⟩ : Tri)) = _) ?_
        rw [e0]
        exact ⟨t3.1, bytes_step (k := ρ 64) ((W28_get ρ 36 m (by omega)).trans (congrArg some o.symm)) t2.2 t3.2⟩
      · refine endP_of _ 45 _ rfl rfl (fun ρ => (W7 ρ 0) ++ (W7 ρ 7) ++ (W7 ρ 14) ++ (W7 ρ 21) ++ (W7 ρ 28) ++ [ρ 35] ++ (W28 ρ 36) ++ (W7 ρ 65) ++ (W7 ρ 72) ++ (W7 ρ 79)) (fun ρ => by kernel_rfl) fun ρ hs => (h.bytes _).2 ?_
        have hi := hs.bds (35, (0, 27)) (List.mem_append_right _ (by simp))
        simp only at hi
        obtain ⟨m, hm⟩ : ∃ m : Nat, ρ 35 = (m : Int) := Int.eq_ofNat_of_zero_le hi.1
        have o := (eqAt hs 1 (d := 64) (e := pickE 35 36 0 27) rfl).trans (pickE_eval 35 36 27 0 m hm (by omega) (by omega))
        have t2 := bits_of h (a := (W7 ρ 0)) (b := (W7 ρ 7)) (c := (W7 ρ 14)) (p := (W7 ρ 21)) (q := (W7 ρ 28)) (d := (W7 ρ 0)) (e := (W7 ρ 7)) (f := (W7 ρ 14)) (k := ρ 64) (i := 7) rfl rfl rfl rfl rfl rfl rfl rfl (tokAt hs 2 (by kernel_rfl))
        have t3 := bytes_of h (a := (W7 ρ 0)) (b := (W7 ρ 7)) (c := (W7 ρ 14)) (p := (W7 ρ 21)) (q := (W7 ρ 28)) (d := (W7 ρ 65)) (e := (W7 ρ 72)) (f := (W7 ρ 79)) (i := ρ 35 + 1) (ks := (W28 ρ 36)) rfl rfl rfl rfl rfl rfl rfl rfl rfl (tokAt hs 3 (by kernel_rfl))
        have e1 : (ρ 35 + 1).toNat = m + 1 := by omega
        have e0 : (ρ 35).toNat = m := by omega
        rw [e1] at t3
        refine Eq.mp (by kernel_rfl : ((wok (W7 ρ 65) 0 /\ wok (W7 ρ 72) 0 /\ wok (W7 ρ 79) 0) /\ (⟨wv (W7 ρ 65) 0, wv (W7 ρ 72) 0, wv (W7 ρ 79) 0⟩ : Tri) = bytesF (wv (W7 ρ 21) 0) (wv (W7 ρ 28) 0) ((W28 ρ 36).drop (ρ 35).toNat) (⟨wv (W7 ρ 0) 0, wv (W7 ρ 7) 0, wv (W7 ρ 14) 0⟩ : Tri)) = _) ?_
        rw [e0]
        exact ⟨t3.1, bytes_step (k := ρ 64) ((W28_get ρ 36 m (by omega)).trans (congrArg some o.symm)) t2.2 t3.2⟩
  · refine ⟨fun ρ hs => ?_, fun d hd => ?_⟩
    · have hi := hs.bds (35, (0, 27)) (List.mem_append_right _ (by simp))
      simp only at hi
      show (28 - (ρ 35 + 1)).toNat < (28 - ρ 35).toNat
      omega
    · simp only [List.mem_cons, List.not_mem_nil, or_false] at hd
      rcases hd with rfl | rfl | rfl
      · refine endP_of _ 45 _ rfl rfl (fun ρ => (W7 ρ 0) ++ (W7 ρ 7) ++ (W7 ρ 14) ++ (W7 ρ 21) ++ (W7 ρ 28) ++ [ρ 35] ++ (W28 ρ 36) ++ (W7 ρ 21) ++ (W7 ρ 28) ++ (W7 ρ 65)) (fun ρ => by kernel_rfl) fun ρ hs => (h.bytes _).2 ?_
        have hi := hs.bds (35, (0, 27)) (List.mem_append_right _ (by simp))
        simp only at hi
        obtain ⟨m, hm⟩ : ∃ m : Nat, ρ 35 = (m : Int) := Int.eq_ofNat_of_zero_le hi.1
        have o := (eqAt hs 1 (d := 64) (e := pickE 35 36 0 27) rfl).trans (pickE_eval 35 36 27 0 m hm (by omega) (by omega))
        have t2 := bits_of h (a := (W7 ρ 0)) (b := (W7 ρ 7)) (c := (W7 ρ 14)) (p := (W7 ρ 21)) (q := (W7 ρ 28)) (d := (W7 ρ 21)) (e := (W7 ρ 28)) (f := (W7 ρ 65)) (k := ρ 64) (i := 7) rfl rfl rfl rfl rfl rfl rfl rfl (tokAt hs 2 (by kernel_rfl))
        have t3 := bytes_of h (a := (W7 ρ 21)) (b := (W7 ρ 28)) (c := (W7 ρ 65)) (p := (W7 ρ 21)) (q := (W7 ρ 28)) (d := (W7 ρ 21)) (e := (W7 ρ 28)) (f := (W7 ρ 65)) (i := ρ 35 + 1) (ks := (W28 ρ 36)) rfl rfl rfl rfl rfl rfl rfl rfl rfl (tokAt hs 3 (by kernel_rfl))
        have e1 : (ρ 35 + 1).toNat = m + 1 := by omega
        have e0 : (ρ 35).toNat = m := by omega
        rw [e1] at t3
        refine Eq.mp (by kernel_rfl : ((wok (W7 ρ 21) 0 /\ wok (W7 ρ 28) 0 /\ wok (W7 ρ 65) 0) /\ (⟨wv (W7 ρ 21) 0, wv (W7 ρ 28) 0, wv (W7 ρ 65) 0⟩ : Tri) = bytesF (wv (W7 ρ 21) 0) (wv (W7 ρ 28) 0) ((W28 ρ 36).drop (ρ 35).toNat) (⟨wv (W7 ρ 0) 0, wv (W7 ρ 7) 0, wv (W7 ρ 14) 0⟩ : Tri)) = _) ?_
        rw [e0]
        exact ⟨t3.1, bytes_step (k := ρ 64) ((W28_get ρ 36 m (by omega)).trans (congrArg some o.symm)) t2.2 t3.2⟩
      · refine endP_of _ 45 _ rfl rfl (fun ρ => (W7 ρ 0) ++ (W7 ρ 7) ++ (W7 ρ 14) ++ (W7 ρ 21) ++ (W7 ρ 28) ++ [ρ 35] ++ (W28 ρ 36) ++ (W7 ρ 21) ++ (W7 ρ 28) ++ (W7 ρ 72)) (fun ρ => by kernel_rfl) fun ρ hs => (h.bytes _).2 ?_
        have hi := hs.bds (35, (0, 27)) (List.mem_append_right _ (by simp))
        simp only at hi
        obtain ⟨m, hm⟩ : ∃ m : Nat, ρ 35 = (m : Int) := Int.eq_ofNat_of_zero_le hi.1
        have o := (eqAt hs 1 (d := 64) (e := pickE 35 36 0 27) rfl).trans (pickE_eval 35 36 27 0 m hm (by omega) (by omega))
        have t2 := bits_of h (a := (W7 ρ 0)) (b := (W7 ρ 7)) (c := (W7 ρ 14)) (p := (W7 ρ 21)) (q := (W7 ρ 28)) (d := (W7 ρ 21)) (e := (W7 ρ 28)) (f := (W7 ρ 65)) (k := ρ 64) (i := 7) rfl rfl rfl rfl rfl rfl rfl rfl (tokAt hs 2 (by kernel_rfl))
        have t3 := bytes_of h (a := (W7 ρ 21)) (b := (W7 ρ 28)) (c := (W7 ρ 65)) (p := (W7 ρ 21)) (q := (W7 ρ 28)) (d := (W7 ρ 21)) (e := (W7 ρ 28)) (f := (W7 ρ 72)) (i := ρ 35 + 1) (ks := (W28 ρ 36)) rfl rfl rfl rfl rfl rfl rfl rfl rfl (tokAt hs 3 (by kernel_rfl))
        have e1 : (ρ 35 + 1).toNat = m + 1 := by omega
        have e0 : (ρ 35).toNat = m := by omega
        rw [e1] at t3
        refine Eq.mp (by kernel_rfl : ((wok (W7 ρ 21) 0 /\ wok (W7 ρ 28) 0 /\ wok (W7 ρ 72) 0) /\ (⟨wv (W7 ρ 21) 0, wv (W7 ρ 28) 0, wv (W7 ρ 72) 0⟩ : Tri) = bytesF (wv (W7 ρ 21) 0) (wv (W7 ρ 28) 0) ((W28 ρ 36).drop (ρ 35).toNat) (⟨wv (W7 ρ 0) 0, wv (W7 ρ 7) 0, wv (W7 ρ 14) 0⟩ : Tri)) = _) ?_
        rw [e0]
        exact ⟨t3.1, bytes_step (k := ρ 64) ((W28_get ρ 36 m (by omega)).trans (congrArg some o.symm)) t2.2 t3.2⟩
      · refine endP_of _ 45 _ rfl rfl (fun ρ => (W7 ρ 0) ++ (W7 ρ 7) ++ (W7 ρ 14) ++ (W7 ρ 21) ++ (W7 ρ 28) ++ [ρ 35] ++ (W28 ρ 36) ++ (W7 ρ 72) ++ (W7 ρ 79) ++ (W7 ρ 86)) (fun ρ => by kernel_rfl) fun ρ hs => (h.bytes _).2 ?_
        have hi := hs.bds (35, (0, 27)) (List.mem_append_right _ (by simp))
        simp only at hi
        obtain ⟨m, hm⟩ : ∃ m : Nat, ρ 35 = (m : Int) := Int.eq_ofNat_of_zero_le hi.1
        have o := (eqAt hs 1 (d := 64) (e := pickE 35 36 0 27) rfl).trans (pickE_eval 35 36 27 0 m hm (by omega) (by omega))
        have t2 := bits_of h (a := (W7 ρ 0)) (b := (W7 ρ 7)) (c := (W7 ρ 14)) (p := (W7 ρ 21)) (q := (W7 ρ 28)) (d := (W7 ρ 21)) (e := (W7 ρ 28)) (f := (W7 ρ 65)) (k := ρ 64) (i := 7) rfl rfl rfl rfl rfl rfl rfl rfl (tokAt hs 2 (by kernel_rfl))
        have t3 := bytes_of h (a := (W7 ρ 21)) (b := (W7 ρ 28)) (c := (W7 ρ 65)) (p := (W7 ρ 21)) (q := (W7 ρ 28)) (d := (W7 ρ 72)) (e := (W7 ρ 79)) (f := (W7 ρ 86)) (i := ρ 35 + 1) (ks := (W28 ρ 36)) rfl rfl rfl rfl rfl rfl rfl rfl rfl (tokAt hs 3 (by kernel_rfl))
        have e1 : (ρ 35 + 1).toNat = m + 1 := by omega
        have e0 : (ρ 35).toNat = m := by omega
        rw [e1] at t3
        refine Eq.mp (by kernel_rfl : ((wok (W7 ρ 72) 0 /\ wok (W7 ρ 79) 0 /\ wok (W7 ρ 86) 0) /\ (⟨wv (W7 ρ 72) 0, wv (W7 ρ 79) 0, wv (W7 ρ 86) 0⟩ : Tri) = bytesF (wv (W7 ρ 21) 0) (wv (W7 ρ 28) 0) ((W28 ρ 36).drop (ρ 35).toNat) (⟨wv (W7 ρ 0) 0, wv (W7 ρ 7) 0, wv (W7 ρ 14) 0⟩ : Tri)) = _) ?_
        rw [e0]
        exact ⟨t3.1, bytes_step (k := ρ 64) ((W28_get ρ 36 m (by omega)).trans (congrArg some o.symm)) t2.2 t3.2⟩
  · refine ⟨fun ρ hs => ?_, fun d hd => ?_⟩
    · have hi := hs.bds (35, (0, 27)) (List.mem_append_right _ (by simp))
      simp only at hi
      show (28 - (ρ 35 + 1)).toNat < (28 - ρ 35).toNat
      omega
    · simp only [List.mem_cons, List.not_mem_nil, or_false] at hd
      rcases hd with rfl | rfl | rfl
      · refine endP_of _ 45 _ rfl rfl (fun ρ => (W7 ρ 0) ++ (W7 ρ 7) ++ (W7 ρ 14) ++ (W7 ρ 21) ++ (W7 ρ 28) ++ [ρ 35] ++ (W28 ρ 36) ++ (W7 ρ 65) ++ (W7 ρ 72) ++ (W7 ρ 79)) (fun ρ => by kernel_rfl) fun ρ hs => (h.bytes _).2 ?_
        have hi := hs.bds (35, (0, 27)) (List.mem_append_right _ (by simp))
        simp only at hi
        obtain ⟨m, hm⟩ : ∃ m : Nat, ρ 35 = (m : Int) := Int.eq_ofNat_of_zero_le hi.1
        have o := (eqAt hs 1 (d := 64) (e := pickE 35 36 0 27) rfl).trans (pickE_eval 35 36 27 0 m hm (by omega) (by omega))
        have t2 := bits_of h (a := (W7 ρ 0)) (b := (W7 ρ 7)) (c := (W7 ρ 14)) (p := (W7 ρ 21)) (q := (W7 ρ 28)) (d := (W7 ρ 65)) (e := (W7 ρ 72)) (f := (W7 ρ 79)) (k := ρ 64) (i := 7) rfl rfl rfl rfl rfl rfl rfl rfl (tokAt hs 2 (by kernel_rfl))
        have t3 := bytes_of h (a := (W7 ρ 65)) (b := (W7 ρ 72)) (c := (W7 ρ 79)) (p := (W7 ρ 21)) (q := (W7 ρ 28)) (d := (W7 ρ 65)) (e := (W7 ρ 72)) (f := (W7 ρ 79)) (i := ρ 35 + 1) (ks := (W28 ρ 36)) rfl rfl rfl rfl rfl rfl rfl rfl rfl (tokAt hs 3 (by kernel_rfl))
        have e1 : (ρ 35 + 1).toNat = m + 1 := by omega
        have e0 : (ρ 35).toNat = m := by omega
        rw [e1] at t3
        refine Eq.mp (by kernel_rfl : ((wok (W7 ρ 65) 0 /\ wok (W7 ρ 72) 0 /\ wok (W7 ρ 79) 0) /\ (⟨wv (W7 ρ 65) 0, wv (W7 ρ 72) 0, wv (W7 ρ 79) 0⟩ : Tri) = bytesF (wv (W7 ρ 21) 0) (wv (W7 ρ 28) 0) ((W28 ρ 36).drop (ρ 35).toNat) (⟨wv (W7 ρ 0) 0, wv (W7 ρ 7) 0, wv (W7 ρ 14) 0⟩ : Tri)) = _) ?_
        rw [e0]
        exact ⟨t3.1, bytes_step (k := ρ 64) ((W28_get ρ 36 m (by omega)).trans (congrArg some o.symm)) t2.2 t3.2⟩
      · refine endP_of _ 45 _ rfl rfl (fun ρ => (W7 ρ 0) ++ (W7 ρ 7) ++ (W7 ρ 14) ++ (W7 ρ 21) ++ (W7 ρ 28) ++ [ρ 35] ++ (W28 ρ 36) ++ (W7 ρ 21) ++ (W7 ρ 28) ++ (W7 ρ 86)) (fun ρ => by kernel_rfl) fun ρ hs => (h.bytes _).2 ?_
        have hi := hs.bds (35, (0, 27)) (List.mem_append_right _ (by simp))
        simp only at hi
        obtain ⟨m, hm⟩ : ∃ m : Nat, ρ 35 = (m : Int) := Int.eq_ofNat_of_zero_le hi.1
        have o := (eqAt hs 1 (d := 64) (e := pickE 35 36 0 27) rfl).trans (pickE_eval 35 36 27 0 m hm (by omega) (by omega))
        have t2 := bits_of h (a := (W7 ρ 0)) (b := (W7 ρ 7)) (c := (W7 ρ 14)) (p := (W7 ρ 21)) (q := (W7 ρ 28)) (d := (W7 ρ 65)) (e := (W7 ρ 72)) (f := (W7 ρ 79)) (k := ρ 64) (i := 7) rfl rfl rfl rfl rfl rfl rfl rfl (tokAt hs 2 (by kernel_rfl))
        have t3 := bytes_of h (a := (W7 ρ 65)) (b := (W7 ρ 72)) (c := (W7 ρ 79)) (p := (W7 ρ 21)) (q := (W7 ρ 28)) (d := (W7 ρ 21)) (e := (W7 ρ 28)) (f := (W7 ρ 86)) (i := ρ 35 + 1) (ks := (W28 ρ 36)) rfl rfl rfl rfl rfl rfl rfl rfl rfl (tokAt hs 3 (by kernel_rfl))
        have e1 : (ρ 35 + 1).toNat = m + 1 := by omega
        have e0 : (ρ 35).toNat = m := by omega
        rw [e1] at t3
        refine Eq.mp (by kernel_rfl : ((wok (W7 ρ 21) 0 /\ wok (W7 ρ 28) 0 /\ wok (W7 ρ 86) 0) /\ (⟨wv (W7 ρ 21) 0, wv (W7 ρ 28) 0, wv (W7 ρ 86) 0⟩ : Tri) = bytesF (wv (W7 ρ 21) 0) (wv (W7 ρ 28) 0) ((W28 ρ 36).drop (ρ 35).toNat) (⟨wv (W7 ρ 0) 0, wv (W7 ρ 7) 0, wv (W7 ρ 14) 0⟩ : Tri)) = _) ?_
        rw [e0]
        exact ⟨t3.1, bytes_step (k := ρ 64) ((W28_get ρ 36 m (by omega)).trans (congrArg some o.symm)) t2.2 t3.2⟩
      · refine endP_of _ 45 _ rfl rfl (fun ρ => (W7 ρ 0) ++ (W7 ρ 7) ++ (W7 ρ 14) ++ (W7 ρ 21) ++ (W7 ρ 28) ++ [ρ 35] ++ (W28 ρ 36) ++ (W7 ρ 86) ++ (W7 ρ 93) ++ (W7 ρ 100)) (fun ρ => by kernel_rfl) fun ρ hs => (h.bytes _).2 ?_
        have hi := hs.bds (35, (0, 27)) (List.mem_append_right _ (by simp))
        simp only at hi
        obtain ⟨m, hm⟩ : ∃ m : Nat, ρ 35 = (m : Int) := Int.eq_ofNat_of_zero_le hi.1
        have o := (eqAt hs 1 (d := 64) (e := pickE 35 36 0 27) rfl).trans (pickE_eval 35 36 27 0 m hm (by omega) (by omega))
        have t2 := bits_of h (a := (W7 ρ 0)) (b := (W7 ρ 7)) (c := (W7 ρ 14)) (p := (W7 ρ 21)) (q := (W7 ρ 28)) (d := (W7 ρ 65)) (e := (W7 ρ 72)) (f := (W7 ρ 79)) (k := ρ 64) (i := 7) rfl rfl rfl rfl rfl rfl rfl rfl (tokAt hs 2 (by kernel_rfl))
        have t3 := bytes_of h (a := (W7 ρ 65)) (b := (W7 ρ 72)) (c := (W7 ρ 79)) (p := (W7 ρ 21)) (q := (W7 ρ 28)) (d := (W7 ρ 86)) (e := (W7 ρ 93)) (f := (W7 ρ 100)) (i := ρ 35 + 1) (ks := (W28 ρ 36)) rfl rfl rfl rfl rfl rfl rfl rfl rfl (tokAt hs 3 (by kernel_rfl))
        have e1 : (ρ 35 + 1).toNat = m + 1 := by omega
        have e0 : (ρ 35).toNat = m := by omega
        rw [e1] at t3
        refine Eq.mp (by kernel_rfl : ((wok (W7 ρ 86) 0 /\ wok (W7 ρ 93) 0 /\ wok (W7 ρ 100) 0) /\ (⟨wv (W7 ρ 86) 0, wv (W7 ρ 93) 0, wv (W7 ρ 100) 0⟩ : Tri) = bytesF (wv (W7 ρ 21) 0) (wv (W7 ρ 28) 0) ((W28 ρ 36).drop (ρ 35).toNat) (⟨wv (W7 ρ 0) 0, wv (W7 ρ 7) 0, wv (W7 ρ 14) 0⟩ : Tri)) = _) ?_
        rw [e0]
        exact ⟨t3.1, bytes_step (k := ρ 64) ((W28_get ρ 36 m (by omega)).trans (congrArg some o.symm)) t2.2 t3.2⟩
  · refine endP_of _ 45 _ rfl rfl (fun ρ => (W7 ρ 0) ++ (W7 ρ 7) ++ (W7 ρ 14) ++ (W7 ρ 21) ++ (W7 ρ 28) ++ [ρ 35] ++ (W28 ρ 36) ++ (W7 ρ 0) ++ (W7 ρ 7) ++ (W7 ρ 14)) (fun ρ => by kernel_rfl) fun ρ hs => (h.bytes _).2 ?_
    have hw := bW_spec (n := 35) hs fun b hb => List.mem_append_left _ hb
    have ht := testAt hs 0 (e := .cmp .lss (.var 35) (.const 28)) (b := false) rfl
    have ht : ¬ ρ 35 < 28 := of_decide_eq_false ht
    refine Eq.mp (by kernel_rfl : ((wok (W7 ρ 0) 0 /\ wok (W7 ρ 7) 0 /\ wok (W7 ρ 14) 0) /\ (⟨wv (W7 ρ 0) 0, wv (W7 ρ 7) 0, wv (W7 ρ 14) 0⟩ : Tri) = bytesF (wv (W7 ρ 21) 0) (wv (W7 ρ 28) 0) ((W28 ρ 36).drop (ρ 35).toNat) (⟨wv (W7 ρ 0) 0, wv (W7 ρ 7) 0, wv (W7 ρ 14) 0⟩ : Tri)) = _) ?_
    refine ⟨⟨wok_W7 hw 0 (by decide), wok_W7 hw 7 (by decide), wok_W7 hw 14 (by decide)⟩, bytes_end ?_ _⟩
    have e0 : (W28 ρ 36).length = 28 := rfl
    omega
end Go.Proofs.YtmogojlijkddpaaGreat
end
