/- The proof of laws.FnP224Verify, text 14 of 36. Conditions: none. -/
import Derived.Test.YtmogojlijkddpaaGreatT12
noncomputable section

set_option maxRecDepth 100000
namespace Go.Vm
open Go.Proofs.YtmogojlijkddpaaGreat (v4 pp)
def FromBP (l : List Int) : Prop := wordsOK (l.drop 28) /\ wv4 (l.drop 28) = leb (l.take 28)
def ToBP (l : List Int) : Prop := wv4 l < pp -> (∀ x ∈ (l.drop 4).take 28, byteOK x) /\ leb ((l.drop 4).take 28) = wv4 l
def EBytP (l : List Int) : Prop := okE l -> (∀ x ∈ (l.drop 4).take 28, byteOK x) /\ φ (bn ((l.drop 4).take 28)) = dv l /\ bn ((l.drop 4).take 28) < p224
def EqBP (l : List Int) : Prop := (nth l 56 = 0 \/ nth l 56 = 1) /\ (nth l 56 = 1 ↔ l.take 28 = (l.drop 28).take 28)
def LeBP (l : List Int) : Prop := (nth l 56 = 0 \/ nth l 56 = 1) /\ (nth l 56 = 1 ↔ bn (l.take 28) <= bn ((l.drop 28).take 28))
def SetBP (l : List Int) : Prop := bn (l.take 28) < p224 /\ okE (l.drop 28) /\ dv (l.drop 28) = φ (bn (l.take 28))
def SetNoP (l : List Int) : Prop := ¬ bn (l.take 28) < p224
def SelzP (l : List Int) : Prop := (l.drop 9).take 4 = if nth l 8 = 1 then (l.drop 4).take 4 else l.take 4
def IsZP (l : List Int) : Prop := okE l -> (nth l 4 = 0 \/ nth l 4 = 1) /\ (nth l 4 = 1 ↔ dv l = 0)
def EqEP (l : List Int) : Prop := okE l -> okE (l.drop 4) -> (nth l 8 = 0 \/ nth l 8 = 1) /\ (nth l 8 = 1 ↔ dv l = dv (l.drop 4))
structure FJ (X : Tk) : Prop extends FI X where
  fromB : ∀ l, X 60 l ↔ FromBP l
  toB : ∀ l, X 62 l ↔ ToBP l
  eByt : ∀ l, X 61 l ↔ EBytP l
  eqB : ∀ l, X 64 l ↔ EqBP l
  leB : ∀ l, X 63 l ↔ LeBP l
  setB : ∀ l, X 65 l ↔ SetBP l
  setNo : ∀ l, X 69 l ↔ SetNoP l
  selz : ∀ l, X 66 l ↔ SelzP l
  isZ : ∀ l, X 67 l ↔ IsZP l
  eqE : ∀ l, X 68 l ↔ EqEP l
theorem bvn {n : Nat} {x : Int} (h0 : 0 <= x) (h1 : x < 2 ^ n) : (BitVec.ofInt n x).toNat = x.toNat := by
  have := ofInt_toNat (n := n) h0 h1
  omega
theorem bit_and_full (x : Int) (h : 0 <= x /\ x <= 18446744073709551615) : intBin .and .u64 18446744073709551615 x = x := by
  have h1 := bvn (n := 64) h.1 (by omega)
  have h2 := bvn (n := 64) (x := 18446744073709551615) (by decide) (by decide)
  show IntKind.u64.wrap (((BitVec.ofInt 64 18446744073709551615 &&& BitVec.ofInt 64 x).toNat : Nat) : Int) = x
  have e : (BitVec.ofInt 64 18446744073709551615 &&& BitVec.ofInt 64 x).toNat = x.toNat := by
    rw [BitVec.toNat_and, h1, h2]
    have := Nat.and_two_pow_sub_one_eq_mod x.toNat 64
    rw [show (2 ^ 64 - 1 : Nat) = (18446744073709551615 : Int).toNat by decide] at this
    rw [Nat.and_comm, this]
    exact Nat.mod_eq_of_lt (by omega)
  rw [e, Go.IntKind.wrap_u64]
  omega
theorem bit_and_zero (x : Int) : intBin .and .u64 0 x = 0 := by
  show IntKind.u64.wrap (((BitVec.ofInt 64 0 &&& BitVec.ofInt 64 x).toNat : Nat) : Int) = 0
  have e : (BitVec.ofInt 64 0 &&& BitVec.ofInt 64 x) = 0 := by
    rw [show BitVec.ofInt 64 0 = 0#64 by decide]; exact BitVec.zero_and
  rw [e]; decide
theorem bit_or_zero (x : Int) (h : 0 <= x /\ x <= 18446744073709551615) : intBin .or .u64 x 0 = x /\ intBin .or .u64 0 x = x := by
  have h1 := bvn (n := 64) h.1 (by omega)
  have z : BitVec.ofInt 64 0 = 0#64 := by decide
  constructor
  · show IntKind.u64.wrap (((BitVec.ofInt 64 x ||| BitVec.ofInt 64 0).toNat : Nat) : Int) = x
    rw [z, BitVec.or_zero, h1, Go.IntKind.wrap_u64]; omega
  · show IntKind.u64.wrap (((BitVec.ofInt 64 0 ||| BitVec.ofInt 64 x).toNat : Nat) : Int) = x
    rw [z, BitVec.zero_or, h1, Go.IntKind.wrap_u64]; omega
theorem selw (c z nz : Int) (hc : c = 0 \/ c = 1) (hz : 0 <= z /\ z <= 18446744073709551615) (hnz : 0 <= nz /\ nz <= 18446744073709551615) :
    intBin .or .u64 (intBin .and .u64 (c * 18446744073709551615) nz) (intBin .and .u64 (intBin .xor .u64 18446744073709551615 (c * 18446744073709551615)) z) = if c = 1 then nz else z := by
  rcases hc with rfl | rfl
  · rw [if_neg (by decide), show (0 : Int) * 18446744073709551615 = 0 by decide, bit_and_zero, show intBin .xor .u64 18446744073709551615 0 = 18446744073709551615 by decide, bit_and_full z hz]
    exact (bit_or_zero z hz).2
  · rw [if_pos rfl, show (1 : Int) * 18446744073709551615 = 18446744073709551615 by decide, bit_and_full nz hnz, show intBin .xor .u64 18446744073709551615 18446744073709551615 = 0 by decide, bit_and_zero]
    exact (bit_or_zero nz hnz).1
theorem or8 (a x y : Int) (ha : byteOK a) (hx : byteOK x) (hy : byteOK y) : byteOK (intBin .or .u8 a (intBin .xor .u8 x y)) /\ (intBin .or .u8 a (intBin .xor .u8 x y) = 0 ↔ a = 0 /\ x = y) := by
  unfold byteOK at *
  have ba := bvn (n := 8) ha.1 (by omega)
  have bx := bvn (n := 8) hx.1 (by omega)
  have by' := bvn (n := 8) hy.1 (by omega)
  have e1 : intBin .xor .u8 x y = ((BitVec.ofInt 8 x ^^^ BitVec.ofInt 8 y).toNat : Int) := by
    show IntKind.u8.wrap _ = _
    rw [wrap8]
    have := (BitVec.ofInt 8 x ^^^ BitVec.ofInt 8 y).isLt
    show ((BitVec.ofInt 8 x ^^^ BitVec.ofInt 8 y).toNat : Int) % 256 = _
    omega
  have e2 : BitVec.ofInt 8 (((BitVec.ofInt 8 x ^^^ BitVec.ofInt 8 y).toNat : Nat) : Int) = BitVec.ofInt 8 x ^^^ BitVec.ofInt 8 y := by
    apply BitVec.eq_of_toNat_eq
    rw [bvn (by omega) (by have := (BitVec.ofInt 8 x ^^^ BitVec.ofInt 8 y).isLt; omega)]
    simp
  have e3 : intBin .or .u8 a (intBin .xor .u8 x y) = ((BitVec.ofInt 8 a ||| (BitVec.ofInt 8 x ^^^ BitVec.ofInt 8 y)).toNat : Int) := by
    rw [e1]
    show IntKind.u8.wrap (((BitVec.ofInt 8 a ||| BitVec.ofInt 8 (((BitVec.ofInt 8 x ^^^ BitVec.ofInt 8 y).toNat : Nat) : Int)).toNat : Nat) : Int) = _
    rw [e2, wrap8]
    have := (BitVec.ofInt 8 a ||| (BitVec.ofInt 8 x ^^^ BitVec.ofInt 8 y)).isLt
    omega
  rw [e3]
  refine ⟨by have := (BitVec.ofInt 8 a ||| (BitVec.ofInt 8 x ^^^ BitVec.ofInt 8 y)).isLt; omega, ?_⟩
  have z : (((BitVec.ofInt 8 a ||| (BitVec.ofInt 8 x ^^^ BitVec.ofInt 8 y)).toNat : Nat) : Int) = 0 ↔ (BitVec.ofInt 8 a ||| (BitVec.ofInt 8 x ^^^ BitVec.ofInt 8 y)) = 0#8 := by
    constructor
    · intro h; apply BitVec.eq_of_toNat_eq; have q0 : (0#8).toNat = 0 := rfl; rw [q0]; omega
    · intro h; rw [h]; rfl
  rw [z, BitVec.or_eq_zero_iff, BitVec.xor_eq_zero_iff]
  constructor
  · rintro ⟨h1, h2⟩
    have q1 := congrArg BitVec.toNat h1
    have q2 := congrArg BitVec.toNat h2
    rw [ba] at q1
    rw [bx, by'] at q2
    have q0 : (0#8).toNat = 0 := rfl
    rw [q0] at q1
    omega
  · rintro ⟨h1, h2⟩
    rw [h1, h2]; exact ⟨by decide, rfl⟩
theorem and255 (x : Int) : intBin .and .u8 (IntKind.u8.wrap x) 255 = x % 256 := by
  rw [wrap8]
  have h0 : 0 <= x % 256 := by omega
  have h1 : x % 256 < 256 := by omega
  generalize x % 256 = y at *
  have b := bvn (n := 8) h0 (by omega)
  show IntKind.u8.wrap (((BitVec.ofInt 8 y &&& BitVec.ofInt 8 255).toNat : Nat) : Int) = y
  have e : (BitVec.ofInt 8 y &&& BitVec.ofInt 8 255) = BitVec.ofInt 8 y := by
    rw [show BitVec.ofInt 8 255 = BitVec.allOnes 8 by decide, BitVec.and_allOnes]
  rw [e, b, wrap8]
  omega
theorem bn_lt : ∀ {l : List Int}, (∀ x ∈ l, byteOK x) -> bn l < 256 ^ l.length
  | [], _ => by decide
  | x :: l, h => by
    have h1 := h x (by simp)
    have h2 := bn_lt (l := l) fun y hy => h y (by simp [hy])
    have e1 : bn (x :: l) = x * 256 ^ l.length + bn l := by
      show List.foldl (fun a b => a * 256 + b) (0 * 256 + x) l = _
      rw [bn_from, Int.zero_mul, Int.zero_add]
    rw [e1, List.length_cons, Int.pow_succ]
    have h3 : (0 : Int) <= 256 ^ l.length := Int.pow_nonneg (by decide)
    have h4 : x * 256 ^ l.length <= 255 * 256 ^ l.length := Int.mul_le_mul_of_nonneg_right h1.2 h3
    omega
theorem bn_cons (x : Int) (l : List Int) : bn (x :: l) = x * 256 ^ l.length + bn l := by
  show List.foldl (fun a b => a * 256 + b) (0 * 256 + x) l = _
  rw [bn_from, Int.zero_mul, Int.zero_add]
theorem bn_less {x y : Int} {l l' : List Int} (h : x < y) (hl : ∀ x ∈ l, byteOK x) (hl' : ∀ x ∈ l', byteOK x) (he : l.length = l'.length) : bn (x :: l) < bn (y :: l') := by
  rw [bn_cons, bn_cons, he]
  have h1 := bn_lt hl
  have h2 := bn_nonneg hl'
  rw [he] at h1
  have h3 : (x + 1) * 256 ^ l'.length <= y * 256 ^ l'.length := Int.mul_le_mul_of_nonneg_right (by omega) (Int.pow_nonneg (by decide))
  rw [Int.add_mul, Int.one_mul] at h3
  omega
theorem bn_lex : ∀ {k : Nat} {l l' : List Int}, (∀ x ∈ l, byteOK x) -> (∀ x ∈ l', byteOK x) -> l.length = l'.length -> k < l.length -> (∀ i, i < k -> nth l i = nth l' i) -> nth l k ≠ nth l' k -> (bn l <= bn l' ↔ nth l k < nth l' k)
  | _, [], l', _, _, _, hk, _, _ => by simp at hk
  | k, x :: l, [], _, _, he, _, _, _ => by simp at he
  | 0, x :: l, y :: l', hl, hl', he, _, _, hne => by
    simp only [List.length_cons, Nat.add_right_cancel_iff] at he
    have h1 : nth (x :: l) 0 = x := rfl
    have h2 : nth (y :: l') 0 = y := rfl
    rw [h1, h2] at hne ⊢
    rcases Int.lt_or_gt_of_ne hne with h | h
    · have := bn_less h (fun z hz => hl z (by simp [hz])) (fun z hz => hl' z (by simp [hz])) he
      omega
    · have := bn_less h (fun z hz => hl' z (by simp [hz])) (fun z hz => hl z (by simp [hz])) he.symm
      omega
  | k + 1, x :: l, y :: l', hl, hl', he, hk, hs, hne => by
    simp only [List.length_cons, Nat.add_right_cancel_iff] at he
    have h0 : x = y := hs 0 (by omega)
    subst h0
    have := bn_lex (k := k) (fun z hz => hl z (by simp [hz])) (fun z hz => hl' z (by simp [hz])) he (by simpa using hk) (fun i hi => hs (i + 1) (by omega)) hne
    rw [bn_cons, bn_cons, he]
    show _ ↔ nth l k < nth l' k
    rw [<- this]
    omega
theorem leb_append (l : List Int) (x : Int) : leb (l ++ [x]) = leb l + 256 ^ l.length * x := by
  induction l with
  | nil => simp [leb]
  | cons y l ih => simp only [List.cons_append, leb, ih, List.length_cons, Int.pow_succ]; grind
theorem bn_rev (l : List Int) : bn l.reverse = leb l := by
  induction l with
  | nil => rfl
  | cons x l ih => rw [List.reverse_cons, bn_snoc, ih]; simp only [leb]; omega
section
variable {X : Tk} {L : Look} {ρ : Nat -> Int}
def Z28 : List Int := List.replicate 28 0
def B28 (ρ : Nat -> Int) (i : Nat) : List Int := (List.range 28).map fun j => ρ (i + j)
theorem vars28_eval (i : Nat) : (vars i 28).map (IE.eval ρ) = B28 ρ i := by rw [vars_eval]; rfl
theorem vars4_eval (i : Nat) : (vars i 4).map (IE.eval ρ) = Q4 ρ i := by rw [vars_eval]; rfl
theorem bdsB {n : Nat} (hs : Seen X L ρ) (h : L.bds = (List.range n).map fun i => (i, ((0 : Int), (255 : Int)))) : ∀ i, i < n -> byteOK (ρ i) := fun i hi => hs.bds (i, (0, 255)) (by rw [h]; exact List.mem_map.2 ⟨i, List.mem_range.2 hi, rfl⟩)
theorem bdsW {n : Nat} (hs : Seen X L ρ) (h : L.bds = (List.range n).map fun i => (i, W64)) : ∀ i, i < n -> 0 <= ρ i /\ ρ i <= 18446744073709551615 := fun i hi => hs.bds (i, W64) (by rw [h]; exact List.mem_map.2 ⟨i, List.mem_range.2 hi, rfl⟩)
def eqE (i : Nat) : IE := .bin .or .u8 (if i = 0 then .const 0 else .var (55 + i)) (.bin .xor .u8 (.var i) (.var (28 + i)))
def eqLk (r : Bool) : Look := ⟨[.const (if r then 1 else 0)], (List.range 56).map fun i => (i, ((0 : Int), (255 : Int))), (List.range 28).map (fun i => .eq (56 + i) (eqE i)) ++ [.test (.cmp .eql (.var 83) (.const 0)) r], []⟩
theorem eq_chain (hB : ∀ i, i < 56 -> byteOK (ρ i)) (hE : ∀ i, i < 28 -> ρ (56 + i) = (eqE i).eval ρ) : ∀ n, n < 28 -> byteOK (ρ (56 + n)) /\ (ρ (56 + n) = 0 ↔ ∀ i, i <= n -> ρ i = ρ (28 + i))
  | 0, _ => by
    have e := hE 0 (by decide)
    have h := or8 0 (ρ 0) (ρ 28) ⟨by decide, by decide⟩ (hB 0 (by decide)) (hB 28 (by decide))
    have e' : ρ (56 + 0) = intBin .or .u8 0 (intBin .xor .u8 (ρ 0) (ρ 28)) := e
    rw [e']
    refine ⟨h.1, h.2.trans ⟨fun q i hi => ?_, fun q => ⟨rfl, q 0 (Nat.le_refl _)⟩⟩⟩
    have : i = 0 := by omega
    subst this; exact q.2
  | n + 1, hn => by
    obtain ⟨h1, h2⟩ := eq_chain hB hE n (by omega)
    have e := hE (n + 1) hn
    have h := or8 (ρ (56 + n)) (ρ (n + 1)) (ρ (28 + (n + 1))) h1 (hB _ (by omega)) (hB _ (by omega))
    have e' : ρ (56 + (n + 1)) = intBin .or .u8 (ρ (56 + n)) (intBin .xor .u8 (ρ (n + 1)) (ρ (28 + (n + 1)))) := by
      rw [e]
      show intBin .or .u8 (IE.eval ρ (if n + 1 = 0 then .const 0 else .var (55 + (n + 1)))) _ = _
      rw [if_neg (by omega), show 55 + (n + 1) = 56 + n by omega]; rfl
    rw [e']
    refine ⟨h.1, h.2.trans ⟨fun q i hi => ?_, fun q => ⟨h2.2 fun i hi => q i (by omega), q (n + 1) (Nat.le_refl _)⟩⟩⟩
    rcases Nat.lt_or_ge n i with hlt | hge
    · have : i = n + 1 := by omega
      subst this; exact q.2
    · exact h2.1 q.1 i hge
theorem B28_eq {i j : Nat} : B28 ρ i = B28 ρ j ↔ ∀ k, k < 28 -> ρ (i + k) = ρ (j + k) := by
  unfold B28
  constructor
  · intro h k hk
    have := congrArg (·[k]?) h
    simp only [List.getElem?_map, List.getElem?_range hk, Option.map_some, Option.some.injEq] at this
    exact this
  · intro h
    exact List.map_congr_left fun k hk => h k (List.mem_range.1 hk)
theorem eqB_end (h : FJ X) (ta tb : Nat) (r : Bool) : EndP X (cmp28S 64 ta tb) 0 (eqLk r) := by
  refine endP_of _ 64 _ rfl rfl (fun ρ => B28 ρ 0 ++ B28 ρ 28 ++ [if r then 1 else 0]) (fun ρ => by cases r <;> kernel_rfl) fun ρ hs => (h.eqB _).2 ?_
  have hB := bdsB hs rfl
  have hE : ∀ i, i < 28 -> ρ (56 + i) = (eqE i).eval ρ := fun i hi => hs.ks (.eq (56 + i) (eqE i)) (List.mem_append_left _ (List.mem_map.2 ⟨i, List.mem_range.2 hi, rfl⟩))
  have hT : (BE.cmp .eql (.var 83) (.const 0)).eval ρ = r := hs.ks (.test (.cmp .eql (.var 83) (.const 0)) r) (List.mem_append_right _ (by simp))
  have hc := (eq_chain hB hE 27 (by decide)).2
  have e : B28 ρ 0 = B28 ρ 28 ↔ r = true := by
    rw [B28_eq, <- hT]
    simp only [BE.eval, intCmp, IE.eval, beq_iff_eq, Nat.zero_add]
    rw [hc]
    exact ⟨fun q i hi => q i (by omega), fun q i hi => q i (by omega)⟩
  show (nth (B28 ρ 0 ++ B28 ρ 28 ++ [if r then 1 else 0]) 56 = 0 \/ nth (B28 ρ 0 ++ B28 ρ 28 ++ [if r then 1 else 0]) 56 = 1) /\ (nth (B28 ρ 0 ++ B28 ρ 28 ++ [if r then 1 else 0]) 56 = 1 ↔ B28 ρ 0 = B28 ρ 28)
  rw [e, show nth (B28 ρ 0 ++ B28 ρ 28 ++ [if r then 1 else 0]) 56 = if r then 1 else 0 from rfl]
  cases r <;> simp
def leT (k : Nat) (r : Bool) : List Con := (List.range k).map (fun i => .test (.cmp .neq (.var i) (.var (28 + i))) false) ++ [.test (.cmp .neq (.var k) (.var (28 + k))) true, .test (.cmp .lss (.var k) (.var (28 + k))) r]
def leLk (k : Nat) (r : Bool) : Look := ⟨[.const (if r then 1 else 0)], (List.range 56).map fun i => (i, ((0 : Int), (255 : Int))), leT k r, []⟩
def leAll : Look := ⟨[.const 1], (List.range 56).map fun i => (i, ((0 : Int), (255 : Int))), (List.range 28).map fun i => .test (.cmp .neq (.var i) (.var (28 + i))) false, []⟩
def leDs : List (Nat × Look) := (List.range 28).flatMap (fun k => [(0, leLk k true), (0, leLk k false)]) ++ [(0, leAll)]
theorem nth_B28 (i k : Nat) (hk : k < 28) : nth (B28 ρ i) k = ρ (i + k) := by
  have h : ∀ (l : List Nat) (k : Nat) (hk : k < l.length), nth (l.map fun j => ρ (i + j)) k = ρ (i + l[k]) := by
    intro l
    induction l with
    | nil => intro k hk; simp at hk
    | cons x l ih =>
      intro k hk
      cases k with
      | zero => rfl
      | succ k => exact ih k (by simpa using hk)
  have := h (List.range 28) k (by simpa using hk)
  simpa [B28] using this
theorem B28_ok {i : Nat} (h : ∀ k, k < 28 -> byteOK (ρ (i + k))) : ∀ x ∈ B28 ρ i, byteOK x := fun x hx => by
  obtain ⟨k, hk, rfl⟩ := List.mem_map.1 hx
  exact h k (List.mem_range.1 hk)
theorem leB_core (h : FJ X) (ta tb : Nat) {L : Look} {r : Bool} (hn : L.nums = [.const (if r then 1 else 0)]) (hb : L.bds = (List.range 56).map fun i => (i, ((0 : Int), (255 : Int))))
    (hk : ∀ ρ, Seen X L ρ -> (bn (B28 ρ 0) <= bn (B28 ρ 28) ↔ r = true)) : EndP X (cmp28S 63 ta tb) 0 L := by
  obtain ⟨nums, bds, ks, ps⟩ := L
  simp only at hn hb
  subst hn; subst hb
  refine endP_of _ 63 _ rfl rfl (fun ρ => B28 ρ 0 ++ B28 ρ 28 ++ [if r then 1 else 0]) (fun ρ => by cases r <;> kernel_rfl) fun ρ hs => (h.leB _).2 ?_
  show (nth (B28 ρ 0 ++ B28 ρ 28 ++ [if r then 1 else 0]) 56 = 0 \/ nth (B28 ρ 0 ++ B28 ρ 28 ++ [if r then 1 else 0]) 56 = 1) /\ (nth (B28 ρ 0 ++ B28 ρ 28 ++ [if r then 1 else 0]) 56 = 1 ↔ bn (B28 ρ 0) <= bn (B28 ρ 28))
  rw [hk ρ hs, show nth (B28 ρ 0 ++ B28 ρ 28 ++ [if r then 1 else 0]) 56 = if r then 1 else 0 from rfl]
  cases r <;> simp
theorem neq_false {a b : IE} (h : (BE.cmp .neq a b).eval ρ = false) : a.eval ρ = b.eval ρ := by
  simpa [BE.eval, intCmp] using h
theorem leB_end (h : FJ X) (ta tb : Nat) : ∀ d ∈ leDs, EndP X (cmp28S 63 ta tb) d.1 d.2 := fun d hd => by
  rcases List.mem_append.1 hd with hd | hd
  · obtain ⟨k, hk, hd⟩ := List.mem_flatMap.1 hd
    have hk := List.mem_range.1 hk
    have key : ∀ r, EndP X (cmp28S 63 ta tb) 0 (leLk k r) := fun r => leB_core h ta tb rfl rfl fun ρ hs => by
      have hB := bdsB hs rfl
      have h1 : ∀ i, i < k -> ρ i = ρ (28 + i) := fun i hi => neq_false (hs.ks (.test (.cmp .neq (.var i) (.var (28 + i))) false) (List.mem_append_left _ (List.mem_map.2 ⟨i, List.mem_range.2 hi, rfl⟩)))
      have h2 : (BE.cmp .neq (.var k) (.var (28 + k))).eval ρ = true := hs.ks (.test (.cmp .neq (.var k) (.var (28 + k))) true) (List.mem_append_right _ (by simp))
      have h3 : (BE.cmp .lss (.var k) (.var (28 + k))).eval ρ = r := hs.ks (.test (.cmp .lss (.var k) (.var (28 + k))) r) (List.mem_append_right _ (by simp))
      have h2' : ρ k ≠ ρ (28 + k) := by simpa [BE.eval, intCmp, IE.eval] using h2
      rw [bn_lex (k := k) (B28_ok fun j hj => by rw [Nat.zero_add]; exact hB j (by omega)) (B28_ok fun j hj => hB (28 + j) (by omega)) (by simp [B28]) (by simpa [B28] using hk) (fun i hi => by
        rw [nth_B28 0 i (by omega), nth_B28 28 i (by omega), Nat.zero_add]; exact h1 i hi) (by rw [nth_B28 0 k hk, nth_B28 28 k hk, Nat.zero_add]; exact h2'), nth_B28 0 k hk, nth_B28 28 k hk, Nat.zero_add, <- h3]
      simp only [BE.eval, intCmp, IE.eval]
      exact ⟨fun q => decide_eq_true q, fun q => of_decide_eq_true q⟩
    simp only [List.mem_cons, List.not_mem_nil, or_false] at hd
    rcases hd with rfl | rfl
    · exact key true
    · exact key false
  · simp only [List.mem_singleton] at hd
    subst hd
    refine leB_core h ta tb (r := true) rfl rfl fun ρ hs => ?_
    have : B28 ρ 0 = B28 ρ 28 := B28_eq.2 fun i hi => by
      rw [Nat.zero_add]
      exact neq_false (hs.ks (.test (.cmp .neq (.var i) (.var (28 + i))) false) (List.mem_map.2 ⟨i, List.mem_range.2 hi, rfl⟩))
    rw [this]; simp
end
end Go.Vm
namespace Go.Proofs.YtmogojlijkddpaaGreat
open Go.Vm
variable {X : Tk}
theorem bP_chk : chkFn (execCall E0 3000 138 bPS.args bPS.start) bPS [(0, ⟨[], [], [], []⟩)] = true := by kernel_rfl
theorem bP_ok : SpecOK Tryz.prog X 138 bPS.spec := fn_sum E0_ok bP_chk (none_end rfl rfl)
theorem eqB_chk1 : chkFn (execCall E0 3000 169 (cmp28S 64 175 175).args (cmp28S 64 175 175).start) (cmp28S 64 175 175) [(0, eqLk true), (0, eqLk false)] = true := by kernel_rfl
theorem eqB_chk2 : chkFn (execCall E0 3000 169 (cmp28S 64 175 5).args (cmp28S 64 175 5).start) (cmp28S 64 175 5) [(0, eqLk true), (0, eqLk false)] = true := by kernel_rfl
theorem eqB_ds (h : FJ X) (ta tb : Nat) : ∀ d ∈ [((0 : Nat), eqLk true), (0, eqLk false)], EndP X (cmp28S 64 ta tb) d.1 d.2 := fun d hd => by
  simp only [List.mem_cons, List.not_mem_nil, or_false] at hd
  rcases hd with rfl | rfl
  · exact eqB_end h ta tb true
  · exact eqB_end h ta tb false
theorem eqB_ok (h : FJ X) : SpecOK Tryz.prog X 169 (orSp (cmp28S 64 175 175).spec (cmp28S 64 175 5).spec) := (fn_sum E0_ok eqB_chk1 (eqB_ds h _ _)).or (fn_sum E0_ok eqB_chk2 (eqB_ds h _ _))
theorem leB_chk : chkFn (execCall E0 3000 160 (cmp28S 63 5 175).args (cmp28S 63 5 175).start) (cmp28S 63 5 175) leDs = true := by kernel_rfl
theorem leB_ok (h : FJ X) : SpecOK Tryz.prog X 160 (cmp28S 63 5 175).spec := fn_sum E0_ok leB_chk (leB_end h _ _)
def selzLk : Look := ⟨[.var 14, .var 16, .var 18, .var 20], (List.range 12).map (fun i => (i, W64)) ++ [(12, (0, 1))], [.eq 13 (.mul (.var 12) (.const 18446744073709551615)), .eq 14 (.bin .or .u64 (.bin .and .u64 (.var 13) (.var 8)) (.bin .and .u64 (.bin .xor .u64 (.const 18446744073709551615) (.var 13)) (.var 4))), .eq 15 (.mul (.var 12) (.const 18446744073709551615)), .eq 16 (.bin .or .u64 (.bin .and .u64 (.var 15) (.var 9)) (.bin .and .u64 (.bin .xor .u64 (.const 18446744073709551615) (.var 15)) (.var 5))), .eq 17 (.mul (.var 12) (.const 18446744073709551615)), .eq 18 (.bin .or .u64 (.bin .and .u64 (.var 17) (.var 10)) (.bin .and .u64 (.bin .xor .u64 (.const 18446744073709551615) (.var 17)) (.var 6))), .eq 19 (.mul (.var 12) (.const 18446744073709551615)), .eq 20 (.bin .or .u64 (.bin .and .u64 (.var 19) (.var 11)) (.bin .and .u64 (.bin .xor .u64 (.const 18446744073709551615) (.var 19)) (.var 7)))], []⟩
theorem selz_chk : chkFn (execCall E0 3000 167 selzS.args selzS.start) selzS [(0, selzLk)] = true := by kernel_rfl
theorem selz_end (h : FJ X) : EndP X selzS 0 selzLk := by
  refine endP_of _ 66 _ rfl rfl (fun ρ => Q4 ρ 4 ++ Q4 ρ 8 ++ [ρ 12] ++ [ρ 14, ρ 16, ρ 18, ρ 20]) (fun ρ => by kernel_rfl) fun ρ hs => (h.selz _).2 ?_
  have hW : ∀ i, i < 12 -> 0 <= ρ i /\ ρ i <= 18446744073709551615 := fun i hi => hs.bds (i, W64) (List.mem_append_left _ (List.mem_map.2 ⟨i, List.mem_range.2 hi, rfl⟩))
  have hc : 0 <= ρ 12 /\ ρ 12 <= 1 := hs.bds (12, (0, 1)) (List.mem_append_right _ (by simp))
  have hc' : ρ 12 = 0 \/ ρ 12 = 1 := by omega
  have a0 : ρ 13 = ρ 12 * 18446744073709551615 := eqAt hs 0 (d := 13) (e := .mul (.var 12) (.const 18446744073709551615)) rfl
  have b0 : ρ 14 = intBin .or .u64 (intBin .and .u64 (ρ 13) (ρ 8)) (intBin .and .u64 (intBin .xor .u64 18446744073709551615 (ρ 13)) (ρ 4)) := eqAt hs 1 (d := 14) (e := .bin .or .u64 (.bin .and .u64 (.var 13) (.var 8)) (.bin .and .u64 (.bin .xor .u64 (.const 18446744073709551615) (.var 13)) (.var 4))) rfl
  rw [a0, selw _ _ _ hc' (hW 4 (by decide)) (hW 8 (by decide))] at b0
  have a1 : ρ 15 = ρ 12 * 18446744073709551615 := eqAt hs 2 (d := 15) (e := .mul (.var 12) (.const 18446744073709551615)) rfl
  have b1 : ρ 16 = intBin .or .u64 (intBin .and .u64 (ρ 15) (ρ 9)) (intBin .and .u64 (intBin .xor .u64 18446744073709551615 (ρ 15)) (ρ 5)) := eqAt hs 3 (d := 16) (e := .bin .or .u64 (.bin .and .u64 (.var 15) (.var 9)) (.bin .and .u64 (.bin .xor .u64 (.const 18446744073709551615) (.var 15)) (.var 5))) rfl
  rw [a1, selw _ _ _ hc' (hW 5 (by decide)) (hW 9 (by decide))] at b1
  have a2 : ρ 17 = ρ 12 * 18446744073709551615 := eqAt hs 4 (d := 17) (e := .mul (.var 12) (.const 18446744073709551615)) rfl
  have b2 : ρ 18 = intBin .or .u64 (intBin .and .u64 (ρ 17) (ρ 10)) (intBin .and .u64 (intBin .xor .u64 18446744073709551615 (ρ 17)) (ρ 6)) := eqAt hs 5 (d := 18) (e := .bin .or .u64 (.bin .and .u64 (.var 17) (.var 10)) (.bin .and .u64 (.bin .xor .u64 (.const 18446744073709551615) (.var 17)) (.var 6))) rfl
  rw [a2, selw _ _ _ hc' (hW 6 (by decide)) (hW 10 (by decide))] at b2
  have a3 : ρ 19 = ρ 12 * 18446744073709551615 := eqAt hs 6 (d := 19) (e := .mul (.var 12) (.const 18446744073709551615)) rfl
  have b3 : ρ 20 = intBin .or .u64 (intBin .and .u64 (ρ 19) (ρ 11)) (intBin .and .u64 (intBin .xor .u64 18446744073709551615 (ρ 19)) (ρ 7)) := eqAt hs 7 (d := 20) (e := .bin .or .u64 (.bin .and .u64 (.var 19) (.var 11)) (.bin .and .u64 (.bin .xor .u64 (.const 18446744073709551615) (.var 19)) (.var 7))) rfl
  rw [a3, selw _ _ _ hc' (hW 7 (by decide)) (hW 11 (by decide))] at b3
  show [ρ 14, ρ 16, ρ 18, ρ 20] = if ρ 12 = 1 then Q4 ρ 8 else Q4 ρ 4
  rw [b0, b1, b2, b3]
  split <;> rfl
theorem selz_ok (h : FJ X) : SpecOK Tryz.prog X 167 selzS.spec := fn_sum E0_ok selz_chk fun d hd => by
  simp only [List.mem_singleton] at hd
  subst hd
  exact selz_end h
def fromBLk : Look := ⟨[.var 62, .var 69, .var 76, .var 79], (List.range 32).map (fun i => (i, if i < 4 then W64 else (0, 255))) ++ [(62, W64), (69, W64), (76, W64), (79, W64)], [.eq 32 (.mul (.var 31) (.const 16777216)), .eq 33 (.mul (.var 30) (.const 65536)), .eq 34 (.mul (.var 29) (.const 256)), .eq 35 (.mul (.var 27) (.const 72057594037927936)), .eq 36 (.mul (.var 26) (.const 281474976710656)), .eq 37 (.mul (.var 25) (.const 1099511627776)), .eq 38 (.mul (.var 24) (.const 4294967296)), .eq 39 (.mul (.var 23) (.const 16777216)), .eq 40 (.mul (.var 22) (.const 65536)), .eq 41 (.mul (.var 21) (.const 256)), .eq 42 (.mul (.var 19) (.const 72057594037927936)), .eq 43 (.mul (.var 18) (.const 281474976710656)), .eq 44 (.mul (.var 17) (.const 1099511627776)), .eq 45 (.mul (.var 16) (.const 4294967296)), .eq 46 (.mul (.var 15) (.const 16777216)), .eq 47 (.mul (.var 14) (.const 65536)), .eq 48 (.mul (.var 13) (.const 256)), .eq 49 (.mul (.var 11) (.const 72057594037927936)), .eq 50 (.mul (.var 10) (.const 281474976710656)), .eq 51 (.mul (.var 9) (.const 1099511627776)), .eq 52 (.mul (.var 8) (.const 4294967296)), .eq 53 (.mul (.var 7) (.const 16777216)), .eq 54 (.mul (.var 6) (.const 65536)), .eq 55 (.mul (.var 5) (.const 256)), .eq 56 (.add (.var 55) (.var 4)), .eq 57 (.add (.var 54) (.var 56)), .eq 58 (.add (.var 53) (.var 57)), .eq 59 (.add (.var 52) (.var 58)), .eq 60 (.add (.var 51) (.var 59)), .eq 61 (.add (.var 50) (.var 60)), .eq 62 (.add (.var 49) (.var 61)), .eq 63 (.add (.var 48) (.var 12)), .eq 64 (.add (.var 47) (.var 63)), .eq 65 (.add (.var 46) (.var 64)), .eq 66 (.add (.var 45) (.var 65)), .eq 67 (.add (.var 44) (.var 66)), .eq 68 (.add (.var 43) (.var 67)), .eq 69 (.add (.var 42) (.var 68)), .eq 70 (.add (.var 41) (.var 20)), .eq 71 (.add (.var 40) (.var 70)), .eq 72 (.add (.var 39) (.var 71)), .eq 73 (.add (.var 38) (.var 72)), .eq 74 (.add (.var 37) (.var 73)), .eq 75 (.add (.var 36) (.var 74)), .eq 76 (.add (.var 35) (.var 75)), .eq 77 (.add (.var 34) (.var 28)), .eq 78 (.add (.var 33) (.var 77)), .eq 79 (.add (.var 32) (.var 78))], []⟩
theorem fromB_chk : chkFn (execCall E0 3000 162 fromBS.args fromBS.start) fromBS [(0, fromBLk)] = true := by kernel_rfl
theorem fromB_end (h : FJ X) : EndP X fromBS 0 fromBLk := by
  refine endP_of _ 60 _ rfl rfl (fun ρ => B28 ρ 4 ++ [ρ 62, ρ 69, ρ 76, ρ 79]) (fun ρ => by kernel_rfl) fun ρ hs => (h.fromB _).2 ?_
  have hw : ∀ i ∈ [62, 69, 76, 79], 0 <= ρ i /\ ρ i <= 18446744073709551615 := fun i hi => hs.bds (i, W64) (List.mem_append_right _ (by simpa using hi))
  have o0 := eqAt hs 0 (d := 32) (e := .mul (.var 31) (.const 16777216)) rfl
  have o1 := eqAt hs 1 (d := 33) (e := .mul (.var 30) (.const 65536)) rfl
  have o2 := eqAt hs 2 (d := 34) (e := .mul (.var 29) (.const 256)) rfl
  have o3 := eqAt hs 3 (d := 35) (e := .mul (.var 27) (.const 72057594037927936)) rfl
  have o4 := eqAt hs 4 (d := 36) (e := .mul (.var 26) (.const 281474976710656)) rfl
  have o5 := eqAt hs 5 (d := 37) (e := .mul (.var 25) (.const 1099511627776)) rfl
  have o6 := eqAt hs 6 (d := 38) (e := .mul (.var 24) (.const 4294967296)) rfl
  have o7 := eqAt hs 7 (d := 39) (e := .mul (.var 23) (.const 16777216)) rfl
  have o8 := eqAt hs 8 (d := 40) (e := .mul (.var 22) (.const 65536)) rfl
  have o9 := eqAt hs 9 (d := 41) (e := .mul (.var 21) (.const 256)) rfl
  have o10 := eqAt hs 10 (d := 42) (e := .mul (.var 19) (.const 72057594037927936)) rfl
  have o11 := eqAt hs 11 (d := 43) (e := .mul (.var 18) (.const 281474976710656)) rfl
  have o12 := eqAt hs 12 (d := 44) (e := .mul (.var 17) (.const 1099511627776)) rfl
  have o13 := eqAt hs 13 (d := 45) (e := .mul (.var 16) (.const 4294967296)) rfl
  have o14 := eqAt hs 14 (d := 46) (e := .mul (.var 15) (.const 16777216)) rfl
  have o15 := eqAt hs 15 (d := 47) (e := .mul (.var 14) (.const 65536)) rfl
  have o16 := eqAt hs 16 (d := 48) (e := .mul (.var 13) (.const 256)) rfl
  have o17 := eqAt hs 17 (d := 49) (e := .mul (.var 11) (.const 72057594037927936)) rfl
  have o18 := eqAt hs 18 (d := 50) (e := .mul (.var 10) (.const 281474976710656)) rfl
  have o19 := eqAt hs 19 (d := 51) (e := .mul (.var 9) (.const 1099511627776)) rfl
  have o20 := eqAt hs 20 (d := 52) (e := .mul (.var 8) (.const 4294967296)) rfl
  have o21 := eqAt hs 21 (d := 53) (e := .mul (.var 7) (.const 16777216)) rfl
  have o22 := eqAt hs 22 (d := 54) (e := .mul (.var 6) (.const 65536)) rfl
  have o23 := eqAt hs 23 (d := 55) (e := .mul (.var 5) (.const 256)) rfl
  have o24 := eqAt hs 24 (d := 56) (e := .add (.var 55) (.var 4)) rfl
  have o25 := eqAt hs 25 (d := 57) (e := .add (.var 54) (.var 56)) rfl
  have o26 := eqAt hs 26 (d := 58) (e := .add (.var 53) (.var 57)) rfl
  have o27 := eqAt hs 27 (d := 59) (e := .add (.var 52) (.var 58)) rfl
  have o28 := eqAt hs 28 (d := 60) (e := .add (.var 51) (.var 59)) rfl
  have o29 := eqAt hs 29 (d := 61) (e := .add (.var 50) (.var 60)) rfl
  have o30 := eqAt hs 30 (d := 62) (e := .add (.var 49) (.var 61)) rfl
  have o31 := eqAt hs 31 (d := 63) (e := .add (.var 48) (.var 12)) rfl
  have o32 := eqAt hs 32 (d := 64) (e := .add (.var 47) (.var 63)) rfl
  have o33 := eqAt hs 33 (d := 65) (e := .add (.var 46) (.var 64)) rfl
  have o34 := eqAt hs 34 (d := 66) (e := .add (.var 45) (.var 65)) rfl
  have o35 := eqAt hs 35 (d := 67) (e := .add (.var 44) (.var 66)) rfl
  have o36 := eqAt hs 36 (d := 68) (e := .add (.var 43) (.var 67)) rfl
  have o37 := eqAt hs 37 (d := 69) (e := .add (.var 42) (.var 68)) rfl
  have o38 := eqAt hs 38 (d := 70) (e := .add (.var 41) (.var 20)) rfl
  have o39 := eqAt hs 39 (d := 71) (e := .add (.var 40) (.var 70)) rfl
  have o40 := eqAt hs 40 (d := 72) (e := .add (.var 39) (.var 71)) rfl
  have o41 := eqAt hs 41 (d := 73) (e := .add (.var 38) (.var 72)) rfl
  have o42 := eqAt hs 42 (d := 74) (e := .add (.var 37) (.var 73)) rfl
  have o43 := eqAt hs 43 (d := 75) (e := .add (.var 36) (.var 74)) rfl
  have o44 := eqAt hs 44 (d := 76) (e := .add (.var 35) (.var 75)) rfl
  have o45 := eqAt hs 45 (d := 77) (e := .add (.var 34) (.var 28)) rfl
  have o46 := eqAt hs 46 (d := 78) (e := .add (.var 33) (.var 77)) rfl
  have o47 := eqAt hs 47 (d := 79) (e := .add (.var 32) (.var 78)) rfl
  simp only [IE.eval] at o0 o1 o2 o3 o4 o5 o6 o7 o8 o9 o10 o11 o12 o13 o14 o15 o16 o17 o18 o19 o20 o21 o22 o23 o24 o25 o26 o27 o28 o29 o30 o31 o32 o33 o34 o35 o36 o37 o38 o39 o40 o41 o42 o43 o44 o45 o46 o47
  refine ⟨fun i hi => ?_, ?_⟩
  · have : i = 0 \/ i = 1 \/ i = 2 \/ i = 3 := by omega
    rcases this with rfl | rfl | rfl | rfl
    · exact hw 62 (by decide)
    · exact hw 69 (by decide)
    · exact hw 76 (by decide)
    · exact hw 79 (by decide)
  · refine Eq.trans (by kernel_rfl : _ = ρ 62 + 18446744073709551616 * ρ 69 + 340282366920938463463374607431768211456 * ρ 76 + 6277101735386680763835789423207666416102355444464034512896 * ρ 79) (Eq.trans ?_ (by kernel_rfl : ρ 4 + 256 * (ρ 5 + 256 * (ρ 6 + 256 * (ρ 7 + 256 * (ρ 8 + 256 * (ρ 9 + 256 * (ρ 10 + 256 * (ρ 11 + 256 * (ρ 12 + 256 * (ρ 13 + 256 * (ρ 14 + 256 * (ρ 15 + 256 * (ρ 16 + 256 * (ρ 17 + 256 * (ρ 18 + 256 * (ρ 19 + 256 * (ρ 20 + 256 * (ρ 21 + 256 * (ρ 22 + 256 * (ρ 23 + 256 * (ρ 24 + 256 * (ρ 25 + 256 * (ρ 26 + 256 * (ρ 27 + 256 * (ρ 28 + 256 * (ρ 29 + 256 * (ρ 30 + 256 * (ρ 31 + 256 * (0)))))))))))))))))))))))))))) = _))
    clear hs hw
    omega
theorem fromB_ok (h : FJ X) : SpecOK Tryz.prog X 162 fromBS.spec := fn_sum E0_ok fromB_chk fun d hd => by
  simp only [List.mem_singleton] at hd
  subst hd
  exact fromB_end h
theorem mod_byte (x : Int) : byteOK (x % 256) := by unfold byteOK; omega
theorem by8 {w b0 q1 b1 q2 b2 q3 b3 q4 b4 q5 b5 q6 b6 b7 : Int} (h : 0 <= w /\ w <= 18446744073709551615) (h0 : b0 = w % 256) (g1 : q1 = w / 256) (h1 : b1 = q1 % 256) (g2 : q2 = q1 / 256) (h2 : b2 = q2 % 256) (g3 : q3 = q2 / 256)
    (h3 : b3 = q3 % 256) (g4 : q4 = q3 / 256) (h4 : b4 = q4 % 256) (g5 : q5 = q4 / 256) (h5 : b5 = q5 % 256) (g6 : q6 = q5 / 256) (h6 : b6 = q6 % 256) (h7 : b7 = q6 / 256) :
    b0 + 256 * b1 + 65536 * b2 + 16777216 * b3 + 4294967296 * b4 + 1099511627776 * b5 + 281474976710656 * b6 + 72057594037927936 * b7 = w /\ byteOK b7 := by unfold byteOK; omega
theorem by4 {w b0 q1 b1 q2 b2 b3 : Int} (h : 0 <= w /\ w < 4294967296) (h0 : b0 = w % 256) (g1 : q1 = w / 256) (h1 : b1 = q1 % 256) (g2 : q2 = q1 / 256) (h2 : b2 = q2 % 256) (h3 : b3 = q2 / 256 % 256) :
    b0 + 256 * b1 + 65536 * b2 + 16777216 * b3 = w := by omega
def toBLk : Look := ⟨[.var 32, .var 34, .var 36, .var 38, .var 40, .var 42, .var 44, .var 45, .var 46, .var 48, .var 50, .var 52, .var 54, .var 56, .var 58, .var 59, .var 60, .var 62, .var 64, .var 66, .var 68, .var 70, .var 72, .var 73, .var 74, .var 76, .var 78, .var 79], (List.range 4).map (fun i => (i, W64)), [.eq 32 (.bin .and .u8 (.wrap .u8 (.var 0)) (.const 255)), .eq 33 (.bin .shr .u64 (.var 0) (.const 8)), .eq 34 (.bin .and .u8 (.wrap .u8 (.var 33)) (.const 255)), .eq 35 (.bin .shr .u64 (.var 33) (.const 8)), .eq 36 (.bin .and .u8 (.wrap .u8 (.var 35)) (.const 255)), .eq 37 (.bin .shr .u64 (.var 35) (.const 8)), .eq 38 (.bin .and .u8 (.wrap .u8 (.var 37)) (.const 255)), .eq 39 (.bin .shr .u64 (.var 37) (.const 8)), .eq 40 (.bin .and .u8 (.wrap .u8 (.var 39)) (.const 255)), .eq 41 (.bin .shr .u64 (.var 39) (.const 8)), .eq 42 (.bin .and .u8 (.wrap .u8 (.var 41)) (.const 255)), .eq 43 (.bin .shr .u64 (.var 41) (.const 8)), .eq 44 (.bin .and .u8 (.wrap .u8 (.var 43)) (.const 255)), .eq 45 (.bin .shr .u64 (.var 43) (.const 8)), .eq 46 (.bin .and .u8 (.wrap .u8 (.var 1)) (.const 255)), .eq 47 (.bin .shr .u64 (.var 1) (.const 8)), .eq 48 (.bin .and .u8 (.wrap .u8 (.var 47)) (.const 255)), .eq 49 (.bin .shr .u64 (.var 47) (.const 8)), .eq 50 (.bin .and .u8 (.wrap .u8 (.var 49)) (.const 255)), .eq 51 (.bin .shr .u64 (.var 49) (.const 8)), .eq 52 (.bin .and .u8 (.wrap .u8 (.var 51)) (.const 255)), .eq 53 (.bin .shr .u64 (.var 51) (.const 8)), .eq 54 (.bin .and .u8 (.wrap .u8 (.var 53)) (.const 255)), .eq 55 (.bin .shr .u64 (.var 53) (.const 8)), .eq 56 (.bin .and .u8 (.wrap .u8 (.var 55)) (.const 255)), .eq 57 (.bin .shr .u64 (.var 55) (.const 8)), .eq 58 (.bin .and .u8 (.wrap .u8 (.var 57)) (.const 255)), .eq 59 (.bin .shr .u64 (.var 57) (.const 8)), .eq 60 (.bin .and .u8 (.wrap .u8 (.var 2)) (.const 255)), .eq 61 (.bin .shr .u64 (.var 2) (.const 8)), .eq 62 (.bin .and .u8 (.wrap .u8 (.var 61)) (.const 255)), .eq 63 (.bin .shr .u64 (.var 61) (.const 8)), .eq 64 (.bin .and .u8 (.wrap .u8 (.var 63)) (.const 255)), .eq 65 (.bin .shr .u64 (.var 63) (.const 8)), .eq 66 (.bin .and .u8 (.wrap .u8 (.var 65)) (.const 255)), .eq 67 (.bin .shr .u64 (.var 65) (.const 8)), .eq 68 (.bin .and .u8 (.wrap .u8 (.var 67)) (.const 255)), .eq 69 (.bin .shr .u64 (.var 67) (.const 8)), .eq 70 (.bin .and .u8 (.wrap .u8 (.var 69)) (.const 255)), .eq 71 (.bin .shr .u64 (.var 69) (.const 8)), .eq 72 (.bin .and .u8 (.wrap .u8 (.var 71)) (.const 255)), .eq 73 (.bin .shr .u64 (.var 71) (.const 8)), .eq 74 (.bin .and .u8 (.wrap .u8 (.var 3)) (.const 255)), .eq 75 (.bin .shr .u64 (.var 3) (.const 8)), .eq 76 (.bin .and .u8 (.wrap .u8 (.var 75)) (.const 255)), .eq 77 (.bin .shr .u64 (.var 75) (.const 8)), .eq 78 (.bin .and .u8 (.wrap .u8 (.var 77)) (.const 255)), .eq 79 (.wrap .u8 (.bin .shr .u64 (.var 77) (.const 8)))], []⟩
theorem toB_chk : chkFn (execCall E0 3000 172 toBS'.args toBS'.start) toBS' [(0, toBLk)] = true := by kernel_rfl
theorem shr8u (x : Int) : intBin .shr .u64 x 8 = x / 256 := by simp only [intBin, fdiv_pow]; rfl
theorem toB_end (h : FJ X) : EndP X toBS' 0 toBLk := by
  refine endP_of _ 62 _ rfl rfl (fun ρ => Q4 ρ 0 ++ [ρ 32, ρ 34, ρ 36, ρ 38, ρ 40, ρ 42, ρ 44, ρ 45, ρ 46, ρ 48, ρ 50, ρ 52, ρ 54, ρ 56, ρ 58, ρ 59, ρ 60, ρ 62, ρ 64, ρ 66, ρ 68, ρ 70, ρ 72, ρ 73, ρ 74, ρ 76, ρ 78, ρ 79]) (fun ρ => by kernel_rfl) fun ρ hs => (h.toB _).2 ?_
  have hw := bdsW hs rfl
  have o0 := eqAt hs 0 (d := 32) (e := .bin .and .u8 (.wrap .u8 (.var 0)) (.const 255)) rfl
  have o1 := eqAt hs 1 (d := 33) (e := .bin .shr .u64 (.var 0) (.const 8)) rfl
  have o2 := eqAt hs 2 (d := 34) (e := .bin .and .u8 (.wrap .u8 (.var 33)) (.const 255)) rfl
  have o3 := eqAt hs 3 (d := 35) (e := .bin .shr .u64 (.var 33) (.const 8)) rfl
  have o4 := eqAt hs 4 (d := 36) (e := .bin .and .u8 (.wrap .u8 (.var 35)) (.const 255)) rfl
  have o5 := eqAt hs 5 (d := 37) (e := .bin .shr .u64 (.var 35) (.const 8)) rfl
  have o6 := eqAt hs 6 (d := 38) (e := .bin .and .u8 (.wrap .u8 (.var 37)) (.const 255)) rfl
  have o7 := eqAt hs 7 (d := 39) (e := .bin .shr .u64 (.var 37) (.const 8)) rfl
  have o8 := eqAt hs 8 (d := 40) (e := .bin .and .u8 (.wrap .u8 (.var 39)) (.const 255)) rfl
  have o9 := eqAt hs 9 (d := 41) (e := .bin .shr .u64 (.var 39) (.const 8)) rfl
  have o10 := eqAt hs 10 (d := 42) (e := .bin .and .u8 (.wrap .u8 (.var 41)) (.const 255)) rfl
  have o11 := eqAt hs 11 (d := 43) (e := .bin .shr .u64 (.var 41) (.const 8)) rfl
  have o12 := eqAt hs 12 (d := 44) (e := .bin .and .u8 (.wrap .u8 (.var 43)) (.const 255)) rfl
  have o13 := eqAt hs 13 (d := 45) (e := .bin .shr .u64 (.var 43) (.const 8)) rfl
  have o14 := eqAt hs 14 (d := 46) (e := .bin .and .u8 (.wrap .u8 (.var 1)) (.const 255)) rfl
  have o15 := eqAt hs 15 (d := 47) (e := .bin .shr .u64 (.var 1) (.const 8)) rfl
  have o16 := eqAt hs 16 (d := 48) (e := .bin .and .u8 (.wrap .u8 (.var 47)) (.const 255)) rfl
  have o17 := eqAt hs 17 (d := 49) (e := .bin .shr .u64 (.var 47) (.const 8)) rfl
  have o18 := eqAt hs 18 (d := 50) (e := .bin .and .u8 (.wrap .u8 (.var 49)) (.const 255)) rfl
  have o19 := eqAt hs 19 (d := 51) (e := .bin .shr .u64 (.var 49) (.const 8)) rfl
  have o20 := eqAt hs 20 (d := 52) (e := .bin .and .u8 (.wrap .u8 (.var 51)) (.const 255)) rfl
  have o21 := eqAt hs 21 (d := 53) (e := .bin .shr .u64 (.var 51) (.const 8)) rfl
  have o22 := eqAt hs 22 (d := 54) (e := .bin .and .u8 (.wrap .u8 (.var 53)) (.const 255)) rfl
  have o23 := eqAt hs 23 (d := 55) (e := .bin .shr .u64 (.var 53) (.const 8)) rfl
  have o24 := eqAt hs 24 (d := 56) (e := .bin .and .u8 (.wrap .u8 (.var 55)) (.const 255)) rfl
  have o25 := eqAt hs 25 (d := 57) (e := .bin .shr .u64 (.var 55) (.const 8)) rfl
  have o26 := eqAt hs 26 (d := 58) (e := .bin .and .u8 (.wrap .u8 (.var 57)) (.const 255)) rfl
  have o27 := eqAt hs 27 (d := 59) (e := .bin .shr .u64 (.var 57) (.const 8)) rfl
  have o28 := eqAt hs 28 (d := 60) (e := .bin .and .u8 (.wrap .u8 (.var 2)) (.const 255)) rfl
  have o29 := eqAt hs 29 (d := 61) (e := .bin .shr .u64 (.var 2) (.const 8)) rfl
  have o30 := eqAt hs 30 (d := 62) (e := .bin .and .u8 (.wrap .u8 (.var 61)) (.const 255)) rfl
  have o31 := eqAt hs 31 (d := 63) (e := .bin .shr .u64 (.var 61) (.const 8)) rfl
  have o32 := eqAt hs 32 (d := 64) (e := .bin .and .u8 (.wrap .u8 (.var 63)) (.const 255)) rfl
  have o33 := eqAt hs 33 (d := 65) (e := .bin .shr .u64 (.var 63) (.const 8)) rfl
  have o34 := eqAt hs 34 (d := 66) (e := .bin .and .u8 (.wrap .u8 (.var 65)) (.const 255)) rfl
  have o35 := eqAt hs 35 (d := 67) (e := .bin .shr .u64 (.var 65) (.const 8)) rfl
  have o36 := eqAt hs 36 (d := 68) (e := .bin .and .u8 (.wrap .u8 (.var 67)) (.const 255)) rfl
  have o37 := eqAt hs 37 (d := 69) (e := .bin .shr .u64 (.var 67) (.const 8)) rfl
  have o38 := eqAt hs 38 (d := 70) (e := .bin .and .u8 (.wrap .u8 (.var 69)) (.const 255)) rfl
  have o39 := eqAt hs 39 (d := 71) (e := .bin .shr .u64 (.var 69) (.const 8)) rfl
  have o40 := eqAt hs 40 (d := 72) (e := .bin .and .u8 (.wrap .u8 (.var 71)) (.const 255)) rfl
  have o41 := eqAt hs 41 (d := 73) (e := .bin .shr .u64 (.var 71) (.const 8)) rfl
  have o42 := eqAt hs 42 (d := 74) (e := .bin .and .u8 (.wrap .u8 (.var 3)) (.const 255)) rfl
  have o43 := eqAt hs 43 (d := 75) (e := .bin .shr .u64 (.var 3) (.const 8)) rfl
  have o44 := eqAt hs 44 (d := 76) (e := .bin .and .u8 (.wrap .u8 (.var 75)) (.const 255)) rfl
  have o45 := eqAt hs 45 (d := 77) (e := .bin .shr .u64 (.var 75) (.const 8)) rfl
  have o46 := eqAt hs 46 (d := 78) (e := .bin .and .u8 (.wrap .u8 (.var 77)) (.const 255)) rfl
  have o47 := eqAt hs 47 (d := 79) (e := .wrap .u8 (.bin .shr .u64 (.var 77) (.const 8))) rfl
  simp only [IE.eval, and255, shr8u] at o0 o1 o2 o3 o4 o5 o6 o7 o8 o9 o10 o11 o12 o13 o14 o15 o16 o17 o18 o19 o20 o21 o22 o23 o24 o25 o26 o27 o28 o29 o30 o31 o32 o33 o34 o35 o36 o37 o38 o39 o40 o41 o42 o43 o44 o45 o46 o47
  rw [wrap8] at o47
  have w0 := hw 0 (by decide)
  have w1 := hw 1 (by decide)
  have w2 := hw 2 (by decide)
  have w3 := hw 3 (by decide)
  intro hlt
  have hlt' : ρ 0 + 18446744073709551616 * ρ 1 + 340282366920938463463374607431768211456 * ρ 2 + 6277101735386680763835789423207666416102355444464034512896 * ρ 3 < 26959946667150639794667015087019630673557916260026308143510066298881 := hlt
  have x3 : 0 <= ρ 3 /\ ρ 3 < 4294967296 := by clear hs hw hlt; omega
  have y0 := by8 w0 o0 o1 o2 o3 o4 o5 o6 o7 o8 o9 o10 o11 o12 o13
  have y1 := by8 w1 o14 o15 o16 o17 o18 o19 o20 o21 o22 o23 o24 o25 o26 o27
  have y2 := by8 w2 o28 o29 o30 o31 o32 o33 o34 o35 o36 o37 o38 o39 o40 o41
  have y3 := by4 x3 o42 o43 o44 o45 o46 o47
  refine ⟨fun x hx => ?_, ?_⟩
  · have hx : x ∈ [ρ 32, ρ 34, ρ 36, ρ 38, ρ 40, ρ 42, ρ 44, ρ 45, ρ 46, ρ 48, ρ 50, ρ 52, ρ 54, ρ 56, ρ 58, ρ 59, ρ 60, ρ 62, ρ 64, ρ 66, ρ 68, ρ 70, ρ 72, ρ 73, ρ 74, ρ 76, ρ 78, ρ 79] := hx
    simp only [List.mem_cons, List.not_mem_nil, or_false] at hx
    rcases hx with rfl | rfl | rfl | rfl | rfl | rfl | rfl | rfl | rfl | rfl | rfl | rfl | rfl | rfl | rfl | rfl | rfl | rfl | rfl | rfl | rfl | rfl | rfl | rfl | rfl | rfl | rfl | rfl
    · rw [o0]; exact mod_byte _
    · rw [o2]; exact mod_byte _
    · rw [o4]; exact mod_byte _
    · rw [o6]; exact mod_byte _
    · rw [o8]; exact mod_byte _
    · rw [o10]; exact mod_byte _
    · rw [o12]; exact mod_byte _
    · exact y0.2
    · rw [o14]; exact mod_byte _
    · rw [o16]; exact mod_byte _
    · rw [o18]; exact mod_byte _
    · rw [o20]; exact mod_byte _
    · rw [o22]; exact mod_byte _
    · rw [o24]; exact mod_byte _
    · rw [o26]; exact mod_byte _
    · exact y1.2
    · rw [o28]; exact mod_byte _
    · rw [o30]; exact mod_byte _
    · rw [o32]; exact mod_byte _
    · rw [o34]; exact mod_byte _
    · rw [o36]; exact mod_byte _
    · rw [o38]; exact mod_byte _
    · rw [o40]; exact mod_byte _
    · exact y2.2
    · rw [o42]; exact mod_byte _
    · rw [o44]; exact mod_byte _
    · rw [o46]; exact mod_byte _
    · rw [o47]; exact mod_byte _
  · refine Eq.trans (by kernel_rfl : _ = ρ 32 + 256 * (ρ 34 + 256 * (ρ 36 + 256 * (ρ 38 + 256 * (ρ 40 + 256 * (ρ 42 + 256 * (ρ 44 + 256 * (ρ 45 + 256 * (ρ 46 + 256 * (ρ 48 + 256 * (ρ 50 + 256 * (ρ 52 + 256 * (ρ 54 + 256 * (ρ 56 + 256 * (ρ 58 + 256 * (ρ 59 + 256 * (ρ 60 + 256 * (ρ 62 + 256 * (ρ 64 + 256 * (ρ 66 + 256 * (ρ 68 + 256 * (ρ 70 + 256 * (ρ 72 + 256 * (ρ 73 + 256 * (ρ 74 + 256 * (ρ 76 + 256 * (ρ 78 + 256 * (ρ 79 + 256 * (0))))))))))))))))))))))))))))) (Eq.trans ?_ (by kernel_rfl : ρ 0 + 18446744073709551616 * ρ 1 + 340282366920938463463374607431768211456 * ρ 2 + 6277101735386680763835789423207666416102355444464034512896 * ρ 3 = _))
    have z0 := y0.1
    have z1 := y1.1
    have z2 := y2.1
    clear hs hw hlt y0 y1 y2 o0 o1 o2 o3 o4 o5 o6 o7 o8 o9 o10 o11 o12 o13 o14 o15 o16 o17 o18 o19 o20 o21 o22 o23 o24 o25 o26 o27 o28 o29 o30 o31 o32 o33 o34 o35 o36 o37 o38 o39 o40 o41 o42 o43 o44 o45 o46 o47
    omega
theorem toB_ok (h : FJ X) : SpecOK Tryz.prog X 172 toBS'.spec := fn_sum E0_ok toB_chk fun d hd => by
  simp only [List.mem_singleton] at hd
  subst hd
  exact toB_end h
def specC (f : FuncId) : Option (Fs) :=
  match f with
  | 138 => some bPS.spec | 169 => some (orSp (cmp28S 64 175 175).spec (cmp28S 64 175 5).spec) | 160 => some (cmp28S 63 5 175).spec | 167 => some selzS.spec | 162 => some fromBS.spec | 172 => some toBS'.spec
  | f => specB f
theorem specC_ok (h : FJ X) : ∀ f sp, specC f = some sp -> FnOK Tryz.prog f /\ SpecOK Tryz.prog X f sp := fun f sp hs => by
  unfold specC at hs
  split at hs
  · simp only [Option.some.injEq] at hs; subst hs; exact ⟨fn_ok Tryz.func138 (by kernel_rfl) (by kernel_rfl), bP_ok⟩
  · simp only [Option.some.injEq] at hs; subst hs; exact ⟨fn_ok Tryz.func169 (by kernel_rfl) (by kernel_rfl), eqB_ok h⟩
  · simp only [Option.some.injEq] at hs; subst hs; exact ⟨fn_ok Tryz.func160 (by kernel_rfl) (by kernel_rfl), leB_ok h⟩
  · simp only [Option.some.injEq] at hs; subst hs; exact ⟨fn_ok Tryz.func167 (by kernel_rfl) (by kernel_rfl), selz_ok h⟩
  · simp only [Option.some.injEq] at hs; subst hs; exact ⟨fn_ok Tryz.func162 (by kernel_rfl) (by kernel_rfl), fromB_ok h⟩
  · simp only [Option.some.injEq] at hs; subst hs; exact ⟨fn_ok Tryz.func172 (by kernel_rfl) (by kernel_rfl), toB_ok h⟩
  · exact specB_ok h.toFI f sp hs
def EC : Env := mkEnv Tryz.prog tyTree fnTree ext0 specC
theorem EC_ok (h : FJ X) : EnvOK Tryz.prog X EC := mkEnv_ok mixed_ok tys_ok fns_ok names_ok ext0_ok (specC_ok h)
end Go.Proofs.YtmogojlijkddpaaGreat
namespace Go.Vm
section
variable {p : Nat} [NeZero p]
theorem fc1 (r w R i : Fin p) (h : R * i = 1) (e : r * i = w * (1 * i)) : r = w := by grobner
theorem fc2 (w R i : Fin p) (h : R * i = 1) : w * i * (R * R * i) = w := by grobner
theorem fc3 (w R i : Fin p) (h : R * i = 1) (e : w * i = 0) : w = 0 := by grobner
theorem fc4 (a b R i : Fin p) (h : R * i = 1) (e : a * i = b * i) : a = b := by grobner
end
theorem bytes_inj {l l' : List Int} (h : ∀ x ∈ l, byteOK x) (h' : ∀ x ∈ l', byteOK x) (he : l.length = 28) (he' : l'.length = 28) (e : bn l = bn l') : l = l' := by
  rw [<- toB_bn 28 l he h, e, toB_bn 28 l' he' h']
theorem z28_ok : ∀ x ∈ Z28, byteOK x := fun x hx => by
  rw [(List.mem_replicate.1 hx).2]; exact ⟨by decide, by decide⟩
theorem bn_z28 : bn Z28 = 0 := by decide
theorem red_bn {l : List Int} (h : ∀ x ∈ l, byteOK x) (hl : bn l < p224) : red (bn l) := ⟨bn_nonneg h, hl⟩
theorem B28_len {ρ : Nat -> Int} {i : Nat} : (B28 ρ i).length = 28 := by simp [B28]
section
variable {X : Tk} {L : Look} {ρ : Nat -> Int}
theorem mulT (h : FI X) {a b r : List Int} (ha : a.length = 4) (hb : b.length = 4) (hr : r.length = 4) (oa : okE a) (ob : okE b) (t : X 1 (a ++ b ++ r)) : okE r /\ dv r = dv a * dv b := dv_mul ha hb hr oa ob ((h.mul _).1 t)
theorem addT (h : FI X) {a b r : List Int} (ha : a.length = 4) (hb : b.length = 4) (hr : r.length = 4) (oa : okE a) (ob : okE b) (t : X 3 (a ++ b ++ r)) : okE r /\ dv r = dv a + dv b := dv_add ha hb hr oa ob ((h.add _).1 t)
theorem subT (h : FI X) {a b r : List Int} (ha : a.length = 4) (hb : b.length = 4) (hr : r.length = 4) (oa : okE a) (ob : okE b) (t : X 2 (a ++ b ++ r)) : okE r /\ dv r = dv a - dv b := dv_sub ha hb hr oa ob ((h.sub _).1 t)
theorem of28' {a : List Int} (h : a.length = 28) : ∃ ρ, a = B28 ρ 0 := ⟨fun i => nth a i, by
  apply List.ext_getElem?
  intro i
  unfold B28
  rw [List.getElem?_map]
  by_cases hi : i < 28
  · rw [List.getElem?_range hi]
    simp only [Option.map_some, Nat.zero_add]
    have : ∀ (l : List Int) (i : Nat) (hi : i < l.length), l[i]? = some (nth l i) := by
      intro l
      induction l with
      | nil => intro i hi; simp at hi
      | cons x l ih =>
        intro i hi
        cases i with
        | zero => rfl
        | succ i =>
          have := ih i (by simpa using hi)
          rw [List.getElem?_cons_succ]
          exact this
    exact this a i (by omega)
  · rw [List.getElem?_eq_none (by omega), List.getElem?_eq_none (by simp; omega)]; rfl⟩
theorem eBytT (h : FJ X) {w bs : List Int} (hw : w.length = 4) (hb : bs.length = 28) (ow : okE w) (t : X 61 (w ++ bs)) : (∀ x ∈ bs, byteOK x) /\ φ (bn bs) = dv w /\ bn bs < p224 := by
  obtain ⟨ρ, rfl⟩ := of4 hw
  obtain ⟨σ, rfl⟩ := of28' hb
  have t' : okE (Q4 ρ 0) -> (∀ x ∈ B28 σ 0, byteOK x) /\ φ (bn (B28 σ 0)) = dv (Q4 ρ 0) /\ bn (B28 σ 0) < p224 := Eq.mp (by kernel_rfl) ((h.eByt _).1 t)
  exact t' ow
theorem eqBT (h : FJ X) {a b : List Int} {r : Int} (ha : a.length = 28) (hb : b.length = 28) (t : X 64 (a ++ b ++ [r])) : (r = 0 \/ r = 1) /\ (r = 1 ↔ a = b) := by
  obtain ⟨ρ, rfl⟩ := of28' ha
  obtain ⟨σ, rfl⟩ := of28' hb
  exact Eq.mp (by kernel_rfl) ((h.eqB _).1 t)
theorem leBT (h : FJ X) {a b : List Int} {r : Int} (ha : a.length = 28) (hb : b.length = 28) (t : X 63 (a ++ b ++ [r])) : (r = 0 \/ r = 1) /\ (r = 1 ↔ bn a <= bn b) := by
  obtain ⟨ρ, rfl⟩ := of28' ha
  obtain ⟨σ, rfl⟩ := of28' hb
  exact Eq.mp (by kernel_rfl) ((h.leB _).1 t)
theorem fromBT (h : FJ X) {a w : List Int} (ha : a.length = 28) (hw : w.length = 4) (t : X 60 (a ++ w)) : wordsOK w /\ wv4 w = leb a := by
  obtain ⟨ρ, rfl⟩ := of28' ha
  obtain ⟨σ, rfl⟩ := of4 hw
  exact Eq.mp (by kernel_rfl) ((h.fromB _).1 t)
theorem toBT (h : FJ X) {a w : List Int} (ha : a.length = 28) (hw : w.length = 4) (ow : wv4 w < Go.Proofs.YtmogojlijkddpaaGreat.pp) (t : X 62 (w ++ a)) : (∀ x ∈ a, byteOK x) /\ leb a = wv4 w := by
  obtain ⟨ρ, rfl⟩ := of28' ha
  obtain ⟨σ, rfl⟩ := of4 hw
  have t' : wv4 (Q4 σ 0) < Go.Proofs.YtmogojlijkddpaaGreat.pp -> (∀ x ∈ B28 ρ 0, byteOK x) /\ leb (B28 ρ 0) = wv4 (Q4 σ 0) := Eq.mp (by kernel_rfl) ((h.toB _).1 t)
  exact t' ow
def one4 : List Int := [1, 0, 0, 0]
theorem one4_ok : okE one4 := ⟨by decide, by decide⟩
theorem dv_one4 : dv one4 = 1 * Ri := by
  have : wv4 one4 = 1 := by decide
  unfold dv; rw [this, φ_one]
def rr4 : List Int := [18446744069414584321, 18446744069414584320, 18446744065119617024, 4294967295]
theorem rr4_ok : okE rr4 := ⟨by decide, by decide⟩
theorem dv_rr4 : dv rr4 = φ R256 * φ R256 * Ri := by
  have : φ (wv4 rr4) = φ R256 * φ R256 := by
    rw [<- φ_mul]; exact zc_eq (by rw [<- p224_eq]; decide)
  unfold dv; rw [this]
end
def eBytesLk : Look := ⟨(List.range 28).map (fun j => .var (35 - j)), [], [.ext 1 (vars 0 4 ++ [.const 1, .const 0, .const 0, .const 0] ++ vars 4 4), .ext 62 (vars 4 32)], []⟩
def isZLk : Look := ⟨[.var 32], [], [.ext 61 (vars 0 32), .ext 64 (vars 4 28 ++ List.replicate 28 (.const 0) ++ [.var 32])], []⟩
def eqELk : Look := ⟨[.var 64], [], [.ext 61 (vars 0 4 ++ vars 8 28), .ext 61 (vars 4 4 ++ vars 36 28), .ext 64 (vars 8 57)], []⟩
def selELk : Look := ⟨vars 13 4, [], [.ext 66 (vars 8 4 ++ vars 4 4 ++ vars 12 5)], []⟩
def setBK : List Con := [.ext 2 ([.const 0, .const 0, .const 0, .const 0, .const 18446744069414584320, .const 18446744073709551615, .const 0, .const 0] ++ vars 32 4), .ext 61 (vars 32 32), .ext 63 (vars 4 28 ++ vars 36 29)]
def setBLk1 : Look := ⟨[], (List.range 28).map (fun i => (4 + i, ((0 : Int), (255 : Int)))), setBK ++ [.test (.cmp .eql (.var 64) (.const 0)) true], []⟩
def setBLk0 : Look := ⟨vars 69 4, (List.range 28).map (fun i => (4 + i, ((0 : Int), (255 : Int)))), setBK ++ [.test (.cmp .eql (.var 64) (.const 0)) false, .ext 60 ((List.range 28).map (fun j => .var (31 - j)) ++ vars 65 4), .ext 1 (vars 65 4 ++ [.const 18446744069414584321, .const 18446744069414584320, .const 18446744065119617024, .const 4294967295] ++ vars 69 4)], []⟩
section
variable {X : Tk}
theorem eBytes_end (h : FJ X) : EndP X eBytesS 0 eBytesLk := by
  refine endP_of _ 61 _ rfl rfl (fun ρ => Q4 ρ 0 ++ (B28 ρ 8).reverse) (fun ρ => by kernel_rfl) fun ρ hs => (h.eByt _).2 ?_
  refine Eq.mp (by kernel_rfl : (okE (Q4 ρ 0) -> (∀ x ∈ (B28 ρ 8).reverse, byteOK x) /\ φ (bn (B28 ρ 8).reverse) = dv (Q4 ρ 0) /\ bn (B28 ρ 8).reverse < p224) = _) ?_
  intro ow
  obtain ⟨o1, e1⟩ := mulT h.toFI (a := Q4 ρ 0) (b := one4) (r := Q4 ρ 4) rfl rfl rfl ow one4_ok (tokAt hs 0 (by kernel_rfl))
  obtain ⟨o2, e2⟩ := toBT h (a := B28 ρ 8) (w := Q4 ρ 4) B28_len rfl o1.2 (tokAt hs 1 (by kernel_rfl))
  rw [dv_one4] at e1
  have e3 := fc1 _ _ _ _ RRi e1
  rw [bn_rev, e2]
  exact ⟨fun x hx => o2 x (List.mem_reverse.1 hx), e3, o1.2⟩
theorem isZ_end (h : FJ X) : EndP X isZS 0 isZLk := by
  refine endP_of _ 67 _ rfl rfl (fun ρ => Q4 ρ 0 ++ [ρ 32]) (fun ρ => by kernel_rfl) fun ρ hs => (h.isZ _).2 ?_
  refine Eq.mp (by kernel_rfl : (okE (Q4 ρ 0) -> (ρ 32 = 0 \/ ρ 32 = 1) /\ (ρ 32 = 1 ↔ dv (Q4 ρ 0) = 0)) = _) ?_
  intro ow
  obtain ⟨b1, b2, b3⟩ := eBytT h (w := Q4 ρ 0) (bs := B28 ρ 4) rfl B28_len ow (tokAt hs 0 (by kernel_rfl))
  obtain ⟨c1, c2⟩ := eqBT h (a := B28 ρ 4) (b := Z28) (r := ρ 32) B28_len rfl (tokAt hs 1 (by kernel_rfl))
  refine ⟨c1, c2.trans ?_⟩
  rw [<- b2]
  constructor
  · intro e; rw [e, bn_z28, φ_zero]
  · intro e
    refine bytes_inj b1 z28_ok B28_len rfl ?_
    rw [bn_z28]
    exact φ_inj (red_bn b1 b3) red_zero (e.trans φ_zero.symm)
theorem eqE_end (h : FJ X) : EndP X eqES 0 eqELk := by
  refine endP_of _ 68 _ rfl rfl (fun ρ => Q4 ρ 0 ++ Q4 ρ 4 ++ [ρ 64]) (fun ρ => by kernel_rfl) fun ρ hs => (h.eqE _).2 ?_
  refine Eq.mp (by kernel_rfl : (okE (Q4 ρ 0) -> okE (Q4 ρ 4) -> (ρ 64 = 0 \/ ρ 64 = 1) /\ (ρ 64 = 1 ↔ dv (Q4 ρ 0) = dv (Q4 ρ 4))) = _) ?_
  intro oa ob
  obtain ⟨a1, a2, a3⟩ := eBytT h (w := Q4 ρ 0) (bs := B28 ρ 8) rfl B28_len oa (tokAt hs 0 (by kernel_rfl))
  obtain ⟨b1, b2, b3⟩ := eBytT h (w := Q4 ρ 4) (bs := B28 ρ 36) rfl B28_len ob (tokAt hs 1 (by kernel_rfl))
  obtain ⟨c1, c2⟩ := eqBT h (a := B28 ρ 8) (b := B28 ρ 36) (r := ρ 64) B28_len B28_len (tokAt hs 2 (by kernel_rfl))
  refine ⟨c1, c2.trans ?_⟩
  rw [<- a2, <- b2]
  exact ⟨fun e => by rw [e], fun e => bytes_inj a1 b1 B28_len B28_len (φ_inj (red_bn a1 a3) (red_bn b1 b3) e)⟩
theorem setB_core (h : FJ X) {L : Look} {ρ : Nat -> Int} (hs : Seen X L ρ) (hk : ∀ (i : Nat), i < 3 -> L.ks[i]? = setBK[i]?) : (ρ 64 = 0 \/ ρ 64 = 1) /\ (ρ 64 = 1 ↔ bn (B28 ρ 4) < p224) := by
  have t0 : X 2 (zeroL ++ oneL ++ Q4 ρ 32) := tokAt hs 0 (by rw [hk 0 (by decide)]; kernel_rfl)
  have t1 : X 61 (Q4 ρ 32 ++ B28 ρ 36) := tokAt hs 1 (by rw [hk 1 (by decide)]; kernel_rfl)
  have t2 : X 63 (B28 ρ 4 ++ B28 ρ 36 ++ [ρ 64]) := tokAt hs 2 (by rw [hk 2 (by decide)]; kernel_rfl)
  obtain ⟨o0, e0⟩ := subT h.toFI rfl rfl rfl zero_ok one_ok t0
  obtain ⟨b1, b2, b3⟩ := eBytT h rfl B28_len o0 t1
  obtain ⟨c1, c2⟩ := leBT h B28_len B28_len t2
  rw [e0, dv_zero, dv_one] at b2
  have e : bn (B28 ρ 36) = p224 - 1 := by
    refine φ_inj (red_bn b1 b3) ⟨by decide, by decide⟩ (b2.trans ?_)
    rw [<- φ_one, <- φ_zero, <- φ_sub]
    exact zc_eq (by rw [<- p224_eq]; decide)
  refine ⟨c1, c2.trans ?_⟩
  rw [e]; omega
theorem setB_end1 (h : FJ X) (te : String) : EndP X (setBS te) 1 setBLk1 := by
  refine endP_of _ 69 _ rfl rfl (fun ρ => B28 ρ 4) (fun ρ => by kernel_rfl) fun ρ hs => (h.setNo _).2 ?_
  have hc := setB_core h hs fun i hi => by
    have : i = 0 \/ i = 1 \/ i = 2 := by omega
    rcases this with rfl | rfl | rfl <;> rfl
  have ht : (BE.cmp .eql (.var 64) (.const 0)).eval ρ = true := testAt hs 3 rfl
  have ht' : ρ 64 = 0 := by simpa [BE.eval, intCmp, IE.eval] using ht
  intro hlt
  have := hc.2.2 hlt
  omega
theorem setB_end0 (h : FJ X) (te : String) : EndP X (setBS te) 0 setBLk0 := by
  refine endP_of _ 65 _ rfl rfl (fun ρ => B28 ρ 4 ++ Q4 ρ 69) (fun ρ => by kernel_rfl) fun ρ hs => (h.setB _).2 ?_
  refine Eq.mp (by kernel_rfl : (bn (B28 ρ 4) < p224 /\ okE (Q4 ρ 69) /\ dv (Q4 ρ 69) = φ (bn (B28 ρ 4))) = _) ?_
  have hc := setB_core h hs fun i hi => by
    have : i = 0 \/ i = 1 \/ i = 2 := by omega
    rcases this with rfl | rfl | rfl <;> rfl
  have ht : (BE.cmp .eql (.var 64) (.const 0)).eval ρ = false := testAt hs 3 rfl
  have ht' : ρ 64 ≠ 0 := by simpa [BE.eval, intCmp, IE.eval] using ht
  have hlt := hc.2.1 (by have := hc.1; omega)
  have hB : ∀ x ∈ B28 ρ 4, byteOK x := B28_ok fun k hk => hs.bds (4 + k, (0, 255)) (List.mem_map.2 ⟨k, List.mem_range.2 hk, rfl⟩)
  obtain ⟨f1, f2⟩ := fromBT h (a := (B28 ρ 4).reverse) (w := Q4 ρ 65) (by simp [B28]) rfl (tokAt hs 4 (by kernel_rfl))
  have e0 : wv4 (Q4 ρ 65) = bn (B28 ρ 4) := by rw [f2, <- bn_rev, List.reverse_reverse]
  have ow : okE (Q4 ρ 65) := ⟨by rw [e0]; exact bn_nonneg hB, by rw [e0]; exact hlt⟩
  obtain ⟨o1, e1⟩ := mulT h.toFI (a := Q4 ρ 65) (b := rr4) (r := Q4 ρ 69) rfl rfl rfl ow rr4_ok (tokAt hs 5 (by kernel_rfl))
  refine ⟨hlt, o1, ?_⟩
  rw [e1, dv_rr4]
  show φ (wv4 (Q4 ρ 65)) * Ri * (φ R256 * φ R256 * Ri) = _
  rw [fc2 _ _ _ RRi, e0]
end
end Go.Vm
namespace Go.Proofs.YtmogojlijkddpaaGreat
open Go.Vm
variable {X : Tk}
theorem eBytes_chk : chkFn (execCall EC 3000 149 eBytesS.args eBytesS.start) eBytesS [(0, eBytesLk)] = true := by kernel_rfl
theorem one_ds {s : Sm} {L : Look} (h : EndP X s 0 L) : ∀ d ∈ [((0 : Nat), L)], EndP X s d.1 d.2 := fun d hd => by
  simp only [List.mem_singleton] at hd
  subst hd
  exact h
theorem eBytes_ok (h : FJ X) : SpecOK Tryz.prog X 149 eBytesS.spec := fn_sum (EC_ok h) eBytes_chk (one_ds (eBytes_end h))
def specD0 (f : FuncId) : Option (Fs) := match f with | 149 => some eBytesS.spec | f => specC f
theorem specD0_ok (h : FJ X) : ∀ f sp, specD0 f = some sp -> FnOK Tryz.prog f /\ SpecOK Tryz.prog X f sp := fun f sp hs => by
  unfold specD0 at hs
  split at hs
  · simp only [Option.some.injEq] at hs; subst hs; exact ⟨fn_ok Tryz.func149 (by kernel_rfl) (by kernel_rfl), eBytes_ok h⟩
  · exact specC_ok h f sp hs
def ED0 : Env := mkEnv Tryz.prog tyTree fnTree ext0 specD0
theorem ED0_ok (h : FJ X) : EnvOK Tryz.prog X ED0 := mkEnv_ok mixed_ok tys_ok fns_ok names_ok ext0_ok (specD0_ok h)
theorem isZ_chk : chkFn (execCall ED0 3000 154 isZS.args isZS.start) isZS [(0, isZLk)] = true := by kernel_rfl
theorem isZ_ok (h : FJ X) : SpecOK Tryz.prog X 154 isZS.spec := fn_sum (ED0_ok h) isZ_chk (one_ds (isZ_end h))
theorem eqE_chk : chkFn (execCall ED0 3000 164 eqES.args eqES.start) eqES [(0, eqELk)] = true := by kernel_rfl
theorem eqE_ok (h : FJ X) : SpecOK Tryz.prog X 164 eqES.spec := fn_sum (ED0_ok h) eqE_chk (one_ds (eqE_end h))
theorem selE_chk : chkFn (execCall ED0 3000 150 selES.args selES.start) selES [(0, selELk)] = true := by kernel_rfl
theorem selE_ok (h : FJ X) : SpecOK Tryz.prog X 150 selES.spec := fn_sum (ED0_ok h) selE_chk (one_ds (endP_same _ 66 _ (vars 8 4 ++ vars 4 4 ++ vars 12 5) rfl rfl (by simp [selELk]) fun ρ => by kernel_rfl))
def eMsg : String := "invalid P224Element encoding"
theorem setB_chk : chkFn (execCall ED0 3000 145 (setBS eMsg).args (setBS eMsg).start) (setBS eMsg) [(1, setBLk1), (0, setBLk0)] = true := by kernel_rfl
theorem setB_ok (h : FJ X) : SpecOK Tryz.prog X 145 (setBS eMsg).spec := fn_sum (ED0_ok h) setB_chk fun d hd => by
  simp only [List.mem_cons, List.not_mem_nil, or_false] at hd
  rcases hd with rfl | rfl
  · exact setB_end1 h eMsg
  · exact setB_end0 h eMsg
def specD (f : FuncId) : Option (Fs) :=
  match f with
  | 154 => some isZS.spec | 164 => some eqES.spec | 150 => some selES.spec | 145 => some (setBS eMsg).spec
  | f => specD0 f
theorem specD_ok (h : FJ X) : ∀ f sp, specD f = some sp -> FnOK Tryz.prog f /\ SpecOK Tryz.prog X f sp := fun f sp hs => by
  unfold specD at hs
  split at hs
  · simp only [Option.some.injEq] at hs; subst hs; exact ⟨fn_ok Tryz.func154 (by kernel_rfl) (by kernel_rfl), isZ_ok h⟩
  · simp only [Option.some.injEq] at hs; subst hs; exact ⟨fn_ok Tryz.func164 (by kernel_rfl) (by kernel_rfl), eqE_ok h⟩
  · simp only [Option.some.injEq] at hs; subst hs; exact ⟨fn_ok Tryz.func150 (by kernel_rfl) (by kernel_rfl), selE_ok h⟩
  · simp only [Option.some.injEq] at hs; subst hs; exact ⟨fn_ok Tryz.func145 (by kernel_rfl) (by kernel_rfl), setB_ok h⟩
  · exact specD0_ok h f sp hs
def ED : Env := mkEnv Tryz.prog tyTree fnTree ext0 specD
theorem ED_ok (h : FJ X) : EnvOK Tryz.prog X ED := mkEnv_ok mixed_ok tys_ok fns_ok names_ok ext0_ok (specD_ok h)
end Go.Proofs.YtmogojlijkddpaaGreat
namespace Go.Vm
def ptBs (i : Nat) : List Blk := [nE i, nE (i + 4), nE (i + 8)]
def el3 (b i : Nat) : List (Nat × List SV) := [(b, elt i), (b + 1, elt (i + 4)), (b + 2, elt (i + 8))]
def addPS : Sm := { bd := List.replicate 36 W64, args := [.ptr 0 0, .ptr 1 0, .ptr 2 0], mem := [nP 3, nP 6, nP 9] ++ ptBs 0 ++ ptBs 12 ++ ptBs 24, al := [], outs := [{ nbd := List.replicate 12 W64, val := .ptr 0 0, writes := el3 3 36, news := [], post := [(70, vars 12 36)] }] }
def addQS : Sm := { bd := List.replicate 24 W64, args := [.ptr 0 0, .ptr 0 0, .ptr 1 0], mem := [nP 2, nP 5] ++ ptBs 0 ++ ptBs 12, al := [], outs := [{ nbd := List.replicate 12 W64, val := .ptr 0 0, writes := el3 2 24, news := [], post := [(70, vars 0 36)] }] }
def dblPS : Sm := { bd := List.replicate 24 W64, args := [.ptr 0 0, .ptr 1 0], mem := [nP 2, nP 5] ++ ptBs 0 ++ ptBs 12, al := [], outs := [{ nbd := List.replicate 12 W64, val := .ptr 0 0, writes := el3 2 24, news := [], post := [(71, vars 12 24)] }] }
def dblQS : Sm := { bd := List.replicate 12 W64, args := [.ptr 0 0, .ptr 0 0], mem := [nP 1] ++ ptBs 0, al := [], outs := [{ nbd := List.replicate 12 W64, val := .ptr 0 0, writes := el3 1 12, news := [], post := [(71, vars 0 24)] }] }
def setPS : Sm := { bd := List.replicate 24 W64, args := [.ptr 0 0, .ptr 1 0], mem := [nP 2, nP 5] ++ ptBs 0 ++ ptBs 12, al := [], outs := [{ nbd := [], val := .ptr 0 0, writes := el3 2 12, news := [], post := [] }] }
def selPS : Sm := { bd := List.replicate 24 W64 ++ [(0, 1)], args := [.ptr 0 0, .ptr 1 0, .ptr 0 0, .int .i64 (.var 24)], mem := [nP 2, nP 5] ++ ptBs 0 ++ ptBs 12, al := [], outs := [{ nbd := List.replicate 12 W64, val := .ptr 0 0, writes := el3 2 25, news := [], post := [(72, [.var 24] ++ vars 12 12 ++ vars 0 12 ++ vars 25 12)] }] }
def ctEqS : Sm := { bd := [(0, 255), (0, 255)], args := [.int .u8 (.var 0), .int .u8 (.var 1)], mem := [], al := [], outs := [{ nbd := [(0, 1)], val := .int .i64 (.var 2), writes := [], news := [], post := [(73, vars 0 3)] }] }
def tabPs (c : Nat) : List Blk := (List.range 15).map fun j => nP (c + 3 * j)
def tabEs (i : Nat) : List Blk := (List.range 15).flatMap fun j => ptBs (i + 12 * j)
def tselS : Sm := { bd := List.replicate 192 W64 ++ [(0, 15)], args := [.ptr 0 0, .ptr 1 0, .int .u8 (.var 192)], mem := [⟨182, (List.range 15).map (fun j => .ptr (5 + j) 0), true⟩, nP 2] ++ ptBs 0 ++ tabPs 20 ++ tabEs 12, al := [], outs := [{ nbd := List.replicate 12 W64, val := .tup [], writes := el3 2 193, news := [], post := [(74, [.var 192] ++ vars 12 180 ++ vars 193 12)] }] }
end Go.Vm
end
